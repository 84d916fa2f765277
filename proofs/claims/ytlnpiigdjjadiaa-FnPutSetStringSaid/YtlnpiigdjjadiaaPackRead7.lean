/-
  Ways through the reference's reader of what stands behind a code from C0 to DF (spec.takeCoded), part 7.
-/
import Derived.Test.YtlnpiigdjjadiaaPackRead2
namespace Go.Proofs.Ytlnpiigdjjadiaa
set_option linter.unusedSimpArgs false
set_option linter.unusedVariables false
open Go.RowKit
set_option maxRecDepth 100000 in
set_option maxHeartbeats 800000 in
theorem takeCoded_g212 (lv : Int) (b : Nat) (f : List UInt8 → Option (Pack × List UInt8)) (hb1 : 212 ≤ b) (hb2 : b ≤ 212) (S : Nat → Prop) (A : Option Addr) (bs : List UInt8) (cap : Nat) (w : World)
    (hr : RB w S A bs) (hc : bs.length ≤ cap) (hcap : cap ≤ 9223372036854775807) (hS : Old w S) (hn : codeSize b ≤ bs.length) :
    Calls Try.prog 29 #[.int .i64 b, .slice A bs.length cap, .int .i64 lv] w (Took S w (tCoded f b bs)) := by
  have hgoal : tCoded f b bs = tExt 1 (bs.drop (codeSize b)) := by
    unfold tCoded
    simp only
    rw [if_neg (by omega), if_neg (by omega), if_neg (by omega), if_neg (by omega), if_neg (by omega), if_neg (by omega), if_neg (by omega), if_neg (by omega), if_neg (by omega), if_pos (by omega), show 2 ^ (b - 212) = 1 by rw [show b - 212 = 0 by omega]]
  rw [hgoal]
  clear hgoal
  have hlk := fun (w : World) (n : Nat) (hn : w.heap.size = n) => run_lookup_lit Try.underlying78 Try.underlying3 w codeSizes n hn b zero2
  rw [look_size b (by omega)] at hlk
  have hc8 := codeSize_le b (by omega)
  generalize codeSize b = cs at *
  have hu8 := bigN_lt8 bs cs hc8
  have hb : (b : Int) - 212 = 0 := by omega
  have t193 : ((b : Int) == 193) = false := by simp; omega
  have t192 : ((b : Int) == 192) = false := by simp; omega
  have t194 : ((b : Int) == 194) = false := by simp; omega
  have t195 : ((b : Int) == 195) = false := by simp; omega
  have t202 : ((b : Int) == 202) = false := by simp; omega
  have t203 : ((b : Int) == 203) = false := by simp; omega
  go_enter Try.func29, Try.ntmps29
  go_wp2_with (first
    | (refine wpList_mapLit Try.underlying78 Try.underlying3 23 codeSizes ?hm ?hl ?hf ?_; (case hm => simp); (case hl => kernel_rfl); (case hf => kernel_rfl); simp only [List.drop_succ_cons, List.drop_zero])
    | (go_at_call 45; refine (takeBig_ok S A bs cap cs _ (hr.keep (by go_simp)) hc hcap hn hc8).mono ?_; rintro e w3 ⟨rfl, hq⟩; have hb3 := hq.below ((((Below.refl w.heap.size w).alloc (Nat.le_refl _) _).alloc (by first | omega | (simp; omega) | (simp; done)) _).alloc (by first | omega | (simp; omega) | (simp; done)) _); have hst : Stays S w w3 := hq.stays (by go_simp); have ho3 : Old w3 S := hq.old (by go_simp); have hB0 := hq.blk (((Blk.new w 31 _).alloc _).alloc _); have hz3 := hq.size; simp only [World.size_alloc] at hz3; clear hq; obtain ⟨⟨p0, p1, p2, p3, p4⟩, ⟨q0, q1, q2, q3, q4⟩⟩ := five_cells hB0))
  refine (takeExt_any _ 1 (by simp) _ (bs.drop cs) _ _ S _ (by simp) ((hr.cut hn hc).keep hst) (by simp; omega) (by omega) ho3 (by omega)).mono ?_
  rintro e w2 ⟨kind, num, text, ext, K, kl, kc, A2, n2, cap2, bo, rfl, hbel, htr⟩
  clear p0 p1 p2 p3 p4 q0 q1 q2 q3 q4
  obtain ⟨⟨a0, a1, a2, a3, a4⟩, ⟨f0, f1, f2, f3, f4⟩⟩ := five_cells (hB0.below hbel (by first | omega | (simp; omega) | (simp; done)))
  have hz := hbel.size
  go_wp2
  refine bodyPost_ret (v := .tuple #[packV kind num text ext K kl kc, .slice A2 n2 cap2, .bool bo]) (by simp [results, Try.results29, go_sem, a0, a1, a2, a3, a4]) rfl ?_
  exact ⟨_, _, _, _, _, _, _, _, _, _, _, rfl, below_set5 (hb3.trans (hbel.mono (by first | omega | (simp; omega) | (simp; done)))) (Nat.le_refl _) _ _ _ _ _, tookR_later htr (by first | omega | (simp; omega) | (simp; done)) (stays_set5 (Stays.refl _ _) (by first | omega | (simp; omega) | (simp; done)) _ _ _ _ _) (stays_set5 (Stays.refl _ _) (fun h => by have := hS _ h; omega) _ _ _ _ _) (by first | omega | (simp; omega) | (simp; done))⟩
set_option maxRecDepth 100000 in
set_option maxHeartbeats 800000 in
theorem takeCoded_g213 (lv : Int) (b : Nat) (f : List UInt8 → Option (Pack × List UInt8)) (hb1 : 213 ≤ b) (hb2 : b ≤ 213) (S : Nat → Prop) (A : Option Addr) (bs : List UInt8) (cap : Nat) (w : World)
    (hr : RB w S A bs) (hc : bs.length ≤ cap) (hcap : cap ≤ 9223372036854775807) (hS : Old w S) (hn : codeSize b ≤ bs.length) :
    Calls Try.prog 29 #[.int .i64 b, .slice A bs.length cap, .int .i64 lv] w (Took S w (tCoded f b bs)) := by
  have hgoal : tCoded f b bs = tExt 2 (bs.drop (codeSize b)) := by
    unfold tCoded
    simp only
    rw [if_neg (by omega), if_neg (by omega), if_neg (by omega), if_neg (by omega), if_neg (by omega), if_neg (by omega), if_neg (by omega), if_neg (by omega), if_neg (by omega), if_pos (by omega), show 2 ^ (b - 212) = 2 by rw [show b - 212 = 1 by omega]]
  rw [hgoal]
  clear hgoal
  have hlk := fun (w : World) (n : Nat) (hn : w.heap.size = n) => run_lookup_lit Try.underlying78 Try.underlying3 w codeSizes n hn b zero2
  rw [look_size b (by omega)] at hlk
  have hc8 := codeSize_le b (by omega)
  generalize codeSize b = cs at *
  have hu8 := bigN_lt8 bs cs hc8
  have hb : (b : Int) - 212 = 1 := by omega
  have t193 : ((b : Int) == 193) = false := by simp; omega
  have t192 : ((b : Int) == 192) = false := by simp; omega
  have t194 : ((b : Int) == 194) = false := by simp; omega
  have t195 : ((b : Int) == 195) = false := by simp; omega
  have t202 : ((b : Int) == 202) = false := by simp; omega
  have t203 : ((b : Int) == 203) = false := by simp; omega
  go_enter Try.func29, Try.ntmps29
  go_wp2_with (first
    | (refine wpList_mapLit Try.underlying78 Try.underlying3 23 codeSizes ?hm ?hl ?hf ?_; (case hm => simp); (case hl => kernel_rfl); (case hf => kernel_rfl); simp only [List.drop_succ_cons, List.drop_zero])
    | (go_at_call 45; refine (takeBig_ok S A bs cap cs _ (hr.keep (by go_simp)) hc hcap hn hc8).mono ?_; rintro e w3 ⟨rfl, hq⟩; have hb3 := hq.below ((((Below.refl w.heap.size w).alloc (Nat.le_refl _) _).alloc (by first | omega | (simp; omega) | (simp; done)) _).alloc (by first | omega | (simp; omega) | (simp; done)) _); have hst : Stays S w w3 := hq.stays (by go_simp); have ho3 : Old w3 S := hq.old (by go_simp); have hB0 := hq.blk (((Blk.new w 31 _).alloc _).alloc _); have hz3 := hq.size; simp only [World.size_alloc] at hz3; clear hq; obtain ⟨⟨p0, p1, p2, p3, p4⟩, ⟨q0, q1, q2, q3, q4⟩⟩ := five_cells hB0))
  refine (takeExt_any _ 2 (by simp) _ (bs.drop cs) _ _ S _ (by simp) ((hr.cut hn hc).keep hst) (by simp; omega) (by omega) ho3 (by omega)).mono ?_
  rintro e w2 ⟨kind, num, text, ext, K, kl, kc, A2, n2, cap2, bo, rfl, hbel, htr⟩
  clear p0 p1 p2 p3 p4 q0 q1 q2 q3 q4
  obtain ⟨⟨a0, a1, a2, a3, a4⟩, ⟨f0, f1, f2, f3, f4⟩⟩ := five_cells (hB0.below hbel (by first | omega | (simp; omega) | (simp; done)))
  have hz := hbel.size
  go_wp2
  refine bodyPost_ret (v := .tuple #[packV kind num text ext K kl kc, .slice A2 n2 cap2, .bool bo]) (by simp [results, Try.results29, go_sem, a0, a1, a2, a3, a4]) rfl ?_
  exact ⟨_, _, _, _, _, _, _, _, _, _, _, rfl, below_set5 (hb3.trans (hbel.mono (by first | omega | (simp; omega) | (simp; done)))) (Nat.le_refl _) _ _ _ _ _, tookR_later htr (by first | omega | (simp; omega) | (simp; done)) (stays_set5 (Stays.refl _ _) (by first | omega | (simp; omega) | (simp; done)) _ _ _ _ _) (stays_set5 (Stays.refl _ _) (fun h => by have := hS _ h; omega) _ _ _ _ _) (by first | omega | (simp; omega) | (simp; done))⟩
set_option maxRecDepth 100000 in
set_option maxHeartbeats 800000 in
theorem takeCoded_g214 (lv : Int) (b : Nat) (f : List UInt8 → Option (Pack × List UInt8)) (hb1 : 214 ≤ b) (hb2 : b ≤ 214) (S : Nat → Prop) (A : Option Addr) (bs : List UInt8) (cap : Nat) (w : World)
    (hr : RB w S A bs) (hc : bs.length ≤ cap) (hcap : cap ≤ 9223372036854775807) (hS : Old w S) (hn : codeSize b ≤ bs.length) :
    Calls Try.prog 29 #[.int .i64 b, .slice A bs.length cap, .int .i64 lv] w (Took S w (tCoded f b bs)) := by
  have hgoal : tCoded f b bs = tExt 4 (bs.drop (codeSize b)) := by
    unfold tCoded
    simp only
    rw [if_neg (by omega), if_neg (by omega), if_neg (by omega), if_neg (by omega), if_neg (by omega), if_neg (by omega), if_neg (by omega), if_neg (by omega), if_neg (by omega), if_pos (by omega), show 2 ^ (b - 212) = 4 by rw [show b - 212 = 2 by omega]]
  rw [hgoal]
  clear hgoal
  have hlk := fun (w : World) (n : Nat) (hn : w.heap.size = n) => run_lookup_lit Try.underlying78 Try.underlying3 w codeSizes n hn b zero2
  rw [look_size b (by omega)] at hlk
  have hc8 := codeSize_le b (by omega)
  generalize codeSize b = cs at *
  have hu8 := bigN_lt8 bs cs hc8
  have hb : (b : Int) - 212 = 2 := by omega
  have t193 : ((b : Int) == 193) = false := by simp; omega
  have t192 : ((b : Int) == 192) = false := by simp; omega
  have t194 : ((b : Int) == 194) = false := by simp; omega
  have t195 : ((b : Int) == 195) = false := by simp; omega
  have t202 : ((b : Int) == 202) = false := by simp; omega
  have t203 : ((b : Int) == 203) = false := by simp; omega
  go_enter Try.func29, Try.ntmps29
  go_wp2_with (first
    | (refine wpList_mapLit Try.underlying78 Try.underlying3 23 codeSizes ?hm ?hl ?hf ?_; (case hm => simp); (case hl => kernel_rfl); (case hf => kernel_rfl); simp only [List.drop_succ_cons, List.drop_zero])
    | (go_at_call 45; refine (takeBig_ok S A bs cap cs _ (hr.keep (by go_simp)) hc hcap hn hc8).mono ?_; rintro e w3 ⟨rfl, hq⟩; have hb3 := hq.below ((((Below.refl w.heap.size w).alloc (Nat.le_refl _) _).alloc (by first | omega | (simp; omega) | (simp; done)) _).alloc (by first | omega | (simp; omega) | (simp; done)) _); have hst : Stays S w w3 := hq.stays (by go_simp); have ho3 : Old w3 S := hq.old (by go_simp); have hB0 := hq.blk (((Blk.new w 31 _).alloc _).alloc _); have hz3 := hq.size; simp only [World.size_alloc] at hz3; clear hq; obtain ⟨⟨p0, p1, p2, p3, p4⟩, ⟨q0, q1, q2, q3, q4⟩⟩ := five_cells hB0))
  refine (takeExt_any _ 4 (by simp) _ (bs.drop cs) _ _ S _ (by simp) ((hr.cut hn hc).keep hst) (by simp; omega) (by omega) ho3 (by omega)).mono ?_
  rintro e w2 ⟨kind, num, text, ext, K, kl, kc, A2, n2, cap2, bo, rfl, hbel, htr⟩
  clear p0 p1 p2 p3 p4 q0 q1 q2 q3 q4
  obtain ⟨⟨a0, a1, a2, a3, a4⟩, ⟨f0, f1, f2, f3, f4⟩⟩ := five_cells (hB0.below hbel (by first | omega | (simp; omega) | (simp; done)))
  have hz := hbel.size
  go_wp2
  refine bodyPost_ret (v := .tuple #[packV kind num text ext K kl kc, .slice A2 n2 cap2, .bool bo]) (by simp [results, Try.results29, go_sem, a0, a1, a2, a3, a4]) rfl ?_
  exact ⟨_, _, _, _, _, _, _, _, _, _, _, rfl, below_set5 (hb3.trans (hbel.mono (by first | omega | (simp; omega) | (simp; done)))) (Nat.le_refl _) _ _ _ _ _, tookR_later htr (by first | omega | (simp; omega) | (simp; done)) (stays_set5 (Stays.refl _ _) (by first | omega | (simp; omega) | (simp; done)) _ _ _ _ _) (stays_set5 (Stays.refl _ _) (fun h => by have := hS _ h; omega) _ _ _ _ _) (by first | omega | (simp; omega) | (simp; done))⟩
set_option maxRecDepth 100000 in
set_option maxHeartbeats 800000 in
theorem takeCoded_g215 (lv : Int) (b : Nat) (f : List UInt8 → Option (Pack × List UInt8)) (hb1 : 215 ≤ b) (hb2 : b ≤ 215) (S : Nat → Prop) (A : Option Addr) (bs : List UInt8) (cap : Nat) (w : World)
    (hr : RB w S A bs) (hc : bs.length ≤ cap) (hcap : cap ≤ 9223372036854775807) (hS : Old w S) (hn : codeSize b ≤ bs.length) :
    Calls Try.prog 29 #[.int .i64 b, .slice A bs.length cap, .int .i64 lv] w (Took S w (tCoded f b bs)) := by
  have hgoal : tCoded f b bs = tExt 8 (bs.drop (codeSize b)) := by
    unfold tCoded
    simp only
    rw [if_neg (by omega), if_neg (by omega), if_neg (by omega), if_neg (by omega), if_neg (by omega), if_neg (by omega), if_neg (by omega), if_neg (by omega), if_neg (by omega), if_pos (by omega), show 2 ^ (b - 212) = 8 by rw [show b - 212 = 3 by omega]]
  rw [hgoal]
  clear hgoal
  have hlk := fun (w : World) (n : Nat) (hn : w.heap.size = n) => run_lookup_lit Try.underlying78 Try.underlying3 w codeSizes n hn b zero2
  rw [look_size b (by omega)] at hlk
  have hc8 := codeSize_le b (by omega)
  generalize codeSize b = cs at *
  have hu8 := bigN_lt8 bs cs hc8
  have hb : (b : Int) - 212 = 3 := by omega
  have t193 : ((b : Int) == 193) = false := by simp; omega
  have t192 : ((b : Int) == 192) = false := by simp; omega
  have t194 : ((b : Int) == 194) = false := by simp; omega
  have t195 : ((b : Int) == 195) = false := by simp; omega
  have t202 : ((b : Int) == 202) = false := by simp; omega
  have t203 : ((b : Int) == 203) = false := by simp; omega
  go_enter Try.func29, Try.ntmps29
  go_wp2_with (first
    | (refine wpList_mapLit Try.underlying78 Try.underlying3 23 codeSizes ?hm ?hl ?hf ?_; (case hm => simp); (case hl => kernel_rfl); (case hf => kernel_rfl); simp only [List.drop_succ_cons, List.drop_zero])
    | (go_at_call 45; refine (takeBig_ok S A bs cap cs _ (hr.keep (by go_simp)) hc hcap hn hc8).mono ?_; rintro e w3 ⟨rfl, hq⟩; have hb3 := hq.below ((((Below.refl w.heap.size w).alloc (Nat.le_refl _) _).alloc (by first | omega | (simp; omega) | (simp; done)) _).alloc (by first | omega | (simp; omega) | (simp; done)) _); have hst : Stays S w w3 := hq.stays (by go_simp); have ho3 : Old w3 S := hq.old (by go_simp); have hB0 := hq.blk (((Blk.new w 31 _).alloc _).alloc _); have hz3 := hq.size; simp only [World.size_alloc] at hz3; clear hq; obtain ⟨⟨p0, p1, p2, p3, p4⟩, ⟨q0, q1, q2, q3, q4⟩⟩ := five_cells hB0))
  refine (takeExt_any _ 8 (by simp) _ (bs.drop cs) _ _ S _ (by simp) ((hr.cut hn hc).keep hst) (by simp; omega) (by omega) ho3 (by omega)).mono ?_
  rintro e w2 ⟨kind, num, text, ext, K, kl, kc, A2, n2, cap2, bo, rfl, hbel, htr⟩
  clear p0 p1 p2 p3 p4 q0 q1 q2 q3 q4
  obtain ⟨⟨a0, a1, a2, a3, a4⟩, ⟨f0, f1, f2, f3, f4⟩⟩ := five_cells (hB0.below hbel (by first | omega | (simp; omega) | (simp; done)))
  have hz := hbel.size
  go_wp2
  refine bodyPost_ret (v := .tuple #[packV kind num text ext K kl kc, .slice A2 n2 cap2, .bool bo]) (by simp [results, Try.results29, go_sem, a0, a1, a2, a3, a4]) rfl ?_
  exact ⟨_, _, _, _, _, _, _, _, _, _, _, rfl, below_set5 (hb3.trans (hbel.mono (by first | omega | (simp; omega) | (simp; done)))) (Nat.le_refl _) _ _ _ _ _, tookR_later htr (by first | omega | (simp; omega) | (simp; done)) (stays_set5 (Stays.refl _ _) (by first | omega | (simp; omega) | (simp; done)) _ _ _ _ _) (stays_set5 (Stays.refl _ _) (fun h => by have := hS _ h; omega) _ _ _ _ _) (by first | omega | (simp; omega) | (simp; done))⟩
set_option maxRecDepth 100000 in
set_option maxHeartbeats 800000 in
theorem takeCoded_g216 (lv : Int) (b : Nat) (f : List UInt8 → Option (Pack × List UInt8)) (hb1 : 216 ≤ b) (hb2 : b ≤ 216) (S : Nat → Prop) (A : Option Addr) (bs : List UInt8) (cap : Nat) (w : World)
    (hr : RB w S A bs) (hc : bs.length ≤ cap) (hcap : cap ≤ 9223372036854775807) (hS : Old w S) (hn : codeSize b ≤ bs.length) :
    Calls Try.prog 29 #[.int .i64 b, .slice A bs.length cap, .int .i64 lv] w (Took S w (tCoded f b bs)) := by
  have hgoal : tCoded f b bs = tExt 16 (bs.drop (codeSize b)) := by
    unfold tCoded
    simp only
    rw [if_neg (by omega), if_neg (by omega), if_neg (by omega), if_neg (by omega), if_neg (by omega), if_neg (by omega), if_neg (by omega), if_neg (by omega), if_neg (by omega), if_pos (by omega), show 2 ^ (b - 212) = 16 by rw [show b - 212 = 4 by omega]]
  rw [hgoal]
  clear hgoal
  have hlk := fun (w : World) (n : Nat) (hn : w.heap.size = n) => run_lookup_lit Try.underlying78 Try.underlying3 w codeSizes n hn b zero2
  rw [look_size b (by omega)] at hlk
  have hc8 := codeSize_le b (by omega)
  generalize codeSize b = cs at *
  have hu8 := bigN_lt8 bs cs hc8
  have hb : (b : Int) - 212 = 4 := by omega
  have t193 : ((b : Int) == 193) = false := by simp; omega
  have t192 : ((b : Int) == 192) = false := by simp; omega
  have t194 : ((b : Int) == 194) = false := by simp; omega
  have t195 : ((b : Int) == 195) = false := by simp; omega
  have t202 : ((b : Int) == 202) = false := by simp; omega
  have t203 : ((b : Int) == 203) = false := by simp; omega
  go_enter Try.func29, Try.ntmps29
  go_wp2_with (first
    | (refine wpList_mapLit Try.underlying78 Try.underlying3 23 codeSizes ?hm ?hl ?hf ?_; (case hm => simp); (case hl => kernel_rfl); (case hf => kernel_rfl); simp only [List.drop_succ_cons, List.drop_zero])
    | (go_at_call 45; refine (takeBig_ok S A bs cap cs _ (hr.keep (by go_simp)) hc hcap hn hc8).mono ?_; rintro e w3 ⟨rfl, hq⟩; have hb3 := hq.below ((((Below.refl w.heap.size w).alloc (Nat.le_refl _) _).alloc (by first | omega | (simp; omega) | (simp; done)) _).alloc (by first | omega | (simp; omega) | (simp; done)) _); have hst : Stays S w w3 := hq.stays (by go_simp); have ho3 : Old w3 S := hq.old (by go_simp); have hB0 := hq.blk (((Blk.new w 31 _).alloc _).alloc _); have hz3 := hq.size; simp only [World.size_alloc] at hz3; clear hq; obtain ⟨⟨p0, p1, p2, p3, p4⟩, ⟨q0, q1, q2, q3, q4⟩⟩ := five_cells hB0))
  refine (takeExt_any _ 16 (by simp) _ (bs.drop cs) _ _ S _ (by simp) ((hr.cut hn hc).keep hst) (by simp; omega) (by omega) ho3 (by omega)).mono ?_
  rintro e w2 ⟨kind, num, text, ext, K, kl, kc, A2, n2, cap2, bo, rfl, hbel, htr⟩
  clear p0 p1 p2 p3 p4 q0 q1 q2 q3 q4
  obtain ⟨⟨a0, a1, a2, a3, a4⟩, ⟨f0, f1, f2, f3, f4⟩⟩ := five_cells (hB0.below hbel (by first | omega | (simp; omega) | (simp; done)))
  have hz := hbel.size
  go_wp2
  refine bodyPost_ret (v := .tuple #[packV kind num text ext K kl kc, .slice A2 n2 cap2, .bool bo]) (by simp [results, Try.results29, go_sem, a0, a1, a2, a3, a4]) rfl ?_
  exact ⟨_, _, _, _, _, _, _, _, _, _, _, rfl, below_set5 (hb3.trans (hbel.mono (by first | omega | (simp; omega) | (simp; done)))) (Nat.le_refl _) _ _ _ _ _, tookR_later htr (by first | omega | (simp; omega) | (simp; done)) (stays_set5 (Stays.refl _ _) (by first | omega | (simp; omega) | (simp; done)) _ _ _ _ _) (stays_set5 (Stays.refl _ _) (fun h => by have := hS _ h; omega) _ _ _ _ _) (by first | omega | (simp; omega) | (simp; done))⟩
end Go.Proofs.Ytlnpiigdjjadiaa
