/-
  Ways through the reference's reader of what stands behind a code from C0 to DF (spec.takeCoded), part 6.
-/
import Derived.Test.YtlnpiigdjjadiaaPackRead5
namespace Go.Proofs.Ytlnpiigdjjadiaa
set_option linter.unusedSimpArgs false
set_option linter.unusedVariables false
open Go.RowKit
set_option maxRecDepth 100000 in
set_option maxHeartbeats 800000 in
theorem takeCoded_g210p (lv : Int) (b : Nat) (f : List UInt8 → Option (Pack × List UInt8)) (hb1 : 210 ≤ b) (hb2 : b ≤ 210) (S : Nat → Prop) (A : Option Addr) (bs : List UInt8) (cap : Nat) (w : World)
    (hr : RB w S A bs) (hc : bs.length ≤ cap) (hcap : cap ≤ 9223372036854775807) (hS : Old w S) (hn : codeSize b ≤ bs.length)
    (hs : 0 ≤ signed (codeSize b) (bigN (bs.take (codeSize b)))) :
    Calls Try.prog 29 #[.int .i64 b, .slice A bs.length cap, .int .i64 lv] w (Took S w (tCoded f b bs)) := by
  have hgoal : tCoded f b bs = some (.mk 3 (bigN (bs.take (codeSize b))) [] 0 [], (bs.drop (codeSize b))) := by
    unfold tCoded
    simp only
    rw [if_neg (by omega), if_neg (by omega), if_neg (by omega), if_neg (by omega), if_neg (by omega), if_neg (by omega), if_neg (by omega), if_neg (by omega), if_pos (by omega), if_pos hs]
  rw [hgoal]
  clear hgoal
  have hlk := fun (w : World) (n : Nat) (hn : w.heap.size = n) => run_lookup_lit Try.underlying78 Try.underlying3 w codeSizes n hn b zero2
  have hcs : codeSize b = 4 := by rw [show b = 210 from by omega]; rfl
  rw [look_size b (by omega)] at hlk
  rw [hcs] at hlk hn hs ⊢
  clear hcs
  have hu8 : bigN (bs.take 4) < 4294967296 := by
    have h := bigN_lt (bs.take 4)
    rw [List.length_take, Nat.min_eq_left hn] at h
    exact h
  obtain ⟨T, hT⟩ : ∃ T, T = Took S w (some (.mk 3 (bigN (bs.take 4)) [] 0 [], bs.drop 4)) := ⟨_, rfl⟩
  rw [← hT]
  have HT := hide hT
  clear hT
  have hsg := signed_4 _ hu8
  have hsl := signed_bd4 _ hu8
  have hcut := hide (hr.cut hn hc)
  have hB := takeBig_ok S A bs cap 4
  generalize bigN (bs.take 4) = u at *
  have t193 : ((b : Int) == 193) = false := by simp; omega
  have t192 : ((b : Int) == 192) = false := by simp; omega
  have t194 : ((b : Int) == 194) = false := by simp; omega
  have t195 : ((b : Int) == 195) = false := by simp; omega
  have t202 : ((b : Int) == 202) = false := by simp; omega
  have t203 : ((b : Int) == 203) = false := by simp; omega
  go_enter Try.func29, Try.ntmps29
  go_wp2_with (first
    | (refine wpList_mapLit Try.underlying78 Try.underlying3 23 codeSizes ?hm ?hl ?hf ?_; (case hm => simp); (case hl => kernel_rfl); (case hf => kernel_rfl); simp only [List.drop_succ_cons, List.drop_zero])
    | (go_at_call 45; refine (hB _ (hr.keep (by go_simp)) hc hcap hn (by omega)).mono ?_; rintro e w3 ⟨rfl, hq⟩; have hb3 := hq.below ((((Below.refl w.heap.size w).alloc (Nat.le_refl _) _).alloc (by first | omega | (simp; omega) | (simp; done)) _).alloc (by first | omega | (simp; omega) | (simp; done)) _); have hst : Stays S w w3 := hq.stays (by go_simp); have ho3 : Old w3 S := hq.old (by go_simp); have hB0 := hq.blk (((Blk.new w 31 _).alloc _).alloc _); have hz3 := hq.size; simp only [World.size_alloc] at hz3; clear hq; obtain ⟨⟨p0, p1, p2, p3, p4⟩, ⟨q0, q1, q2, q3, q4⟩⟩ := five_cells hB0))
  refine bodyPost_ret (v := .tuple #[packV 3 u [] 0 none 0 0, .slice (cutA A cap 4 1) (bs.length - 4) (cap - 4), .bool true]) (by simp [results, Try.results29, go_sem, p0, p1, p2, p3, p4]) rfl ?_
  rw [unhide HT]
  exact took_flat (by simp) (below_set5 hb3 (Nat.le_refl _) _ _ _ _ _) ((unhide hcut).keep (stays_set5 hst (fun h => by have := hS _ h; omega) _ _ _ _ _)) (by first | omega | (simp; omega) | (simp; done)) (by unfold maxLen; omega)
set_option maxRecDepth 100000 in
set_option maxHeartbeats 800000 in
theorem takeCoded_g210n (lv : Int) (b : Nat) (f : List UInt8 → Option (Pack × List UInt8)) (hb1 : 210 ≤ b) (hb2 : b ≤ 210) (S : Nat → Prop) (A : Option Addr) (bs : List UInt8) (cap : Nat) (w : World)
    (hr : RB w S A bs) (hc : bs.length ≤ cap) (hcap : cap ≤ 9223372036854775807) (hS : Old w S) (hn : codeSize b ≤ bs.length)
    (hs : ¬ 0 ≤ signed (codeSize b) (bigN (bs.take (codeSize b)))) :
    Calls Try.prog 29 #[.int .i64 b, .slice A bs.length cap, .int .i64 lv] w (Took S w (tCoded f b bs)) := by
  have hgoal : tCoded f b bs = some (.mk 2 (signed (codeSize b) (bigN (bs.take (codeSize b))) + 18446744073709551616).toNat [] 0 [], (bs.drop (codeSize b))) := by
    unfold tCoded
    simp only
    rw [if_neg (by omega), if_neg (by omega), if_neg (by omega), if_neg (by omega), if_neg (by omega), if_neg (by omega), if_neg (by omega), if_neg (by omega), if_pos (by omega), if_neg hs]
  rw [hgoal]
  clear hgoal
  have hlk := fun (w : World) (n : Nat) (hn : w.heap.size = n) => run_lookup_lit Try.underlying78 Try.underlying3 w codeSizes n hn b zero2
  have hcs : codeSize b = 4 := by rw [show b = 210 from by omega]; rfl
  rw [look_size b (by omega)] at hlk
  rw [hcs] at hlk hn hs ⊢
  clear hcs
  have hu8 : bigN (bs.take 4) < 4294967296 := by
    have h := bigN_lt (bs.take 4)
    rw [List.length_take, Nat.min_eq_left hn] at h
    exact h
  obtain ⟨T, hT⟩ : ∃ T, T = Took S w (some (.mk 2 (signed 4 (bigN (bs.take 4)) + 18446744073709551616).toNat [] 0 [], bs.drop 4)) := ⟨_, rfl⟩
  rw [← hT]
  have HT := hide hT
  clear hT
  have hsg := signed_4 _ hu8
  have hsl := signed_bd4 _ hu8
  have hcut := hide (hr.cut hn hc)
  have hB := takeBig_ok S A bs cap 4
  generalize bigN (bs.take 4) = u at *
  have t193 : ((b : Int) == 193) = false := by simp; omega
  have t192 : ((b : Int) == 192) = false := by simp; omega
  have t194 : ((b : Int) == 194) = false := by simp; omega
  have t195 : ((b : Int) == 195) = false := by simp; omega
  have t202 : ((b : Int) == 202) = false := by simp; omega
  have t203 : ((b : Int) == 203) = false := by simp; omega
  go_enter Try.func29, Try.ntmps29
  go_wp2_with (first
    | (refine wpList_mapLit Try.underlying78 Try.underlying3 23 codeSizes ?hm ?hl ?hf ?_; (case hm => simp); (case hl => kernel_rfl); (case hf => kernel_rfl); simp only [List.drop_succ_cons, List.drop_zero])
    | (go_at_call 45; refine (hB _ (hr.keep (by go_simp)) hc hcap hn (by omega)).mono ?_; rintro e w3 ⟨rfl, hq⟩; have hb3 := hq.below ((((Below.refl w.heap.size w).alloc (Nat.le_refl _) _).alloc (by first | omega | (simp; omega) | (simp; done)) _).alloc (by first | omega | (simp; omega) | (simp; done)) _); have hst : Stays S w w3 := hq.stays (by go_simp); have ho3 : Old w3 S := hq.old (by go_simp); have hB0 := hq.blk (((Blk.new w 31 _).alloc _).alloc _); have hz3 := hq.size; simp only [World.size_alloc] at hz3; clear hq; obtain ⟨⟨p0, p1, p2, p3, p4⟩, ⟨q0, q1, q2, q3, q4⟩⟩ := five_cells hB0))
  refine bodyPost_ret (v := .tuple #[packV 2 (signed 4 u + 18446744073709551616).toNat [] 0 none 0 0, .slice (cutA A cap 4 1) (bs.length - 4) (cap - 4), .bool true]) (by simp [results, Try.results29, go_sem, p0, p1, p2, p3, p4, u64_neg _ hsl.1 (by omega)]) rfl ?_
  rw [unhide HT]
  exact took_flat (by simp) (below_set5 hb3 (Nat.le_refl _) _ _ _ _ _) ((unhide hcut).keep (stays_set5 hst (fun h => by have := hS _ h; omega) _ _ _ _ _)) (by first | omega | (simp; omega) | (simp; done)) (by unfold maxLen; omega)
set_option maxRecDepth 100000 in
set_option maxHeartbeats 800000 in
theorem takeCoded_g211p (lv : Int) (b : Nat) (f : List UInt8 → Option (Pack × List UInt8)) (hb1 : 211 ≤ b) (hb2 : b ≤ 211) (S : Nat → Prop) (A : Option Addr) (bs : List UInt8) (cap : Nat) (w : World)
    (hr : RB w S A bs) (hc : bs.length ≤ cap) (hcap : cap ≤ 9223372036854775807) (hS : Old w S) (hn : codeSize b ≤ bs.length)
    (hs : 0 ≤ signed (codeSize b) (bigN (bs.take (codeSize b)))) :
    Calls Try.prog 29 #[.int .i64 b, .slice A bs.length cap, .int .i64 lv] w (Took S w (tCoded f b bs)) := by
  have hgoal : tCoded f b bs = some (.mk 3 (bigN (bs.take (codeSize b))) [] 0 [], (bs.drop (codeSize b))) := by
    unfold tCoded
    simp only
    rw [if_neg (by omega), if_neg (by omega), if_neg (by omega), if_neg (by omega), if_neg (by omega), if_neg (by omega), if_neg (by omega), if_neg (by omega), if_pos (by omega), if_pos hs]
  rw [hgoal]
  clear hgoal
  have hlk := fun (w : World) (n : Nat) (hn : w.heap.size = n) => run_lookup_lit Try.underlying78 Try.underlying3 w codeSizes n hn b zero2
  have hcs : codeSize b = 8 := by rw [show b = 211 from by omega]; rfl
  rw [look_size b (by omega)] at hlk
  rw [hcs] at hlk hn hs ⊢
  clear hcs
  have hu8 : bigN (bs.take 8) < 18446744073709551616 := by
    have h := bigN_lt (bs.take 8)
    rw [List.length_take, Nat.min_eq_left hn] at h
    exact h
  obtain ⟨T, hT⟩ : ∃ T, T = Took S w (some (.mk 3 (bigN (bs.take 8)) [] 0 [], bs.drop 8)) := ⟨_, rfl⟩
  rw [← hT]
  have HT := hide hT
  clear hT
  have hsg := signed_8 _ hu8
  have hsl := signed_bd8 _ hu8
  have hcut := hide (hr.cut hn hc)
  have hB := takeBig_ok S A bs cap 8
  generalize bigN (bs.take 8) = u at *
  have t193 : ((b : Int) == 193) = false := by simp; omega
  have t192 : ((b : Int) == 192) = false := by simp; omega
  have t194 : ((b : Int) == 194) = false := by simp; omega
  have t195 : ((b : Int) == 195) = false := by simp; omega
  have t202 : ((b : Int) == 202) = false := by simp; omega
  have t203 : ((b : Int) == 203) = false := by simp; omega
  go_enter Try.func29, Try.ntmps29
  go_wp2_with (first
    | (refine wpList_mapLit Try.underlying78 Try.underlying3 23 codeSizes ?hm ?hl ?hf ?_; (case hm => simp); (case hl => kernel_rfl); (case hf => kernel_rfl); simp only [List.drop_succ_cons, List.drop_zero])
    | (go_at_call 45; refine (hB _ (hr.keep (by go_simp)) hc hcap hn (by omega)).mono ?_; rintro e w3 ⟨rfl, hq⟩; have hb3 := hq.below ((((Below.refl w.heap.size w).alloc (Nat.le_refl _) _).alloc (by first | omega | (simp; omega) | (simp; done)) _).alloc (by first | omega | (simp; omega) | (simp; done)) _); have hst : Stays S w w3 := hq.stays (by go_simp); have ho3 : Old w3 S := hq.old (by go_simp); have hB0 := hq.blk (((Blk.new w 31 _).alloc _).alloc _); have hz3 := hq.size; simp only [World.size_alloc] at hz3; clear hq; obtain ⟨⟨p0, p1, p2, p3, p4⟩, ⟨q0, q1, q2, q3, q4⟩⟩ := five_cells hB0))
  refine bodyPost_ret (v := .tuple #[packV 3 u [] 0 none 0 0, .slice (cutA A cap 8 1) (bs.length - 8) (cap - 8), .bool true]) (by simp [results, Try.results29, go_sem, p0, p1, p2, p3, p4]) rfl ?_
  rw [unhide HT]
  exact took_flat (by simp) (below_set5 hb3 (Nat.le_refl _) _ _ _ _ _) ((unhide hcut).keep (stays_set5 hst (fun h => by have := hS _ h; omega) _ _ _ _ _)) (by first | omega | (simp; omega) | (simp; done)) (by unfold maxLen; omega)
set_option maxRecDepth 100000 in
set_option maxHeartbeats 800000 in
theorem takeCoded_g211n (lv : Int) (b : Nat) (f : List UInt8 → Option (Pack × List UInt8)) (hb1 : 211 ≤ b) (hb2 : b ≤ 211) (S : Nat → Prop) (A : Option Addr) (bs : List UInt8) (cap : Nat) (w : World)
    (hr : RB w S A bs) (hc : bs.length ≤ cap) (hcap : cap ≤ 9223372036854775807) (hS : Old w S) (hn : codeSize b ≤ bs.length)
    (hs : ¬ 0 ≤ signed (codeSize b) (bigN (bs.take (codeSize b)))) :
    Calls Try.prog 29 #[.int .i64 b, .slice A bs.length cap, .int .i64 lv] w (Took S w (tCoded f b bs)) := by
  have hgoal : tCoded f b bs = some (.mk 2 (signed (codeSize b) (bigN (bs.take (codeSize b))) + 18446744073709551616).toNat [] 0 [], (bs.drop (codeSize b))) := by
    unfold tCoded
    simp only
    rw [if_neg (by omega), if_neg (by omega), if_neg (by omega), if_neg (by omega), if_neg (by omega), if_neg (by omega), if_neg (by omega), if_neg (by omega), if_pos (by omega), if_neg hs]
  rw [hgoal]
  clear hgoal
  have hlk := fun (w : World) (n : Nat) (hn : w.heap.size = n) => run_lookup_lit Try.underlying78 Try.underlying3 w codeSizes n hn b zero2
  have hcs : codeSize b = 8 := by rw [show b = 211 from by omega]; rfl
  rw [look_size b (by omega)] at hlk
  rw [hcs] at hlk hn hs ⊢
  clear hcs
  have hu8 : bigN (bs.take 8) < 18446744073709551616 := by
    have h := bigN_lt (bs.take 8)
    rw [List.length_take, Nat.min_eq_left hn] at h
    exact h
  obtain ⟨T, hT⟩ : ∃ T, T = Took S w (some (.mk 2 (signed 8 (bigN (bs.take 8)) + 18446744073709551616).toNat [] 0 [], bs.drop 8)) := ⟨_, rfl⟩
  rw [← hT]
  have HT := hide hT
  clear hT
  have hsg := signed_8 _ hu8
  have hsl := signed_bd8 _ hu8
  have hcut := hide (hr.cut hn hc)
  have hB := takeBig_ok S A bs cap 8
  generalize bigN (bs.take 8) = u at *
  have t193 : ((b : Int) == 193) = false := by simp; omega
  have t192 : ((b : Int) == 192) = false := by simp; omega
  have t194 : ((b : Int) == 194) = false := by simp; omega
  have t195 : ((b : Int) == 195) = false := by simp; omega
  have t202 : ((b : Int) == 202) = false := by simp; omega
  have t203 : ((b : Int) == 203) = false := by simp; omega
  go_enter Try.func29, Try.ntmps29
  go_wp2_with (first
    | (refine wpList_mapLit Try.underlying78 Try.underlying3 23 codeSizes ?hm ?hl ?hf ?_; (case hm => simp); (case hl => kernel_rfl); (case hf => kernel_rfl); simp only [List.drop_succ_cons, List.drop_zero])
    | (go_at_call 45; refine (hB _ (hr.keep (by go_simp)) hc hcap hn (by omega)).mono ?_; rintro e w3 ⟨rfl, hq⟩; have hb3 := hq.below ((((Below.refl w.heap.size w).alloc (Nat.le_refl _) _).alloc (by first | omega | (simp; omega) | (simp; done)) _).alloc (by first | omega | (simp; omega) | (simp; done)) _); have hst : Stays S w w3 := hq.stays (by go_simp); have ho3 : Old w3 S := hq.old (by go_simp); have hB0 := hq.blk (((Blk.new w 31 _).alloc _).alloc _); have hz3 := hq.size; simp only [World.size_alloc] at hz3; clear hq; obtain ⟨⟨p0, p1, p2, p3, p4⟩, ⟨q0, q1, q2, q3, q4⟩⟩ := five_cells hB0))
  refine bodyPost_ret (v := .tuple #[packV 2 (signed 8 u + 18446744073709551616).toNat [] 0 none 0 0, .slice (cutA A cap 8 1) (bs.length - 8) (cap - 8), .bool true]) (by simp [results, Try.results29, go_sem, p0, p1, p2, p3, p4, u64_neg _ hsl.1 (by omega)]) rfl ?_
  rw [unhide HT]
  exact took_flat (by simp) (below_set5 hb3 (Nat.le_refl _) _ _ _ _ _) ((unhide hcut).keep (stays_set5 hst (fun h => by have := hS _ h; omega) _ _ _ _ _)) (by first | omega | (simp; omega) | (simp; done)) (by unfold maxLen; omega)
end Go.Proofs.Ytlnpiigdjjadiaa
