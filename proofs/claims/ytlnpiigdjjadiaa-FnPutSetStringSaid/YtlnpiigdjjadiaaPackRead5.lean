/-
  Ways through the reference's reader of what stands behind a code from C0 to DF (spec.takeCoded), part 5.
-/
import Derived.Test.YtlnpiigdjjadiaaPackRead2
namespace Go.Proofs.Ytlnpiigdjjadiaa
set_option linter.unusedSimpArgs false
set_option linter.unusedVariables false
open Go.RowKit
theorem u64_neg (x : Int) (h1 : -9223372036854775808 ≤ x) (h2 : x < 0) : IntKind.u64.wrap x = ((x + 18446744073709551616).toNat : Int) := by
  have e : IntKind.u64.wrap x = x % 18446744073709551616 := by simp [IntKind.wrap, IntKind.bits, IntKind.signed]
  rw [e]
  omega
theorem signed_1 (u : Nat) (h : u < 256) : wrap64 ((u : Int) * 72057594037927936) / 72057594037927936 = signed 1 u := by
  unfold wrap64 signed
  split <;> omega
theorem signed_bd1 (u : Nat) (h : u < 256) : -9223372036854775808 ≤ signed 1 u ∧ signed 1 u ≤ 9223372036854775807 := by
  unfold signed
  split <;> omega
theorem signed_2 (u : Nat) (h : u < 65536) : wrap64 ((u : Int) * 281474976710656) / 281474976710656 = signed 2 u := by
  unfold wrap64 signed
  split <;> omega
theorem signed_bd2 (u : Nat) (h : u < 65536) : -9223372036854775808 ≤ signed 2 u ∧ signed 2 u ≤ 9223372036854775807 := by
  unfold signed
  split <;> omega
theorem signed_4 (u : Nat) (h : u < 4294967296) : wrap64 ((u : Int) * 4294967296) / 4294967296 = signed 4 u := by
  unfold wrap64 signed
  split <;> omega
theorem signed_bd4 (u : Nat) (h : u < 4294967296) : -9223372036854775808 ≤ signed 4 u ∧ signed 4 u ≤ 9223372036854775807 := by
  unfold signed
  split <;> omega
theorem signed_8 (u : Nat) (h : u < 18446744073709551616) : wrap64 (u : Int) = signed 8 u := by
  unfold wrap64 signed
  split <;> omega
theorem signed_bd8 (u : Nat) (h : u < 18446744073709551616) : -9223372036854775808 ≤ signed 8 u ∧ signed 8 u ≤ 9223372036854775807 := by
  unfold signed
  split <;> omega
set_option maxRecDepth 100000 in
set_option maxHeartbeats 800000 in
theorem takeCoded_g208p (lv : Int) (b : Nat) (f : List UInt8 → Option (Pack × List UInt8)) (hb1 : 208 ≤ b) (hb2 : b ≤ 208) (S : Nat → Prop) (A : Option Addr) (bs : List UInt8) (cap : Nat) (w : World)
    (hr : RB w S A bs) (hc : bs.length ≤ cap) (hcap : cap ≤ 9223372036854775807) (hS : Old w S) (hn : codeSize b ≤ bs.length)
    (hs : 0 ≤ signed (codeSize b) (bigN (bs.take (codeSize b)))) :
    Calls Try.prog 29 #[.int .i64 b, .slice A bs.length cap, .int .i64 lv] w (Took S w (tCoded f b bs)) := by
  have hgoal : tCoded f b bs = some (.mk 3 (bigN (bs.take (codeSize b))) [] 0 [], (bs.drop (codeSize b))) := by
    unfold tCoded
    simp only
    rw [if_neg (by omega), if_neg (by omega), if_neg (by omega), if_neg (by omega), if_neg (by omega), if_neg (by omega), if_neg (by omega), if_neg (by omega), if_pos (by omega), if_pos hs]
  rw [hgoal]
  clear hgoal
  have hlk := fun (w : World) (n : Nat) (hn : w.heap.size = n) => run_lookup_lit Try.underlying78 Try.underlying3 w codeSizes n hn b zero2
  have hcs : codeSize b = 1 := by rw [show b = 208 from by omega]; rfl
  rw [look_size b (by omega)] at hlk
  rw [hcs] at hlk hn hs ⊢
  clear hcs
  have hu8 : bigN (bs.take 1) < 256 := by
    have h := bigN_lt (bs.take 1)
    rw [List.length_take, Nat.min_eq_left hn] at h
    exact h
  obtain ⟨T, hT⟩ : ∃ T, T = Took S w (some (.mk 3 (bigN (bs.take 1)) [] 0 [], bs.drop 1)) := ⟨_, rfl⟩
  rw [← hT]
  have HT := hide hT
  clear hT
  have hsg := signed_1 _ hu8
  have hsl := signed_bd1 _ hu8
  have hcut := hide (hr.cut hn hc)
  have hB := takeBig_ok S A bs cap 1
  generalize bigN (bs.take 1) = u at *
  have t193 : ((b : Int) == 193) = false := by simp; omega
  have t192 : ((b : Int) == 192) = false := by simp; omega
  have t194 : ((b : Int) == 194) = false := by simp; omega
  have t195 : ((b : Int) == 195) = false := by simp; omega
  have t202 : ((b : Int) == 202) = false := by simp; omega
  have t203 : ((b : Int) == 203) = false := by simp; omega
  go_enter Try.func29, Try.ntmps29
  go_wp2_with (first
    | (refine wpList_mapLit Try.underlying78 Try.underlying3 23 codeSizes ?hm ?hl ?hf ?_; (case hm => simp); (case hl => kernel_rfl); (case hf => kernel_rfl); simp only [List.drop_succ_cons, List.drop_zero])
    | (go_at_call 45; refine (hB _ (hr.keep (by go_simp)) hc hcap hn (by omega)).mono ?_; rintro e w3 ⟨rfl, hq⟩; have hb3 := hq.below ((((Below.refl w.heap.size w).alloc (Nat.le_refl _) _).alloc (by first | omega | (simp; omega) | (simp; done)) _).alloc (by first | omega | (simp; omega) | (simp; done)) _); have hst : Stays S w w3 := hq.stays (by go_simp); have ho3 : Old w3 S := hq.old (by go_simp); have hB0 := hq.blk (((Blk.new w 31 _).alloc _).alloc _); have hz3 := hq.size; simp only [World.size_alloc] at hz3; clear hq; obtain ⟨⟨p0, p1, p2, p3, p4⟩, ⟨q0, q1, q2, q3, q4⟩⟩ := five_cells hB0))
  refine bodyPost_ret (v := .tuple #[packV 3 u [] 0 none 0 0, .slice (cutA A cap 1 1) (bs.length - 1) (cap - 1), .bool true]) (by simp [results, Try.results29, go_sem, p0, p1, p2, p3, p4]) rfl ?_
  rw [unhide HT]
  exact took_flat (by simp) (below_set5 hb3 (Nat.le_refl _) _ _ _ _ _) ((unhide hcut).keep (stays_set5 hst (fun h => by have := hS _ h; omega) _ _ _ _ _)) (by first | omega | (simp; omega) | (simp; done)) (by unfold maxLen; omega)
set_option maxRecDepth 100000 in
set_option maxHeartbeats 800000 in
theorem takeCoded_g208n (lv : Int) (b : Nat) (f : List UInt8 → Option (Pack × List UInt8)) (hb1 : 208 ≤ b) (hb2 : b ≤ 208) (S : Nat → Prop) (A : Option Addr) (bs : List UInt8) (cap : Nat) (w : World)
    (hr : RB w S A bs) (hc : bs.length ≤ cap) (hcap : cap ≤ 9223372036854775807) (hS : Old w S) (hn : codeSize b ≤ bs.length)
    (hs : ¬ 0 ≤ signed (codeSize b) (bigN (bs.take (codeSize b)))) :
    Calls Try.prog 29 #[.int .i64 b, .slice A bs.length cap, .int .i64 lv] w (Took S w (tCoded f b bs)) := by
  have hgoal : tCoded f b bs = some (.mk 2 (signed (codeSize b) (bigN (bs.take (codeSize b))) + 18446744073709551616).toNat [] 0 [], (bs.drop (codeSize b))) := by
    unfold tCoded
    simp only
    rw [if_neg (by omega), if_neg (by omega), if_neg (by omega), if_neg (by omega), if_neg (by omega), if_neg (by omega), if_neg (by omega), if_neg (by omega), if_pos (by omega), if_neg hs]
  rw [hgoal]
  clear hgoal
  have hlk := fun (w : World) (n : Nat) (hn : w.heap.size = n) => run_lookup_lit Try.underlying78 Try.underlying3 w codeSizes n hn b zero2
  have hcs : codeSize b = 1 := by rw [show b = 208 from by omega]; rfl
  rw [look_size b (by omega)] at hlk
  rw [hcs] at hlk hn hs ⊢
  clear hcs
  have hu8 : bigN (bs.take 1) < 256 := by
    have h := bigN_lt (bs.take 1)
    rw [List.length_take, Nat.min_eq_left hn] at h
    exact h
  obtain ⟨T, hT⟩ : ∃ T, T = Took S w (some (.mk 2 (signed 1 (bigN (bs.take 1)) + 18446744073709551616).toNat [] 0 [], bs.drop 1)) := ⟨_, rfl⟩
  rw [← hT]
  have HT := hide hT
  clear hT
  have hsg := signed_1 _ hu8
  have hsl := signed_bd1 _ hu8
  have hcut := hide (hr.cut hn hc)
  have hB := takeBig_ok S A bs cap 1
  generalize bigN (bs.take 1) = u at *
  have t193 : ((b : Int) == 193) = false := by simp; omega
  have t192 : ((b : Int) == 192) = false := by simp; omega
  have t194 : ((b : Int) == 194) = false := by simp; omega
  have t195 : ((b : Int) == 195) = false := by simp; omega
  have t202 : ((b : Int) == 202) = false := by simp; omega
  have t203 : ((b : Int) == 203) = false := by simp; omega
  go_enter Try.func29, Try.ntmps29
  go_wp2_with (first
    | (refine wpList_mapLit Try.underlying78 Try.underlying3 23 codeSizes ?hm ?hl ?hf ?_; (case hm => simp); (case hl => kernel_rfl); (case hf => kernel_rfl); simp only [List.drop_succ_cons, List.drop_zero])
    | (go_at_call 45; refine (hB _ (hr.keep (by go_simp)) hc hcap hn (by omega)).mono ?_; rintro e w3 ⟨rfl, hq⟩; have hb3 := hq.below ((((Below.refl w.heap.size w).alloc (Nat.le_refl _) _).alloc (by first | omega | (simp; omega) | (simp; done)) _).alloc (by first | omega | (simp; omega) | (simp; done)) _); have hst : Stays S w w3 := hq.stays (by go_simp); have ho3 : Old w3 S := hq.old (by go_simp); have hB0 := hq.blk (((Blk.new w 31 _).alloc _).alloc _); have hz3 := hq.size; simp only [World.size_alloc] at hz3; clear hq; obtain ⟨⟨p0, p1, p2, p3, p4⟩, ⟨q0, q1, q2, q3, q4⟩⟩ := five_cells hB0))
  refine bodyPost_ret (v := .tuple #[packV 2 (signed 1 u + 18446744073709551616).toNat [] 0 none 0 0, .slice (cutA A cap 1 1) (bs.length - 1) (cap - 1), .bool true]) (by simp [results, Try.results29, go_sem, p0, p1, p2, p3, p4, u64_neg _ hsl.1 (by omega)]) rfl ?_
  rw [unhide HT]
  exact took_flat (by simp) (below_set5 hb3 (Nat.le_refl _) _ _ _ _ _) ((unhide hcut).keep (stays_set5 hst (fun h => by have := hS _ h; omega) _ _ _ _ _)) (by first | omega | (simp; omega) | (simp; done)) (by unfold maxLen; omega)
set_option maxRecDepth 100000 in
set_option maxHeartbeats 800000 in
theorem takeCoded_g209p (lv : Int) (b : Nat) (f : List UInt8 → Option (Pack × List UInt8)) (hb1 : 209 ≤ b) (hb2 : b ≤ 209) (S : Nat → Prop) (A : Option Addr) (bs : List UInt8) (cap : Nat) (w : World)
    (hr : RB w S A bs) (hc : bs.length ≤ cap) (hcap : cap ≤ 9223372036854775807) (hS : Old w S) (hn : codeSize b ≤ bs.length)
    (hs : 0 ≤ signed (codeSize b) (bigN (bs.take (codeSize b)))) :
    Calls Try.prog 29 #[.int .i64 b, .slice A bs.length cap, .int .i64 lv] w (Took S w (tCoded f b bs)) := by
  have hgoal : tCoded f b bs = some (.mk 3 (bigN (bs.take (codeSize b))) [] 0 [], (bs.drop (codeSize b))) := by
    unfold tCoded
    simp only
    rw [if_neg (by omega), if_neg (by omega), if_neg (by omega), if_neg (by omega), if_neg (by omega), if_neg (by omega), if_neg (by omega), if_neg (by omega), if_pos (by omega), if_pos hs]
  rw [hgoal]
  clear hgoal
  have hlk := fun (w : World) (n : Nat) (hn : w.heap.size = n) => run_lookup_lit Try.underlying78 Try.underlying3 w codeSizes n hn b zero2
  have hcs : codeSize b = 2 := by rw [show b = 209 from by omega]; rfl
  rw [look_size b (by omega)] at hlk
  rw [hcs] at hlk hn hs ⊢
  clear hcs
  have hu8 : bigN (bs.take 2) < 65536 := by
    have h := bigN_lt (bs.take 2)
    rw [List.length_take, Nat.min_eq_left hn] at h
    exact h
  obtain ⟨T, hT⟩ : ∃ T, T = Took S w (some (.mk 3 (bigN (bs.take 2)) [] 0 [], bs.drop 2)) := ⟨_, rfl⟩
  rw [← hT]
  have HT := hide hT
  clear hT
  have hsg := signed_2 _ hu8
  have hsl := signed_bd2 _ hu8
  have hcut := hide (hr.cut hn hc)
  have hB := takeBig_ok S A bs cap 2
  generalize bigN (bs.take 2) = u at *
  have t193 : ((b : Int) == 193) = false := by simp; omega
  have t192 : ((b : Int) == 192) = false := by simp; omega
  have t194 : ((b : Int) == 194) = false := by simp; omega
  have t195 : ((b : Int) == 195) = false := by simp; omega
  have t202 : ((b : Int) == 202) = false := by simp; omega
  have t203 : ((b : Int) == 203) = false := by simp; omega
  go_enter Try.func29, Try.ntmps29
  go_wp2_with (first
    | (refine wpList_mapLit Try.underlying78 Try.underlying3 23 codeSizes ?hm ?hl ?hf ?_; (case hm => simp); (case hl => kernel_rfl); (case hf => kernel_rfl); simp only [List.drop_succ_cons, List.drop_zero])
    | (go_at_call 45; refine (hB _ (hr.keep (by go_simp)) hc hcap hn (by omega)).mono ?_; rintro e w3 ⟨rfl, hq⟩; have hb3 := hq.below ((((Below.refl w.heap.size w).alloc (Nat.le_refl _) _).alloc (by first | omega | (simp; omega) | (simp; done)) _).alloc (by first | omega | (simp; omega) | (simp; done)) _); have hst : Stays S w w3 := hq.stays (by go_simp); have ho3 : Old w3 S := hq.old (by go_simp); have hB0 := hq.blk (((Blk.new w 31 _).alloc _).alloc _); have hz3 := hq.size; simp only [World.size_alloc] at hz3; clear hq; obtain ⟨⟨p0, p1, p2, p3, p4⟩, ⟨q0, q1, q2, q3, q4⟩⟩ := five_cells hB0))
  refine bodyPost_ret (v := .tuple #[packV 3 u [] 0 none 0 0, .slice (cutA A cap 2 1) (bs.length - 2) (cap - 2), .bool true]) (by simp [results, Try.results29, go_sem, p0, p1, p2, p3, p4]) rfl ?_
  rw [unhide HT]
  exact took_flat (by simp) (below_set5 hb3 (Nat.le_refl _) _ _ _ _ _) ((unhide hcut).keep (stays_set5 hst (fun h => by have := hS _ h; omega) _ _ _ _ _)) (by first | omega | (simp; omega) | (simp; done)) (by unfold maxLen; omega)
set_option maxRecDepth 100000 in
set_option maxHeartbeats 800000 in
theorem takeCoded_g209n (lv : Int) (b : Nat) (f : List UInt8 → Option (Pack × List UInt8)) (hb1 : 209 ≤ b) (hb2 : b ≤ 209) (S : Nat → Prop) (A : Option Addr) (bs : List UInt8) (cap : Nat) (w : World)
    (hr : RB w S A bs) (hc : bs.length ≤ cap) (hcap : cap ≤ 9223372036854775807) (hS : Old w S) (hn : codeSize b ≤ bs.length)
    (hs : ¬ 0 ≤ signed (codeSize b) (bigN (bs.take (codeSize b)))) :
    Calls Try.prog 29 #[.int .i64 b, .slice A bs.length cap, .int .i64 lv] w (Took S w (tCoded f b bs)) := by
  have hgoal : tCoded f b bs = some (.mk 2 (signed (codeSize b) (bigN (bs.take (codeSize b))) + 18446744073709551616).toNat [] 0 [], (bs.drop (codeSize b))) := by
    unfold tCoded
    simp only
    rw [if_neg (by omega), if_neg (by omega), if_neg (by omega), if_neg (by omega), if_neg (by omega), if_neg (by omega), if_neg (by omega), if_neg (by omega), if_pos (by omega), if_neg hs]
  rw [hgoal]
  clear hgoal
  have hlk := fun (w : World) (n : Nat) (hn : w.heap.size = n) => run_lookup_lit Try.underlying78 Try.underlying3 w codeSizes n hn b zero2
  have hcs : codeSize b = 2 := by rw [show b = 209 from by omega]; rfl
  rw [look_size b (by omega)] at hlk
  rw [hcs] at hlk hn hs ⊢
  clear hcs
  have hu8 : bigN (bs.take 2) < 65536 := by
    have h := bigN_lt (bs.take 2)
    rw [List.length_take, Nat.min_eq_left hn] at h
    exact h
  obtain ⟨T, hT⟩ : ∃ T, T = Took S w (some (.mk 2 (signed 2 (bigN (bs.take 2)) + 18446744073709551616).toNat [] 0 [], bs.drop 2)) := ⟨_, rfl⟩
  rw [← hT]
  have HT := hide hT
  clear hT
  have hsg := signed_2 _ hu8
  have hsl := signed_bd2 _ hu8
  have hcut := hide (hr.cut hn hc)
  have hB := takeBig_ok S A bs cap 2
  generalize bigN (bs.take 2) = u at *
  have t193 : ((b : Int) == 193) = false := by simp; omega
  have t192 : ((b : Int) == 192) = false := by simp; omega
  have t194 : ((b : Int) == 194) = false := by simp; omega
  have t195 : ((b : Int) == 195) = false := by simp; omega
  have t202 : ((b : Int) == 202) = false := by simp; omega
  have t203 : ((b : Int) == 203) = false := by simp; omega
  go_enter Try.func29, Try.ntmps29
  go_wp2_with (first
    | (refine wpList_mapLit Try.underlying78 Try.underlying3 23 codeSizes ?hm ?hl ?hf ?_; (case hm => simp); (case hl => kernel_rfl); (case hf => kernel_rfl); simp only [List.drop_succ_cons, List.drop_zero])
    | (go_at_call 45; refine (hB _ (hr.keep (by go_simp)) hc hcap hn (by omega)).mono ?_; rintro e w3 ⟨rfl, hq⟩; have hb3 := hq.below ((((Below.refl w.heap.size w).alloc (Nat.le_refl _) _).alloc (by first | omega | (simp; omega) | (simp; done)) _).alloc (by first | omega | (simp; omega) | (simp; done)) _); have hst : Stays S w w3 := hq.stays (by go_simp); have ho3 : Old w3 S := hq.old (by go_simp); have hB0 := hq.blk (((Blk.new w 31 _).alloc _).alloc _); have hz3 := hq.size; simp only [World.size_alloc] at hz3; clear hq; obtain ⟨⟨p0, p1, p2, p3, p4⟩, ⟨q0, q1, q2, q3, q4⟩⟩ := five_cells hB0))
  refine bodyPost_ret (v := .tuple #[packV 2 (signed 2 u + 18446744073709551616).toNat [] 0 none 0 0, .slice (cutA A cap 2 1) (bs.length - 2) (cap - 2), .bool true]) (by simp [results, Try.results29, go_sem, p0, p1, p2, p3, p4, u64_neg _ hsl.1 (by omega)]) rfl ?_
  rw [unhide HT]
  exact took_flat (by simp) (below_set5 hb3 (Nat.le_refl _) _ _ _ _ _) ((unhide hcut).keep (stays_set5 hst (fun h => by have := hS _ h; omega) _ _ _ _ _)) (by first | omega | (simp; omega) | (simp; done)) (by unfold maxLen; omega)
end Go.Proofs.Ytlnpiigdjjadiaa
