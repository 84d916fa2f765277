/-
  What setof's MarshalMsg calls: setof.ensure, msgp.AppendArrayHeader, AppendUint8. Conditions: at most 2^40 bytes; at most 100 in the array.
-/
import Derived.Test.YtlnpiigdjjadiaaInSetP
import Derived.Test.YtlnpiigdjjadiaaAppendsM
import Derived.Test.YtlnpiigdjjadiaaCopyInto
import Derived.Laws.MakeOwn
namespace Go.Proofs.Ytlnpiigdjjadiaa
set_option linter.unusedSimpArgs false
set_option linter.unusedVariables false
set_option linter.unusedVariables false
open Go.RowKit
/-- Bytes of one's own, as they were, somewhere. -/
def Kept1 (B n : Nat) (xs : List Value) (w : World) (v : Value) (e : Ending) (w' : World) : Prop :=
  ∃ A c, e = .returned (.slice A n c) ∧ w'.ownsRow B 5 1 (.slice A n c) n xs ∧ w.grownBy w' v.ownBlock ∧ n ≤ c ∧ c ≤ maxLen
theorem size5S : (Try.prog.info? 5).map (·.size) = some 1 := by kernel_rfl
theorem take_minS {α : Type} (xs : List α) (a b : Nat) (ha : a = xs.length) (hb : a ≤ b) : xs = xs.take (Nat.min a b) := by
  have e : Nat.min a b = a := Nat.min_eq_left hb
  rw [e, ha, List.take_length]
theorem makeLC' (k c : Nat) (hk : k ≤ c) (hc : c ≤ 281474976710656) : ∃ Z : List Value, Z.length = c ∧ ∀ W : World, (Instr.makeSlice 22 (.int .i64 (k : Int)) (.int .i64 (c : Int))).run Try.prog W = .ok (.slice (some ⟨W.heap.size, 0, none⟩) k c) (W.alloc (.cells Z.toArray 5)) := by
  obtain ⟨i0, hi0, hz0, hz1, hz2⟩ := info_parts info5
  refine ⟨(madeCells (Value.cells (.int .u8 0)) (c * 1)).toList, by simp [size_madeCells], fun W => ?_⟩
  have := run_make (P := Try.prog) W 22 5 i0 _ Try.underlying22 hi0 hz0 .i64 .i64 k c (by omega) (by omega) (by rw [hz2]; omega) (by omega)
  rw [hz1] at this
  simpa using this
set_option maxRecDepth 100000 in
set_option maxHeartbeats 800000 in
theorem setEnsure_any (B : Nat) (A : Option Addr) (n cap sz : Nat) (xs : List Value) (w : World) (hown : w.ownsRow B 5 1 (.slice A n cap) n xs) (hone : ∀ u ∈ xs, u.oneCell' = true) (hB : B ≤ w.heap.size) (hlen : n ≤ 1099511627776) (hsz : sz ≤ 1000000) :
    Calls Try.prog 23 #[.slice A n cap, .int .i64 sz] w (Kept1 B n xs w (.slice A n cap)) := by
  obtain ⟨_, _, hv, hnc, hcm, hRd⟩ := own_slice hown
  obtain ⟨rfl, _, rfl⟩ := Value.slice.inj hv
  have HOWN := hide hown
  have HRD := hide hRd
  unfold maxLen at hcm
  obtain ⟨L, hL⟩ : ∃ L : Int, (cap : Int) - (n : Int) = L := ⟨_, rfl⟩
  have hw : IntKind.i64.wrap L = L := by rw [IntKind.wrap_i64]; omega
  by_cases hlt : cap < n + sz
  · obtain ⟨Z, hZ, hmk⟩ := makeLC' n (n + sz) (by omega) (by omega)
    have hc1 : L < (sz : Int) := by omega
    have e : (((n + sz : Nat)) : Int) = (n : Int) + (sz : Int) := by omega
    rw [e] at hmk
    have hw2 : IntKind.i64.wrap ((n : Int) + (sz : Int)) = (n : Int) + (sz : Int) := by rw [IntKind.wrap_i64]; omega
    have HZ := hide hZ
    have HXL : Hid (n = xs.length) := by have h := hown.1; show n = _; omega
    clear e hZ hown hRd hv
    go_enter Try.func23, Try.ntmps23
    go_wp2_with (refine wpList_copy_into rfl (.tmp 22) (.tmp 23) _ _ rfl 5 _ A (some ⟨w.heap.size, 0, none⟩) w.heap.size 0 n (n + sz) n cap (n + sz) 5 [] xs xs Try.underlying22 size5S (by rfl) (by rfl) ⟨Z.toArray, Blk.new _ _ _, by have h := unhide HZ; simpa using h, Nat.zero_le _, rfl⟩ rfl ((unhide HRD).keep (fun b hb => Below.heap_alloc w _ b hb.2)) (take_minS _ _ _ (unhide HXL) (Nat.le_refl _)) (fun _ => rfl) (by rw [← unhide HXL]; omega) hone ?_; intro w2 HR2 HK2)
    go_ret
    have hk : w.grownBy w2 (Value.slice A n cap).ownBlock := ⟨(unhide HK2).1.os, (unhide HK2).1.tape, (unhide HK2).1.output, Nat.le_trans (by simp) (unhide HK2).1.size, fun b hb _ => ((unhide HK2).2 b (by simp; omega) (by omega)).trans (Below.heap_alloc w _ b hb)⟩
    have hr := unhide HR2
    rw [List.nil_append] at hr
    exact ⟨_, n + sz, rfl, hr.own (unhide HXL).symm hB (by unfold maxLen; omega), hk, by omega, by unfold maxLen; omega⟩
  · have hc1 : ¬ L < (sz : Int) := by omega
    clear hown hRd hv
    go_enter Try.func23, Try.ntmps23
    go_wp2
    go_ret
    exact ⟨A, cap, rfl, unhide HOWN, World.grownBy.refl _ _, hnc, by unfold maxLen; omega⟩
theorem orArr : ∀ n : Nat, n < 16 → bits BinOp.or IntKind.u8 144 (n : Int) = 144 + n := by decide +kernel
theorem orArr2 : ∀ n : Nat, n < 16 → bits BinOp.or IntKind.u8 (n : Int) 144 = 144 + n := by decide +kernel
theorem appendUint8_any (x : Int) (h1 : 0 ≤ x) (h2 : x ≤ 255) (B : Nat) (A : Option Addr) (n cap : Nat) (xs : List Value) (w : World) (hown : w.ownsRow B 5 1 (.slice A n cap) n xs) (hone : ∀ u ∈ xs, u.oneCell' = true) (hB : B ≤ w.heap.size) (hlen : n ≤ 1099511627776) :
    Calls Try.prog 33 #[.slice A n cap, .int .u8 x] w (Appd B n xs w (.slice A n cap) (encU x)) := by
  have HF := hide (AppendUint64_any x h1 (by omega) B A n cap xs w hown hone hB hlen)
  obtain ⟨l, hl⟩ : ∃ l, l = (encU x).length := ⟨_, rfl⟩
  have HL := hide hl
  clear hown hl
  go_enter Try.func33, Try.ntmps33
  go_wp2_with (go_at_call 49; go_loud (refine (unhide HF).mono ?_; rintro e w1 ⟨A1, c1, rfl, h3, h4, h5, h6⟩; rw [← unhide HL] at h3 h5 ⊢; have H3 := hide h3; have H4 := hide h4; clear h3 h4))
  go_ret
  rw [unhide HL] at h5 H3 ⊢
  exact ⟨A1, c1, rfl, unhide H3, unhide H4, h5, h6⟩
theorem wfixarray_any (x : Nat) (hx : x ≤ 15) (w : World) : Calls Try.prog 38 #[.int .u8 x] w fun e w' => e = .returned (.int .u8 (144 + x : Nat)) ∧ w = w' := by
  have ho := orArr2 x (by omega)
  have ho2 := orArr x (by omega)
  have hm : (x : Int) % 16 = x := by omega
  have e : (((144 + x : Nat)) : Int) = 144 + (x : Int) := by omega
  have hw8 : IntKind.u8.wrap (x : Int) = x := by
    simp [IntKind.wrap, IntKind.bits, IntKind.signed]
    omega
  go_enter Try.func38, Try.ntmps38
  go_wp2
  go_ret
  refine ⟨?_, rfl⟩
  first | rfl | (rw [e]; rfl) | (simp [ho, ho2, hm])
/-- The head of an array of n. -/
def arrHead (n : Nat) : List UInt8 := if n ≤ 15 then [UInt8.ofNat (144 + n)] else 220 :: be (n : Int) 2
set_option maxRecDepth 100000 in
set_option maxHeartbeats 1600000 in
theorem appendArr_lo (m : Nat) (hm : m ≤ 15) (B : Nat) (A : Option Addr) (n cap : Nat) (xs : List Value) (w : World) (hown : w.ownsRow B 5 1 (.slice A n cap) n xs) (hB : B ≤ w.heap.size) (hlen : n ≤ 1099511627776) :
    Calls Try.prog 22 #[.slice A n cap, .int .u32 m] w (Appd B n xs w (.slice A n cap) [UInt8.ofNat (144 + m)]) := by
  have hbyte0 : Value.int .u8 ((144 + m : Nat) : Int) = u8 (UInt8.ofNat (144 + m)) := by
    unfold u8
    simp
    omega
  have hbyte := hide hbyte0
  clear hbyte0
  have hw8 : IntKind.u8.wrap (m : Int) = m := by
    simp [IntKind.wrap, IntKind.bits, IntKind.signed]
    omega
  have hle : (m : Int) ≤ 15 := by omega
  go_enter Try.func22, Try.ntmps22
  go_wp2_with (first
    | (go_at_call 38; refine (wfixarray_any m hm _).mono ?_; rintro e w' ⟨rfl, rfl⟩)
    | (at_builtin; obtain ⟨i0, hi0, hz0, hz1', hz2⟩ := info_parts info5; refine wpList_append_at rfl _ _ _ rfl B 5 i0 _ 1 1 Try.underlying22 hi0 hz0 hz1' hz2 ?x1 ?x2 (.slice A n cap) n xs ?x3 (hown.alloc _) ⟨w.heap.size, 0, none⟩ 1 1 [u8 (UInt8.ofNat (144 + m))] ?x4 ?x5 ?c1 ?c2 ?c3 ?x7 ?c4 ?_; (case x1 => rfl); (case x2 => omega); (case x3 => rfl); (case x4 => rfl); (case x5 => rfl); (case x7 => omega); (case c1 => exact one_at _ _ _ _ (unhide hbyte)); (case c2 => intro u hu; simp at hu; subst hu; rfl); (case c3 => unfold maxLen; omega); (case c4 => simp; omega); clear hi0 hz0 hz1' hz2; intro v1 w1 hown1 hgrow1 hnil1))
  go_ret
  exact append_one hown hown1 hgrow1 hnil1
set_option maxRecDepth 100000 in
set_option maxHeartbeats 1600000 in
theorem appendArr_hi (m : Nat) (hm : 15 < m) (hm2 : m ≤ 100) (B : Nat) (A : Option Addr) (n cap : Nat) (xs : List Value) (w : World) (hown : w.ownsRow B 5 1 (.slice A n cap) n xs) (hone : ∀ u ∈ xs, u.oneCell' = true) (hB : B ≤ w.heap.size) (hlen : n ≤ 1099511627776) :
    Calls Try.prog 22 #[.slice A n cap, .int .u32 m] w (Appd B n xs w (.slice A n cap) (220 :: be (m : Int) 2)) := by
  have hle : ¬ (m : Int) ≤ 15 := by omega
  have hle2 : (m : Int) ≤ 65535 := by omega
  have hw16 : IntKind.u16.wrap (m : Int) = m := by
    simp [IntKind.wrap, IntKind.bits, IntKind.signed]
    omega
  go_enter Try.func22, Try.ntmps22
  go_wp2_with (first
    | (go_at_call 39; refine (ensure_any B A n cap 3 _ xs _ (by simp) (by omega) hown hone hB (by omega)).mono ?_; rintro e w1 ⟨g, c', rfl, hgc, hcm, hBg, hxl, hrow, hbel, hat⟩; have HX := hide hxl; have HA := hide hat; clear hxl hat; unfold maxLen at hcm; have hcut := cutA_at g c' n (by omega))
    | (go_at_call 40; go_loud (refine (w_prefixu16 220 220 rfl g n c' 3 _ (m : Int) (by omega) (by omega) xs _ hrow (unhide HX) (by omega) (by omega) (by omega)).mono ?_; rintro e w2 ⟨rfl, hrow2, hg2, hz2⟩)))
  go_ret
  exact append_done (unhide HX) hbel (unhide HA) hBg (by unfold maxLen; omega) hrow2 hg2 (by simp [be])
theorem appendArr_any (m : Nat) (hm : m ≤ 100) (B : Nat) (A : Option Addr) (n cap : Nat) (xs : List Value) (w : World) (hown : w.ownsRow B 5 1 (.slice A n cap) n xs) (hone : ∀ u ∈ xs, u.oneCell' = true) (hB : B ≤ w.heap.size) (hlen : n ≤ 1099511627776) :
    Calls Try.prog 22 #[.slice A n cap, .int .u32 m] w (Appd B n xs w (.slice A n cap) (arrHead m)) := by
  unfold arrHead
  split
  · exact appendArr_lo m (by omega) B A n cap xs w hown hB hlen
  · exact appendArr_hi m (by omega) hm B A n cap xs w hown hone hB hlen
end Go.Proofs.Ytlnpiigdjjadiaa
