/-
  spec.ArrayAsked of ints computes its plain function. Conditions: ints of 32 bits.
-/
import Derived.Test.YtnnddknplhhnkaaDoorArrI
namespace Go.Proofs.YtnnddknplhhnkaaDoor
set_option linter.unusedSimpArgs false
set_option linter.unusedVariables false
open Go.RowKit
/-- The cells of an element as a value. -/
def kidI (x : Int) : List Value := [.int .i64 8, .int .u64 (IntKind.u64.wrap x), .string ⟨#[]⟩, .slice none 0 0, .int .i64 0, .slice none 0 0]
def kidsI (ns : List Int) : List Value := ns.flatMap kidI
def avsI (ns : List Int) : List AV := ns.map fun x => .mk 8 (numI x) [] [] 0 []
theorem kidsI_snoc (ns : List Int) (x : Int) : kidsI (ns ++ [x]) = kidsI ns ++ kidI x := by simp [kidsI]
theorem avscI (w : World) (S : Nat → Prop) : ∀ ns : List Int, AVsC w S (avsI ns) (kidsI ns)
  | [] => by
    show AVsC w S [] []
    unfold AVsC
    rfl
  | x :: r => by
    show AVsC w S (AV.mk 8 (numI x) [] [] 0 [] :: avsI r) (kidI x ++ kidsI r)
    unfold AVsC
    refine ⟨_, _, rfl, rfl, ?_, avscI w S r⟩
    unfold kidI
    rw [← wrap_u64]
    exact AVC.plain w S 8 (numI x) [] 0
theorem wantI_av (w : World) (S : Nat → Prop) (ns : List Int) (A : Option Addr) (n cap : Nat) (hn : n = ns.length) (hc : n ≤ cap) (hm : cap ≤ maxLen) (hr : Reads w S 6 A n (kidsI ns)) :
    AVC w S (.mk 23 0 [] (avsI ns) 0 []) [.int .i64 23, .int .u64 0, .string ⟨#[]⟩, .slice A n cap, .int .i64 0, .slice none 0 0] := by
  subst hn
  have hl : (avsI ns).length = ns.length := by simp [avsI]
  unfold AVC
  refine ⟨A, cap, kidsI ns, none, 0, [], by rw [hl]; rfl, by rw [hl]; exact hc, hm, by rw [hl]; exact hr, avscI w S ns, Nat.le_refl _, Nat.zero_le _, Reads.none_, by unfold AVsC; rfl⟩
def askedB (ns : List Int) : Bool := !lowB ns || highB ns
theorem kidsI_at : ∀ (ns : List Int) (k : Nat) (h : k < ns.length) (j : Nat) (u : Value), (kidI ns[k])[j]? = some u → (kidsI ns)[k * 6 + j]? = some u
  | [], k, h, _, _, _ => absurd h (by simp)
  | x :: r, 0, _, j, u, hu => by
    have hj : j < 6 := by
      rcases Nat.lt_or_ge j 6 with h | h
      · exact h
      · rw [List.getElem?_eq_none (by simpa [kidI] using h)] at hu
        cases hu
    show (kidI x ++ kidsI r)[0 * 6 + j]? = some u
    rw [List.getElem?_append_left (by simp [kidI]; omega)]
    simpa using hu
  | x :: r, k + 1, h, j, u, hu => by
    show (kidI x ++ kidsI r)[(k + 1) * 6 + j]? = some u
    rw [List.getElem?_append_right (by simp [kidI]; omega), show (k + 1) * 6 + j - (kidI x).length = k * 6 + j by simp [kidI]; omega]
    exact kidsI_at r k (by simpa using h) j u (by simpa using hu)
theorem lowB_snoc (ns : List Int) (x : Int) : lowB (ns ++ [x]) = (lowB ns || decide (x < -128)) := by simp [lowB]
theorem highB_snoc (ns : List Int) (x : Int) : highB (ns ++ [x]) = (highB ns || decide (127 < x)) := by simp [highB]
set_option maxRecDepth 100000 in
set_option maxHeartbeats 3200000 in
theorem arrayAsked_ints (ns : List Int) (K : Option Addr) (n kc : Nat) (w : World) (hn : n = ns.length) (hn3 : n ≤ 300) (hwf : ∀ x ∈ ns, -2147483648 ≤ x ∧ x ≤ 2147483647) (hr : Reads w (Lt w.heap.size) 6 K n (kidsI ns)) :
    Calls Tryd.prog 16 #[.slice K n kc] w fun e w' => e = .returned (.bool (askedB ns)) ∧ Below w.heap.size w w' := by
  have HN := hide hn
  clear hn
  go_enter Tryd.func16, Tryd.ntmps16
  go_wp2
  go_loopw [3, 4, 10] (fun lo hi i wr => ∃ (k : Nat) (bl bh : Bool), lo = .bool bl ∧ hi = .bool bh ∧ Hid (bl = lowB (ns.take k) ∧ bh = highB (ns.take k)) ∧ i = .int .i64 k ∧ k ≤ n ∧ Below w.heap.size w wr) (fun _ _ i _ => n - (intOf i).toNat)
  case atStart => exact ⟨0, false, false, rfl, rfl, hide ⟨rfl, rfl⟩, rfl, Nat.zero_le _, Below.refl _ _⟩
  case round =>
  obtain ⟨k, bl, bh, rfl, rfl, hlh, rfl, hk, hbel⟩ := hrel
  by_cases hlt : k < n
  · obtain ⟨ad, rfl, hSb, hcell⟩ := hr.2 (by omega)
    have hln : k < ns.length := by have := unhide HN; omega
    have hx := hwf ns[k] (List.getElem_mem hln)
    obtain ⟨y, hy⟩ : ∃ y, y = IntKind.u64.wrap ns[k] := ⟨_, rfl⟩
    have hkid := kidsI_at ns k hln
    have htk : Hid (lowB (ns.take (k + 1)) = (lowB (ns.take k) || decide (ns[k] < -128)) ∧ highB (ns.take (k + 1)) = (highB (ns.take k) || decide (127 < ns[k]))) := by
      rw [List.take_succ_eq_append_getElem hln]
      exact hide ⟨lowB_snoc _ _, highB_snoc _ _⟩
    generalize ns[k] = x at *
    unfold kidI at hkid
    rw [← hy] at hkid
    obtain ⟨x60, x61, x62, x63, x64, x65⟩ := six_at (w := wr) (a := ad.add (k * 6)) (fun j u hu => by rw [add_of_add]; exact (hbel.cell (p := ad.add (k * 6 + j)) (by rw [block_of_add]; exact hSb)).trans (hcell _ _ (hkid j u hu)))
    have hw : wrap64 y = x := by
      rw [hy]
      simp [wrap64, IntKind.wrap, IntKind.bits, IntKind.signed]
      omega
    have hy0 : 0 ≤ y ∧ y ≤ 18446744073709551615 := by
      rw [hy]
      simp [IntKind.wrap, IntKind.bits, IntKind.signed]
      omega
    have hsz := hbel.size
    have HB := hide hbel
    clear hkid hy hbel hy0 hcell
    cases bl <;> cases bh <;> (by_cases h1 : x < -128 <;> by_cases h2 : 127 < x) <;> first
      | (exfalso; omega)
      | (go_wp2
         go_roundw
         case rel => exact ⟨k + 1, _, _, rfl, rfl, hide (by have q1 := unhide hlh; have q2 := unhide htk; rw [q2.1, q2.2, ← q1.1, ← q1.2]; simp [h1, h2]), by go_num, by omega, by have hB := unhide HB; exact (by repeat (first | with_reducible exact Below.refl _ _ | with_reducible exact hB | with_reducible refine Below.alloc ?_ (by first | omega | (simp; omega) | (simp; done)) _ | with_reducible refine Below.setCell ?_ (by first | omega | (simp; omega) | (simp; done)) _ | with_reducible refine Below.drew ?_ | with_reducible refine below_drewN ?_ _))⟩
         case measure => simp [intOf]; omega)
  · obtain rfl : k = n := by omega
    have htk : Hid (askedB ns = (!bl || bh)) := by
      have q1 := unhide hlh
      rw [List.take_of_length_le (by have := unhide HN; omega)] at q1
      unfold askedB
      rw [q1.1, q1.2]
      exact hide rfl
    cases bl <;> cases bh <;> (
      go_wp2
      go_ret
      exact ⟨by rw [unhide htk]; rfl, hbel⟩)
end Go.Proofs.YtnnddknplhhnkaaDoor
