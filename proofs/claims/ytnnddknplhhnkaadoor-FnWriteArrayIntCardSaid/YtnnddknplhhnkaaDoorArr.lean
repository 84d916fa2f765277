/-
  The head of an array (encoding.writeArrayHeader), and what an array reads back as. Conditions: at most 1,000 elements of at most 16 bytes.
-/
import Derived.Test.YtnnddknplhhnkaaDoorU32
import Derived.Test.YtnnddknplhhnkaaDoorRow
import Derived.Test.YtnnddknplhhnkaaDoorWrote3
namespace Go.Proofs.YtnnddknplhhnkaaDoor
set_option linter.unusedSimpArgs false
set_option linter.unusedVariables false
open Go.RowKit
/-- The head of an array of n elements, whose bytes are m. -/
def hdrE (n m code : Nat) : List UInt8 := if m + 2 ≤ 255 then [224, UInt8.ofNat (m + 2), UInt8.ofNat n, UInt8.ofNat code] else 240 :: (be4 (m + 5) ++ be4 n ++ [UInt8.ofNat code])
theorem hdrE_len (n m code : Nat) : (hdrE n m code).length ≤ 10 := by
  unfold hdrE
  split <;> simp [be4]
set_option maxHeartbeats 400000 in
theorem writeArrayHeader_any (p : Nat) (bs : List UInt8) (n sz m code : Nat) (hm : (n : Int) * (sz : Int) = (m : Int)) (hnm : n ≤ m) (hm2 : m ≤ 100000) (hcode : code < 256) (w : World) (h : Buf w p bs) (hlen : bs.length ≤ 1000000) :
    Calls Tryd.prog 41 #[.pointer (some ⟨p, 0, none⟩), .int .i64 n, .int .i64 sz, .int .u8 code] w fun e w' => e = .returned (.tuple #[]) ∧ Buf w' p (bs ++ hdrE n m code) ∧ Below p w w' := by
  have hp := h.lt
  unfold hdrE
  by_cases h1 : m + 2 ≤ 255
  · rw [if_pos h1]
    have h2 : (m : Int) + 2 ≤ 255 := by omega
    have h3 : (n : Int) ≤ 255 := by omega
    have HR : RB (w.alloc (.cells #[.int .u8 224, .int .u8 ((m : Int) + 2), .int .u8 n, .int .u8 code] 5)) (fun _ => True) (some ⟨w.heap.size, 0, none⟩) [224, UInt8.ofNat (m + 2), UInt8.ofNat n, UInt8.ofNat code] := row5' [.int .u8 224, .int .u8 ((m : Int) + 2), .int .u8 n, .int .u8 code] _ (by simp [u8]; omega) rfl
    have HB := hide (h.alloc (.cells #[.int .u8 224, .int .u8 ((m : Int) + 2), .int .u8 n, .int .u8 code] 5))
    go_enter Tryd.func41, Tryd.ntmps41
    go_wp2_with (go_at_call 37; go_loud (refine (append_any (fun _ => True) p bs [224, UInt8.ofNat (m + 2), UInt8.ofNat n, UInt8.ofNat code] _ 4 4 _ rfl HR (by simp) (unhide HB) (by omega)).mono ?_; rintro e w1 ⟨rfl, hb1, hw1⟩))
    go_end0
    exact ⟨rfl, hb1, ((by repeat (first | with_reducible exact Below.refl _ _ | with_reducible exact x | with_reducible refine Below.alloc ?_ (by first | omega | (simp; omega) | (simp; done)) _ | with_reducible refine Below.setCell ?_ (by first | omega | (simp; omega) | (simp; done)) _ | with_reducible refine Below.drew ?_ | with_reducible refine below_drewN ?_ _)) : Below p w (w.alloc _)).trans hw1⟩
  · rw [if_neg h1]
    have h2 : ¬ (m : Int) + 2 ≤ 255 := by omega
    go_enter Tryd.func41, Tryd.ntmps41
    go_wp2_with fail
    refine (appendByte_any p bs 240 _ h (by omega)).mono ?_
    rintro e w1 ⟨rfl, hb1, hw1⟩
    go_wp2_with fail
    refine (appendUint32_any p (bs ++ [240]) (m + 5) _ hb1 (by simp; omega) (by omega)).mono ?_
    rintro e w2 ⟨rfl, hb2, hw2⟩
    go_wp2_with fail
    refine (appendUint32_any p _ n _ hb2 (by simp; omega) (by omega)).mono ?_
    rintro e w3 ⟨rfl, hb3, hw3⟩
    have hu8 : u8 (UInt8.ofNat code) = .int .u8 (code : Int) := by simp [u8]; omega
    have hAB := appendByte_any p _ (UInt8.ofNat code) _ hb3 (by simp; omega)
    rw [hu8] at hAB
    clear hu8
    go_wp2_with fail
    refine hAB.mono ?_
    rintro e w4 ⟨rfl, hb4, hw4⟩
    go_wp2
    go_end0
    exact ⟨rfl, by simpa [be4] using hb4, ((hw1.trans hw2).trans hw3).trans hw4⟩
/-- An array of one element at least reads back as its elements. -/
theorem arr_read (n m c : Nat) (flat : List UInt8) (kids : List AV) (hn0 : 0 < n) (hn : n ≤ 255 ∨ 255 < m + 2) (hn3 : n < 1048576) (hm : flat.length = m) (hm2 : m < 1000000) (hc0 : 0 < c) (hc : c < 256)
    (hl : loopA ((lvl 7).take [] c) n flat = some (some (kids, []))) : (lvl 8).val (hdrE n m c ++ flat) = some (some (.mk 23 0 [] kids 0 [], [])) := by
  have hcons : ∀ l : List UInt8, (lvl 7).cons (UInt8.ofNat c :: l) = some (some ([], c, l)) := by
    intro l
    have h1 : UInt8.ofNat c ≠ 0 := fun e => by
      have := congrArg UInt8.toNat e
      simp at this
      omega
    have h2 : c % 256 = c := by omega
    rw [show (lvl 7).cons (UInt8.ofNat c :: l) = consW (lvl 6).val (UInt8.ofNat c :: l) from rfl]
    simp [consW, h1, h2]
  have hv : ∀ bs : List UInt8, (lvl 8).val bs = match consW (lvl 7).val bs with
      | none => none
      | some none => some none
      | some (some (d, c, r)) => takeW (lvl 7).cons (lvl 7).val (lvl 7).take d c r := fun _ => rfl
  rw [hv]
  clear hv
  unfold hdrE
  by_cases h : m + 2 ≤ 255
  · rw [if_pos h]
    have h1 : (m + 2) % 256 = m + 2 := by omega
    have h2 : n % 256 = n := by omega
    have h3 : flat.length + 1 + 1 = m + 2 := by omega
    have h4 : (UInt8.ofNat n :: UInt8.ofNat c :: flat).take (m + 2) = UInt8.ofNat n :: UInt8.ofNat c :: flat := List.take_of_length_le (by simp; omega)
    have h5 : (UInt8.ofNat n :: UInt8.ofNat c :: flat).drop (m + 2) = [] := List.drop_eq_nil_of_le (by simp; omega)
    simp only [List.cons_append, List.nil_append, consW, ne_eq, show (224 : UInt8) ≠ 0 from by decide, not_false_eq_true, if_true, show (224 : UInt8).toNat = 224 from rfl, takeW, kOf]
    simp only [show ¬ (1 : Nat) = 16 from by decide, if_false, List.length_cons, show ¬ (flat.length + 1 + 1 + 1 < 1) from by omega, List.take_succ_cons, List.take_zero, List.drop_succ_cons, List.drop_zero]
    have hb : bigA [UInt8.ofNat (m + 2)] = m + 2 := by simp [bigA, h1]
    have hb2 : bigA [UInt8.ofNat n] = n := by simp [bigA, h2]
    rw [hb]
    simp only [show ¬ ((23 : Nat) = 0 ∨ (224 : Nat) = 69) from by decide, if_false, show ¬ (23 : Nat) = 1 from by decide, show (21 : Nat) ≤ 23 from by decide, if_true, withinW, List.length_cons, h3, h4, h5]
    simp only [show ¬ (m + 2 < m + 2 ∨ m + 2 < 1) from by omega, if_false, List.take_succ_cons, List.take_zero, List.drop_succ_cons, List.drop_zero, hb2, show ¬ ((23 : Nat) = 22 ∧ n % 2 = 1 ∨ 1048576 < n) from by omega, if_true, hcons, show ¬ n = 0 from by omega, hl, listW]
    rfl
  · rw [if_neg h]
    have h1 := bigA_be4 (m + 5) (by omega)
    have h2 := bigA_be4 n (by omega)
    have l1 : (be4 (m + 5)).length = 4 := rfl
    have l2 : (be4 n).length = 4 := rfl
    obtain ⟨R, hR⟩ : ∃ R, R = be4 n ++ (UInt8.ofNat c :: flat) := ⟨_, rfl⟩
    have hRl : R.length = m + 5 := by rw [hR]; simp [l2]; omega
    have e0 : (240 :: (be4 (m + 5) ++ be4 n ++ [UInt8.ofNat c]) ++ flat) = 240 :: (be4 (m + 5) ++ R) := by rw [hR]; simp
    have e1 : (be4 (m + 5) ++ R).take 4 = be4 (m + 5) := List.take_left' l1
    have e2 : (be4 (m + 5) ++ R).drop 4 = R := List.drop_left' l1
    have e3 : R.take (m + 5) = R := List.take_of_length_le (by omega)
    have e4 : R.drop (m + 5) = [] := List.drop_eq_nil_of_le (by omega)
    have e5 : R.take 4 = be4 n := by rw [hR]; exact List.take_left' l2
    have e6 : R.drop 4 = UInt8.ofNat c :: flat := by rw [hR]; exact List.drop_left' l2
    rw [e0]
    simp only [consW, ne_eq, show (240 : UInt8) ≠ 0 from by decide, not_false_eq_true, if_true, show (240 : UInt8).toNat = 240 from rfl, takeW, kOf]
    simp only [show ¬ (4 : Nat) = 16 from by decide, if_false, List.length_append, l1, show ¬ (4 + R.length < 4) from by omega, e1, e2, h1]
    simp only [show ¬ ((23 : Nat) = 0 ∨ (240 : Nat) = 69) from by decide, if_false, show ¬ (23 : Nat) = 1 from by decide, show (21 : Nat) ≤ 23 from by decide, if_true, withinW, hRl, e3, e4, e5, e6, h2]
    simp only [show ¬ (m + 5 < m + 5 ∨ m + 5 < 4) from by omega, if_false, show ¬ ((23 : Nat) = 22 ∧ n % 2 = 1 ∨ 1048576 < n) from by omega, if_true, hcons, show ¬ n = 0 from by omega, hl, listW]
    rfl
/-- An array of none. -/
theorem arr_read0 (c k s : Nat) (hc0 : 0 < c) (hc : c < 256) (hk : kOf c = some (k, s)) : (lvl 8).val (hdrE 0 0 c) = some (some (.mk 23 0 [] [] k [], [])) := by
  have h1 : UInt8.ofNat c ≠ 0 := fun e => by
    have := congrArg UInt8.toNat e
    simp at this
    omega
  have h2 : c % 256 = c := by omega
  have hcons : ∀ l : List UInt8, (lvl 7).cons (UInt8.ofNat c :: l) = some (some ([], c, l)) := by
    intro l
    rw [show (lvl 7).cons (UInt8.ofNat c :: l) = consW (lvl 6).val (UInt8.ofNat c :: l) from rfl]
    simp [consW, h1, h2]
  have k1 : kOf 224 = some (23, 1) := rfl
  have hv : (lvl 8).val (hdrE 0 0 c) = takeW (lvl 7).cons (lvl 7).val (lvl 7).take [] 224 [2, 0, UInt8.ofNat c] := rfl
  rw [hv]
  unfold takeW
  rw [k1]
  have hw : withinW (lvl 7).cons (lvl 7).val (lvl 7).take [] 23 2 1 [0, UInt8.ofNat c] = some (some (.mk 23 0 [] [] k [], [])) := by
    simp [withinW, bigA, hcons, hk]
  exact hw
end Go.Proofs.YtnnddknplhhnkaaDoor
