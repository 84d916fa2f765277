/-
  Plain: the text of a set in JSON. No condition.
-/
import Derived.Test.YtlnpiigdjjadiaaDoorGJSONSetInt16a
import Derived.Lib.ItoaLen
import Derived.Lib.AppendIntMem
namespace Go.Proofs.YtlnpiigdjjadiaaDoor
set_option linter.unusedSimpArgs false
set_option linter.unusedVariables false
open Go.RowKit
/-- Numerals with commas between them. -/
def jcat : List Int → List UInt8
  | [] => []
  | [x] => Lib.itoa x
  | x :: y :: r => Lib.itoa x ++ 44 :: jcat (y :: r)
/-- The text of an array of numbers. -/
def jtext (ks : List Int) : List UInt8 := 91 :: (jcat ks ++ [93])
theorem jcat_snoc : ∀ (l : List Int) (x : Int), l ≠ [] → jcat (l ++ [x]) = jcat l ++ 44 :: Lib.itoa x
  | [], _, h => absurd rfl h
  | [y], x, _ => rfl
  | y :: z :: r, x, _ => by
    have ih := jcat_snoc (z :: r) x (by simp)
    show Lib.itoa y ++ 44 :: jcat (z :: r ++ [x]) = _
    rw [ih]
    simp [jcat]
theorem jcat_cons (x : Int) : ∀ (r : List Int), r ≠ [] → jcat (x :: r) = Lib.itoa x ++ 44 :: jcat r
  | [], h => absurd rfl h
  | y :: r, _ => rfl
theorem jcat_len (l : List Int) (h : ∀ x ∈ l, (Lib.itoa x).length ≤ 21) : (jcat l).length ≤ 22 * l.length := by
  induction l with
  | nil => simp [jcat]
  | cons x r ih =>
    have h1 := h x (by simp)
    have h2 := ih (fun y hy => h y (by simp [hy]))
    rcases r with _ | ⟨y, r⟩
    · simp only [jcat, List.length_cons, List.length_nil]
      omega
    · rw [jcat_cons x (y :: r) (by simp)]
      simp only [List.length_append, List.length_cons] at h2 ⊢
      omega
/-- What stands behind '[' and the first k numerals. -/
def jp (ks : List Int) (k : Nat) : List UInt8 := 91 :: jcat (ks.take k)
theorem jp_zero (ks : List Int) : jp ks 0 = [91] := rfl
theorem jp_one (ks : List Int) (h : 0 < ks.length) : jp ks 1 = jp ks 0 ++ Lib.itoa ks[0] := by
  unfold jp
  rw [List.take_succ_eq_append_getElem h]
  rfl
theorem jp_succ (ks : List Int) (k : Nat) (h0 : 0 < k) (h : k < ks.length) : jp ks (k + 1) = (jp ks k ++ [44]) ++ Lib.itoa ks[k] := by
  unfold jp
  rw [List.take_succ_eq_append_getElem h, jcat_snoc _ _ (by
    intro e
    have h9 : (ks.take k).length = 0 := by rw [e]; rfl
    rw [List.length_take] at h9
    omega)]
  simp
theorem jp_len (ks : List Int) (k : Nat) (h : ∀ x ∈ ks, (Lib.itoa x).length ≤ 21) (hk : ks.length ≤ 100) : (jp ks k).length ≤ 3000 := by
  have h1 := jcat_len (ks.take k) (fun x hx => h x (List.mem_of_mem_take hx))
  rw [List.length_take] at h1
  unfold jp
  simp only [List.length_cons]
  omega
end Go.Proofs.YtlnpiigdjjadiaaDoor
