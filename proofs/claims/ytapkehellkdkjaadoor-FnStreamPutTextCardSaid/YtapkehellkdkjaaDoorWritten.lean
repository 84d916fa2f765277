/-
  impl.written: values are written one behind the other. Conditions: at most 100 values, each of at most 70000 bytes; what writes one is given by its contract.
-/
import Derived.Test.YtapkehellkdkjaaDoorNewWriter
namespace Go.Proofs.YtapkehellkdkjaaDoor
set_option linter.unusedSimpArgs false
set_option linter.unusedVariables false
set_option linter.unusedVariables false
open Go.RowKit
/-- The bytes of all values. -/
def encs {α : Type} (enc : α → List UInt8) (xs : List α) : List UInt8 := (xs.map enc).flatten
theorem encs_snoc {α : Type} (enc : α → List UInt8) (xs : List α) (k : Nat) (h : k < xs.length) : encs enc (xs.take (k + 1)) = encs enc (xs.take k) ++ enc xs[k] := by
  unfold encs
  rw [List.take_succ_eq_append_getElem h, List.map_append, List.flatten_append]
  simp
theorem encs_len {α : Type} (enc : α → List UInt8) (c : Nat) (hc : ∀ x, (enc x).length ≤ c) : ∀ (xs : List α), (encs enc xs).length ≤ c * xs.length
  | [] => by simp [encs]
  | x :: xs => by
    have h1 := hc x
    have h2 := encs_len enc c hc xs
    unfold encs at h2 ⊢
    rw [List.map_cons, List.flatten_cons, List.length_append, List.length_cons, Nat.mul_succ]
    omega
/-- What a writer of a list answers. -/
def Written (bs : List UInt8) (w : World) (e : Ending) (w' : World) : Prop :=
  ∃ A c, e = .returned (.tuple #[.slice A bs.length c, .bool true]) ∧ bs.length ≤ c ∧ c ≤ maxLen ∧ RB w' (fun b => w.heap.size ≤ b ∧ b < w'.heap.size) A bs ∧ Below w.heap.size w w'
def WrittenRel {α : Type} (enc : α → List UInt8) (w : World) (z : Nat) (xs : List α) (i : Value) (wr : World) : Prop :=
  ∃ k : Nat, k ≤ xs.length ∧ i = .int .i64 k ∧ WrAny wr w.heap.size (w.heap.size + 1) (w.heap.size + 1 + 1) z (encs enc (xs.take k)) ∧ Below w.heap.size w wr
end Go.Proofs.YtapkehellkdkjaaDoor
