/-
  impl.copied: bytes of their own. Conditions: at most 2^46 bytes. And: a number of so many bytes is below 256 to that.
-/
import Derived.Test.YtpmcljjhjjmlfaaForms
import Derived.Test.YtpmcljjhjjmlfaaBytesR
namespace Go.Proofs.Ytpmcljjhjjmlfaa
set_option linter.unusedSimpArgs false
set_option linter.unusedVariables false
open Go.RowKit
/-- The blocks that w' has and w has not. -/
def Made (w w' : World) : Nat → Prop := fun b => w.heap.size ≤ b ∧ b < w'.heap.size
theorem bigU_snoc (bs : List UInt8) (b : UInt8) : bigU (bs ++ [b]) = bigU bs * 256 + b.toNat := by simp [bigU]
theorem bigU_lt (bs : List UInt8) : bigU bs < 256 ^ bs.length := by
  have key : ∀ k, k ≤ bs.length → bigU (bs.take k) < 256 ^ k := by
    intro k
    induction k with
    | zero => intro _; simp [bigU]
    | succ k ih =>
      intro h
      have h1 := ih (by omega)
      rw [List.take_succ_eq_append_getElem (by omega), bigU_snoc, Nat.pow_succ]
      have := bs[k].toNat_lt
      omega
  have := key bs.length (Nat.le_refl _)
  rwa [List.take_length] at this
end Go.Proofs.Ytpmcljjhjjmlfaa
