/-
  What a function that answers bytes of its own says of them. No condition.
-/
import Derived.Test.YtlnpiigdjjadiaaWords
namespace Go.Proofs.Ytlnpiigdjjadiaa
set_option linter.unusedSimpArgs false
set_option linter.unusedVariables false
open Go.RowKit
/-- The blocks made between two worlds. -/
def MadeS (w w' : World) : Nat → Prop := fun b => w.heap.size ≤ b ∧ b < w'.heap.size
/-- Bytes bs of one's own behind w. -/
def OutS (w : World) (bs : List UInt8) (e : Ending) (w' : World) : Prop :=
  ∃ A c, e = .returned (.slice A bs.length c) ∧ bs.length ≤ c ∧ c ≤ maxLen ∧ RB w' (MadeS w w') A bs ∧ Below w.heap.size w w'
end Go.Proofs.Ytlnpiigdjjadiaa
