/-
  A type assertion with comma-ok to a type that is no interface, of an interface value of a known type. Conditions: closed facts of the program.
-/
import Derived.Test.YtkokeohlbmccpaaGreatDoorProg
import Derived.Test.YtkokeohlbmccpaaGreatDoorWords
import Derived.BigFrame
namespace Go.Proofs.YtkokeohlbmccpaaGreatDoor
set_option linter.unusedSimpArgs false
set_option linter.unusedVariables false
open Go.RowKit
def notIfaceB (P : Program) (t : TypeId) : Bool := match P.underlying t with
  | some (.interface _) => false
  | some _ => true
  | none => false
def zOf (P : Program) (t : TypeId) : Value := ((P.info? t).bind (·.zero)).getD (.tuple #[])
theorem ta_no {P : Program} (t u xT : TypeId) (hn : notIfaceB P u = true) (hz : ((P.info? u).bind (·.zero)).isSome = true) (hne : t ≠ u) (v : Value) (w : World) :
    (Instr.typeAssert (.iface t v) xT u true).run P w = .ok (.tuple #[zOf P u, .bool false]) w := by
  unfold notIfaceB at hn
  unfold zOf
  rcases hi : P.info? u with _ | i
  · rw [hi] at hz
    cases hz
  rw [hi] at hz
  rcases hz' : i.zero with _ | z
  · simp [hz'] at hz
  rcases hu : P.underlying u with _ | x
  · rw [hu] at hn
    cases hn
  rw [hu] at hn
  cases x <;> first
    | (cases hn; done)
    | simp [Instr.typeAssert, run_underlying hu, typeInfo, zeroValue, hi, hz', hne]
theorem ta_yes {P : Program} (t xT : TypeId) (hn : notIfaceB P t = true) (v : Value) (w : World) :
    (Instr.typeAssert (.iface t v) xT t true).run P w = .ok (.tuple #[v, .bool true]) w := by
  unfold notIfaceB at hn
  rcases hu : P.underlying t with _ | x
  · rw [hu] at hn
    cases hn
  rw [hu] at hn
  cases x <;> first
    | (cases hn; done)
    | simp [Instr.typeAssert, run_underlying hu]
end Go.Proofs.YtkokeohlbmccpaaGreatDoor
