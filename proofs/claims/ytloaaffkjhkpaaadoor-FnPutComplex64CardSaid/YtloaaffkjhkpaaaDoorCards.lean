/-
  DERIVED. GIVEN WITH THE SEED: THE CARDS: each row of YtloaaffkjhkpaaaDoorRows.lean that lists a variable, with what it lists TIED to the program's text (the seventh form; the later family's looks); each row that meets fmt, with fmt's text TOLD by the authors' own Lean function (tested against real Go, not proved from fmt's source: count such statements apart). THE CARD IS WHAT COUNTS. Prove the row's statement (the work); the ties are given (YtloaaffkjhkpaaaDoorTie.lean); close each card by the builder's one call (the guide's Derived/Test/ToyasCard.lean, 'card_holds'). Laid BY PROGRAM, IN A SANDBOX (cutbox-door.mjs). By AI agents, Wed Nov 11 2026. No macro, syntax, notation, axiom, sorry.
-/
import Derived.Test.YtloaaffkjhkpaaaDoorRows
import GoSem.ClaimSeven
namespace Go.Proofs.YtloaaffkjhkpaaaDoor
namespace Rows

/-- THE TIED CARD OF 'laws.FnPutComplex64'. -/
def fnPutComplex64Card : Claim7 := { stood := { row := fnPutComplex64Row, standIns := [], harness := (true, "0a16d101c48c98fe15daf021465dd8e3e39c6ee393bce56e019902ffc029dcae"), looks := false }, kinds := [], alts := [], laidByText := true, laidKinds := [.wider], laidTests := true, laidLooks := .later }
def FnPutComplex64CardSaid : Prop := Claim7.holds Tryd.pinned (.plain (OpenSpec.ofChange fnPutComplex64Spec)) fnPutComplex64Card

/-- THE SECOND FORM's CARD OF 'laws.FnPutComplex64'. -/
def fnPutComplex64UptoCard : Claim7 := { stood := { row := fnPutComplex64UptoRow, standIns := [], harness := (true, "0a16d101c48c98fe15daf021465dd8e3e39c6ee393bce56e019902ffc029dcae"), looks := false }, kinds := [], alts := [], laidByText := true, laidKinds := [.wider], laidTests := true, laidLooks := .later }
def FnPutComplex64UptoCardSaid : Prop := Claim7.holds Tryd.pinned (.plain (OpenSpec.upto fnPutComplex64Spec)) fnPutComplex64UptoCard
end Rows
end Go.Proofs.YtloaaffkjhkpaaaDoor
