/-
  DERIVED. GIVEN WITH THE SEED: THE CARDS: each row of YtapkehellkdkjaaDoorRows.lean that lists a variable, with what it lists TIED to the program's text (the seventh form; the later family's looks); each row that meets fmt, with fmt's text TOLD by the authors' own Lean function (tested against real Go, not proved from fmt's source: count such statements apart). THE CARD IS WHAT COUNTS. Prove the row's statement (the work); the ties are given (YtapkehellkdkjaaDoorTie.lean); close each card by the builder's one call (the guide's Derived/Test/ToyasCard.lean, 'card_holds'). Laid BY PROGRAM, IN A SANDBOX (cutbox-door.mjs). By AI agents, Wed Nov 11 2026. No macro, syntax, notation, axiom, sorry.
-/
import Derived.Test.YtapkehellkdkjaaDoorRows
import GoSem.ClaimSeven
namespace Go.Proofs.YtapkehellkdkjaaDoor
namespace Rows

/-- THE TIED CARD OF 'laws.FnStreamPutText'. -/
def fnStreamPutTextCard : Claim7 := { stood := { row := fnStreamPutTextRow, standIns := [], harness := (true, "7bff206e8a211dfc1adc70a2759607dd958e6ec1936abd5ef9f52df59a18eaaf"), looks := true }, kinds := [], alts := [], laidByText := true, laidKinds := [.wider], laidTests := true, laidLooks := .later }
def FnStreamPutTextCardSaid : Prop := Claim7.holds Tryd.pinned (.plain (OpenSpec.ofChange fnStreamPutTextSpec)) fnStreamPutTextCard

/-- THE SECOND FORM's CARD OF 'laws.FnStreamPutText'. -/
def fnStreamPutTextUptoCard : Claim7 := { stood := { row := fnStreamPutTextUptoRow, standIns := [], harness := (true, "7bff206e8a211dfc1adc70a2759607dd958e6ec1936abd5ef9f52df59a18eaaf"), looks := true }, kinds := [], alts := [], laidByText := true, laidKinds := [.wider], laidTests := true, laidLooks := .later }
def FnStreamPutTextUptoCardSaid : Prop := Claim7.holds Tryd.pinned (.plain (OpenSpec.upto fnStreamPutTextSpec)) fnStreamPutTextUptoCard
end Rows
end Go.Proofs.YtapkehellkdkjaaDoor
