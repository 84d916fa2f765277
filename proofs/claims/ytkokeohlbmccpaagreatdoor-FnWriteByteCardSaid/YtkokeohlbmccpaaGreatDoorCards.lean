/-
  DERIVED. GIVEN WITH THE SEED: THE CARDS: each row of YtkokeohlbmccpaaGreatDoorRows.lean that lists a variable, with what it lists TIED to the program's text (the seventh form; the later family's looks); each row that meets fmt, with fmt's text TOLD by the authors' own Lean function (tested against real Go, not proved from fmt's source: count such statements apart). THE CARD IS WHAT COUNTS. Prove the row's statement (the work); the ties are given (YtkokeohlbmccpaaGreatDoorTie.lean); close each card by the builder's one call (the guide's Derived/Test/ToyasCard.lean, 'card_holds'). Laid BY PROGRAM, IN A SANDBOX (cutbox-door.mjs). By AI agents, Wed Nov 11 2026. No macro, syntax, notation, axiom, sorry.
-/
import Derived.Test.YtkokeohlbmccpaaGreatDoorRows
import GoSem.ClaimSeven
namespace Go.Proofs.YtkokeohlbmccpaaGreatDoor
namespace Rows

/-- THE TIED CARD OF 'laws.FnWriteBoolean'. -/
def fnWriteBooleanCard : Claim7 := { stood := { row := fnWriteBooleanRow, standIns := [], harness := (true, "e417a2a9afcf7ba7a8223114d9816a9092d5f5ee15bc0c563c5940e31ea0eccb"), looks := true }, kinds := [], alts := [], laidByText := true, laidKinds := [.data, .pinned], laidTests := true, laidLooks := .later }
def FnWriteBooleanCardSaid : Prop := Claim7.holds Tryz.pinned (.plain (OpenSpec.ofChange fnWriteBooleanSpec)) fnWriteBooleanCard

/-- THE TIED CARD OF 'laws.FnWriteByte'. -/
def fnWriteByteCard : Claim7 := { stood := { row := fnWriteByteRow, standIns := [], harness := (true, "e417a2a9afcf7ba7a8223114d9816a9092d5f5ee15bc0c563c5940e31ea0eccb"), looks := true }, kinds := [], alts := [], laidByText := true, laidKinds := [.data, .pinned], laidTests := true, laidLooks := .later }
def FnWriteByteCardSaid : Prop := Claim7.holds Tryz.pinned (.plain (OpenSpec.ofChange fnWriteByteSpec)) fnWriteByteCard

/-- THE TIED CARD OF 'laws.FnWriteResponse'. -/
def fnWriteResponseCard : Claim7 := { stood := { row := fnWriteResponseRow, standIns := [], harness := (true, "e417a2a9afcf7ba7a8223114d9816a9092d5f5ee15bc0c563c5940e31ea0eccb"), looks := true }, kinds := [], alts := [], laidByText := true, laidKinds := [.data, .pinned], laidTests := true, laidLooks := .later }
def FnWriteResponseCardSaid : Prop := Claim7.holds Tryz.pinned (.plain (OpenSpec.ofChange fnWriteResponseSpec)) fnWriteResponseCard

/-- THE SECOND FORM's CARD OF 'laws.FnWriteBoolean'. -/
def fnWriteBooleanUptoCard : Claim7 := { stood := { row := fnWriteBooleanUptoRow, standIns := [], harness := (true, "e417a2a9afcf7ba7a8223114d9816a9092d5f5ee15bc0c563c5940e31ea0eccb"), looks := true }, kinds := [], alts := [], laidByText := true, laidKinds := [.data, .pinned], laidTests := true, laidLooks := .later }
def FnWriteBooleanUptoCardSaid : Prop := Claim7.holds Tryz.pinned (.plain (OpenSpec.upto fnWriteBooleanSpec)) fnWriteBooleanUptoCard

/-- THE SECOND FORM's CARD OF 'laws.FnWriteByte'. -/
def fnWriteByteUptoCard : Claim7 := { stood := { row := fnWriteByteUptoRow, standIns := [], harness := (true, "e417a2a9afcf7ba7a8223114d9816a9092d5f5ee15bc0c563c5940e31ea0eccb"), looks := true }, kinds := [], alts := [], laidByText := true, laidKinds := [.data, .pinned], laidTests := true, laidLooks := .later }
def FnWriteByteUptoCardSaid : Prop := Claim7.holds Tryz.pinned (.plain (OpenSpec.upto fnWriteByteSpec)) fnWriteByteUptoCard

/-- THE SECOND FORM's CARD OF 'laws.FnWriteResponse'. -/
def fnWriteResponseUptoCard : Claim7 := { stood := { row := fnWriteResponseUptoRow, standIns := [], harness := (true, "e417a2a9afcf7ba7a8223114d9816a9092d5f5ee15bc0c563c5940e31ea0eccb"), looks := true }, kinds := [], alts := [], laidByText := true, laidKinds := [.data, .pinned], laidTests := true, laidLooks := .later }
def FnWriteResponseUptoCardSaid : Prop := Claim7.holds Tryz.pinned (.plain (OpenSpec.upto fnWriteResponseSpec)) fnWriteResponseUptoCard
end Rows
end Go.Proofs.YtkokeohlbmccpaaGreatDoor
