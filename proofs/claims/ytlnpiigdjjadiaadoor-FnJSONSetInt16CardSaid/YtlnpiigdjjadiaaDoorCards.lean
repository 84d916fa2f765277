/-
  DERIVED. GIVEN WITH THE SEED: THE CARDS: each row of YtlnpiigdjjadiaaDoorRows.lean that lists a variable, with what it lists TIED to the program's text (the seventh form; the later family's looks); each row that meets fmt, with fmt's text TOLD by the authors' own Lean function (tested against real Go, not proved from fmt's source: count such statements apart). THE CARD IS WHAT COUNTS. Prove the row's statement (the work); the ties are given (YtlnpiigdjjadiaaDoorTie.lean); close each card by the builder's one call (the guide's Derived/Test/ToyasCard.lean, 'card_holds'). Laid BY PROGRAM, IN A SANDBOX (cutbox-door.mjs). By AI agents, Wed Nov 11 2026. No macro, syntax, notation, axiom, sorry.
-/
import Derived.Test.YtlnpiigdjjadiaaDoorRows
import GoSem.ClaimSeven
namespace Go.Proofs.YtlnpiigdjjadiaaDoor
namespace Rows

/-- THE TIED CARD OF 'laws.FnGetSetInt32'. -/
def fnGetSetInt32Card : Claim7 := { stood := { row := fnGetSetInt32Row, standIns := [], harness := (true, "6addb940c192ee5bc3ad6b2605ad96c5fce5ad30fb079a3a4425e0fcd86412fe"), looks := false }, kinds := [], alts := [], laidByText := true, laidKinds := [.wider], laidTests := true, laidLooks := .later }
def FnGetSetInt32CardSaid : Prop := Claim7.holds Tryd.pinned (.plain (OpenSpec.ofChange fnGetSetInt32Spec)) fnGetSetInt32Card

/-- THE TIED CARD OF 'laws.FnGetSetByte'. -/
def fnGetSetByteCard : Claim7 := { stood := { row := fnGetSetByteRow, standIns := [], harness := (true, "6addb940c192ee5bc3ad6b2605ad96c5fce5ad30fb079a3a4425e0fcd86412fe"), looks := false }, kinds := [], alts := [], laidByText := true, laidKinds := [.wider], laidTests := true, laidLooks := .later }
def FnGetSetByteCardSaid : Prop := Claim7.holds Tryd.pinned (.plain (OpenSpec.ofChange fnGetSetByteSpec)) fnGetSetByteCard

/-- THE TIED CARD OF 'laws.FnJSONSetUint64'. -/
def fnJSONSetUint64Card : Claim7 := { stood := { row := fnJSONSetUint64Row, standIns := [], harness := (true, "6addb940c192ee5bc3ad6b2605ad96c5fce5ad30fb079a3a4425e0fcd86412fe"), looks := false }, kinds := [], alts := [], laidByText := true, laidKinds := [.data, .data, .data, .data, .pinned], laidTests := true, laidLooks := .later }
def FnJSONSetUint64CardSaid : Prop := Claim7.holds Tryd.pinned (.plain (OpenSpec.ofChange fnJSONSetUint64Spec)) fnJSONSetUint64Card

/-- THE TIED CARD OF 'laws.FnJSONSetInt'. -/
def fnJSONSetIntCard : Claim7 := { stood := { row := fnJSONSetIntRow, standIns := [], harness := (true, "6addb940c192ee5bc3ad6b2605ad96c5fce5ad30fb079a3a4425e0fcd86412fe"), looks := false }, kinds := [], alts := [], laidByText := true, laidKinds := [.data, .data, .data, .data, .pinned], laidTests := true, laidLooks := .later }
def FnJSONSetIntCardSaid : Prop := Claim7.holds Tryd.pinned (.plain (OpenSpec.ofChange fnJSONSetIntSpec)) fnJSONSetIntCard

/-- THE TIED CARD OF 'laws.FnJSONSetInt16'. -/
def fnJSONSetInt16Card : Claim7 := { stood := { row := fnJSONSetInt16Row, standIns := [], harness := (true, "6addb940c192ee5bc3ad6b2605ad96c5fce5ad30fb079a3a4425e0fcd86412fe"), looks := false }, kinds := [], alts := [], laidByText := true, laidKinds := [.data, .data, .data, .data, .pinned], laidTests := true, laidLooks := .later }
def FnJSONSetInt16CardSaid : Prop := Claim7.holds Tryd.pinned (.plain (OpenSpec.ofChange fnJSONSetInt16Spec)) fnJSONSetInt16Card

/-- THE SECOND FORM's CARD OF 'laws.FnGetSetInt32'. -/
def fnGetSetInt32UptoCard : Claim7 := { stood := { row := fnGetSetInt32UptoRow, standIns := [], harness := (true, "6addb940c192ee5bc3ad6b2605ad96c5fce5ad30fb079a3a4425e0fcd86412fe"), looks := false }, kinds := [], alts := [], laidByText := true, laidKinds := [.wider], laidTests := true, laidLooks := .later }
def FnGetSetInt32UptoCardSaid : Prop := Claim7.holds Tryd.pinned (.plain (OpenSpec.upto fnGetSetInt32Spec)) fnGetSetInt32UptoCard

/-- THE SECOND FORM's CARD OF 'laws.FnGetSetByte'. -/
def fnGetSetByteUptoCard : Claim7 := { stood := { row := fnGetSetByteUptoRow, standIns := [], harness := (true, "6addb940c192ee5bc3ad6b2605ad96c5fce5ad30fb079a3a4425e0fcd86412fe"), looks := false }, kinds := [], alts := [], laidByText := true, laidKinds := [.wider], laidTests := true, laidLooks := .later }
def FnGetSetByteUptoCardSaid : Prop := Claim7.holds Tryd.pinned (.plain (OpenSpec.upto fnGetSetByteSpec)) fnGetSetByteUptoCard

/-- THE SECOND FORM's CARD OF 'laws.FnJSONSetUint64'. -/
def fnJSONSetUint64UptoCard : Claim7 := { stood := { row := fnJSONSetUint64UptoRow, standIns := [], harness := (true, "6addb940c192ee5bc3ad6b2605ad96c5fce5ad30fb079a3a4425e0fcd86412fe"), looks := false }, kinds := [], alts := [], laidByText := true, laidKinds := [.data, .data, .data, .data, .pinned], laidTests := true, laidLooks := .later }
def FnJSONSetUint64UptoCardSaid : Prop := Claim7.holds Tryd.pinned (.plain (OpenSpec.upto fnJSONSetUint64Spec)) fnJSONSetUint64UptoCard

/-- THE SECOND FORM's CARD OF 'laws.FnJSONSetInt'. -/
def fnJSONSetIntUptoCard : Claim7 := { stood := { row := fnJSONSetIntUptoRow, standIns := [], harness := (true, "6addb940c192ee5bc3ad6b2605ad96c5fce5ad30fb079a3a4425e0fcd86412fe"), looks := false }, kinds := [], alts := [], laidByText := true, laidKinds := [.data, .data, .data, .data, .pinned], laidTests := true, laidLooks := .later }
def FnJSONSetIntUptoCardSaid : Prop := Claim7.holds Tryd.pinned (.plain (OpenSpec.upto fnJSONSetIntSpec)) fnJSONSetIntUptoCard

/-- THE SECOND FORM's CARD OF 'laws.FnJSONSetInt16'. -/
def fnJSONSetInt16UptoCard : Claim7 := { stood := { row := fnJSONSetInt16UptoRow, standIns := [], harness := (true, "6addb940c192ee5bc3ad6b2605ad96c5fce5ad30fb079a3a4425e0fcd86412fe"), looks := false }, kinds := [], alts := [], laidByText := true, laidKinds := [.data, .data, .data, .data, .pinned], laidTests := true, laidLooks := .later }
def FnJSONSetInt16UptoCardSaid : Prop := Claim7.holds Tryd.pinned (.plain (OpenSpec.upto fnJSONSetInt16Spec)) fnJSONSetInt16UptoCard
end Rows
end Go.Proofs.YtlnpiigdjjadiaaDoor
