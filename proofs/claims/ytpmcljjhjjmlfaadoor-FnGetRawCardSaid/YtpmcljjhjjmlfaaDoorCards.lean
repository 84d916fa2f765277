/-
  DERIVED. GIVEN WITH THE SEED: THE CARDS: each row of YtpmcljjhjjmlfaaDoorRows.lean that lists a variable, with what it lists TIED to the program's text (the seventh form; the later family's looks); each row that meets fmt, with fmt's text TOLD by the authors' own Lean function (tested against real Go, not proved from fmt's source: count such statements apart). THE CARD IS WHAT COUNTS. Prove the row's statement (the work); the ties are given (YtpmcljjhjjmlfaaDoorTie.lean); close each card by the builder's one call (the guide's Derived/Test/ToyasCard.lean, 'card_holds'). Laid BY PROGRAM, IN A SANDBOX (cutbox-door.mjs). By AI agents, Wed Nov 11 2026. No macro, syntax, notation, axiom, sorry.
-/
import Derived.Test.YtpmcljjhjjmlfaaDoorRows
import GoSem.ClaimSeven
namespace Go.Proofs.YtpmcljjhjjmlfaaDoor
namespace Rows

/-- THE TIED CARD OF 'laws.FnGetBool'. -/
def fnGetBoolCard : Claim7 := { stood := { row := fnGetBoolRow, standIns := [], harness := (true, "5af71b2108e7a0caab1dc2d4e91f496ac5c616b786641803b991464c64c1b42c"), looks := false }, kinds := [], alts := [], laidByText := true, laidKinds := [.wider], laidTests := true, laidLooks := .later }
def FnGetBoolCardSaid : Prop := Claim7.holds Tryd.pinned (.plain (OpenSpec.ofChange fnGetBoolSpec)) fnGetBoolCard

/-- THE TIED CARD OF 'laws.FnGetArrayHead'. -/
def fnGetArrayHeadCard : Claim7 := { stood := { row := fnGetArrayHeadRow, standIns := [], harness := (true, "5af71b2108e7a0caab1dc2d4e91f496ac5c616b786641803b991464c64c1b42c"), looks := false }, kinds := [], alts := [], laidByText := true, laidKinds := [.wider], laidTests := true, laidLooks := .later }
def FnGetArrayHeadCardSaid : Prop := Claim7.holds Tryd.pinned (.plain (OpenSpec.ofChange fnGetArrayHeadSpec)) fnGetArrayHeadCard

/-- THE TIED CARD OF 'laws.FnGetTextZC'. -/
def fnGetTextZCCard : Claim7 := { stood := { row := fnGetTextZCRow, standIns := [], harness := (true, "5af71b2108e7a0caab1dc2d4e91f496ac5c616b786641803b991464c64c1b42c"), looks := false }, kinds := [], alts := [], laidByText := true, laidKinds := [.wider], laidTests := true, laidLooks := .later }
def FnGetTextZCCardSaid : Prop := Claim7.holds Tryd.pinned (.plain (OpenSpec.ofChange fnGetTextZCSpec)) fnGetTextZCCard

/-- THE TIED CARD OF 'laws.FnGetExact'. -/
def fnGetExactCard : Claim7 := { stood := { row := fnGetExactRow, standIns := [], harness := (true, "5af71b2108e7a0caab1dc2d4e91f496ac5c616b786641803b991464c64c1b42c"), looks := false }, kinds := [], alts := [], laidByText := true, laidKinds := [.wider], laidTests := true, laidLooks := .later }
def FnGetExactCardSaid : Prop := Claim7.holds Tryd.pinned (.plain (OpenSpec.ofChange fnGetExactSpec)) fnGetExactCard

/-- THE TIED CARD OF 'laws.FnGetRaw'. -/
def fnGetRawCard : Claim7 := { stood := { row := fnGetRawRow, standIns := [], harness := (true, "5af71b2108e7a0caab1dc2d4e91f496ac5c616b786641803b991464c64c1b42c"), looks := false }, kinds := [], alts := [], laidByText := true, laidKinds := [.wider, .wider, .wider], laidTests := true, laidLooks := .later }
def FnGetRawCardSaid : Prop := Claim7.holds Tryd.pinned (.plain (OpenSpec.ofChange fnGetRawSpec)) fnGetRawCard

/-- THE TIED CARD OF 'laws.FnGetInt32'. -/
def fnGetInt32Card : Claim7 := { stood := { row := fnGetInt32Row, standIns := [], harness := (true, "5af71b2108e7a0caab1dc2d4e91f496ac5c616b786641803b991464c64c1b42c"), looks := false }, kinds := [], alts := [], laidByText := true, laidKinds := [.wider], laidTests := true, laidLooks := .later }
def FnGetInt32CardSaid : Prop := Claim7.holds Tryd.pinned (.plain (OpenSpec.ofChange fnGetInt32Spec)) fnGetInt32Card

/-- THE TIED CARD OF 'laws.FnGetUint32'. -/
def fnGetUint32Card : Claim7 := { stood := { row := fnGetUint32Row, standIns := [], harness := (true, "5af71b2108e7a0caab1dc2d4e91f496ac5c616b786641803b991464c64c1b42c"), looks := false }, kinds := [], alts := [], laidByText := true, laidKinds := [.wider], laidTests := true, laidLooks := .later }
def FnGetUint32CardSaid : Prop := Claim7.holds Tryd.pinned (.plain (OpenSpec.ofChange fnGetUint32Spec)) fnGetUint32Card

/-- THE SECOND FORM's CARD OF 'laws.FnGetBool'. -/
def fnGetBoolUptoCard : Claim7 := { stood := { row := fnGetBoolUptoRow, standIns := [], harness := (true, "5af71b2108e7a0caab1dc2d4e91f496ac5c616b786641803b991464c64c1b42c"), looks := false }, kinds := [], alts := [], laidByText := true, laidKinds := [.wider], laidTests := true, laidLooks := .later }
def FnGetBoolUptoCardSaid : Prop := Claim7.holds Tryd.pinned (.plain (OpenSpec.upto fnGetBoolSpec)) fnGetBoolUptoCard

/-- THE SECOND FORM's CARD OF 'laws.FnGetArrayHead'. -/
def fnGetArrayHeadUptoCard : Claim7 := { stood := { row := fnGetArrayHeadUptoRow, standIns := [], harness := (true, "5af71b2108e7a0caab1dc2d4e91f496ac5c616b786641803b991464c64c1b42c"), looks := false }, kinds := [], alts := [], laidByText := true, laidKinds := [.wider], laidTests := true, laidLooks := .later }
def FnGetArrayHeadUptoCardSaid : Prop := Claim7.holds Tryd.pinned (.plain (OpenSpec.upto fnGetArrayHeadSpec)) fnGetArrayHeadUptoCard

/-- THE SECOND FORM's CARD OF 'laws.FnGetTextZC'. -/
def fnGetTextZCUptoCard : Claim7 := { stood := { row := fnGetTextZCUptoRow, standIns := [], harness := (true, "5af71b2108e7a0caab1dc2d4e91f496ac5c616b786641803b991464c64c1b42c"), looks := false }, kinds := [], alts := [], laidByText := true, laidKinds := [.wider], laidTests := true, laidLooks := .later }
def FnGetTextZCUptoCardSaid : Prop := Claim7.holds Tryd.pinned (.plain (OpenSpec.upto fnGetTextZCSpec)) fnGetTextZCUptoCard

/-- THE SECOND FORM's CARD OF 'laws.FnGetExact'. -/
def fnGetExactUptoCard : Claim7 := { stood := { row := fnGetExactUptoRow, standIns := [], harness := (true, "5af71b2108e7a0caab1dc2d4e91f496ac5c616b786641803b991464c64c1b42c"), looks := false }, kinds := [], alts := [], laidByText := true, laidKinds := [.wider], laidTests := true, laidLooks := .later }
def FnGetExactUptoCardSaid : Prop := Claim7.holds Tryd.pinned (.plain (OpenSpec.upto fnGetExactSpec)) fnGetExactUptoCard

/-- THE SECOND FORM's CARD OF 'laws.FnGetRaw'. -/
def fnGetRawUptoCard : Claim7 := { stood := { row := fnGetRawUptoRow, standIns := [], harness := (true, "5af71b2108e7a0caab1dc2d4e91f496ac5c616b786641803b991464c64c1b42c"), looks := false }, kinds := [], alts := [], laidByText := true, laidKinds := [.wider, .wider, .wider], laidTests := true, laidLooks := .later }
def FnGetRawUptoCardSaid : Prop := Claim7.holds Tryd.pinned (.plain (OpenSpec.upto fnGetRawSpec)) fnGetRawUptoCard

/-- THE SECOND FORM's CARD OF 'laws.FnGetInt32'. -/
def fnGetInt32UptoCard : Claim7 := { stood := { row := fnGetInt32UptoRow, standIns := [], harness := (true, "5af71b2108e7a0caab1dc2d4e91f496ac5c616b786641803b991464c64c1b42c"), looks := false }, kinds := [], alts := [], laidByText := true, laidKinds := [.wider], laidTests := true, laidLooks := .later }
def FnGetInt32UptoCardSaid : Prop := Claim7.holds Tryd.pinned (.plain (OpenSpec.upto fnGetInt32Spec)) fnGetInt32UptoCard

/-- THE SECOND FORM's CARD OF 'laws.FnGetUint32'. -/
def fnGetUint32UptoCard : Claim7 := { stood := { row := fnGetUint32UptoRow, standIns := [], harness := (true, "5af71b2108e7a0caab1dc2d4e91f496ac5c616b786641803b991464c64c1b42c"), looks := false }, kinds := [], alts := [], laidByText := true, laidKinds := [.wider], laidTests := true, laidLooks := .later }
def FnGetUint32UptoCardSaid : Prop := Claim7.holds Tryd.pinned (.plain (OpenSpec.upto fnGetUint32Spec)) fnGetUint32UptoCard
end Rows
end Go.Proofs.YtpmcljjhjjmlfaaDoor
