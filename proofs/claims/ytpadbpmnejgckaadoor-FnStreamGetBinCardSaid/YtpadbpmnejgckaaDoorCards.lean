/-
  DERIVED. GIVEN WITH THE SEED: THE CARDS: each row of YtpadbpmnejgckaaDoorRows.lean that lists a variable, with what it lists TIED to the program's text (the seventh form; the later family's looks); each row that meets fmt, with fmt's text TOLD by the authors' own Lean function (tested against real Go, not proved from fmt's source: count such statements apart). THE CARD IS WHAT COUNTS. Prove the row's statement (the work); the ties are given (YtpadbpmnejgckaaDoorTie.lean); close each card by the builder's one call (the guide's Derived/Test/ToyasCard.lean, 'card_holds'). Laid BY PROGRAM, IN A SANDBOX (cutbox-door.mjs). By AI agents, Wed Nov 11 2026. No macro, syntax, notation, axiom, sorry.
-/
import Derived.Test.YtpadbpmnejgckaaDoorRows
import GoSem.ClaimSeven
namespace Go.Proofs.YtpadbpmnejgckaaDoor
namespace Rows

/-- THE TIED CARD OF 'laws.FnNumberGet'. -/
def fnNumberGetCard : Claim7 := { stood := { row := fnNumberGetRow, standIns := [], harness := (true, "6f8f5b4e467a5a07cf15f90cc5efa4339ac3bc32bd0cefd38574a44840796adc"), looks := true }, kinds := [], alts := [], laidByText := true, laidKinds := [.wider], laidTests := true, laidLooks := .later }
def FnNumberGetCardSaid : Prop := Claim7.holds Tryd.pinned (.plain (OpenSpec.ofChange fnNumberGetSpec)) fnNumberGetCard

/-- THE TIED CARD OF 'laws.FnRemove'. -/
def fnRemoveCard : Claim7 := { stood := { row := fnRemoveRow, standIns := [], harness := (true, "6f8f5b4e467a5a07cf15f90cc5efa4339ac3bc32bd0cefd38574a44840796adc"), looks := true }, kinds := [], alts := [], laidByText := true, laidKinds := [.wider, .wider, .wider], laidTests := true, laidLooks := .later }
def FnRemoveCardSaid : Prop := Claim7.holds Tryd.pinned (.plain (OpenSpec.ofChange fnRemoveSpec)) fnRemoveCard

/-- THE TIED CARD OF 'laws.FnStreamGetFloat32'. -/
def fnStreamGetFloat32Card : Claim7 := { stood := { row := fnStreamGetFloat32Row, standIns := [], harness := (true, "6f8f5b4e467a5a07cf15f90cc5efa4339ac3bc32bd0cefd38574a44840796adc"), looks := true }, kinds := [], alts := [], laidByText := true, laidKinds := [.sentinel, .sentinel], laidTests := true, laidLooks := .later }
def FnStreamGetFloat32CardSaid : Prop := Claim7.holds Tryd.pinned (.plain (OpenSpec.ofChange fnStreamGetFloat32Spec)) fnStreamGetFloat32Card

/-- THE TIED CARD OF 'laws.FnStreamGetMapHead'. -/
def fnStreamGetMapHeadCard : Claim7 := { stood := { row := fnStreamGetMapHeadRow, standIns := [], harness := (true, "6f8f5b4e467a5a07cf15f90cc5efa4339ac3bc32bd0cefd38574a44840796adc"), looks := true }, kinds := [], alts := [], laidByText := true, laidKinds := [.sentinel, .sentinel], laidTests := true, laidLooks := .later }
def FnStreamGetMapHeadCardSaid : Prop := Claim7.holds Tryd.pinned (.plain (OpenSpec.ofChange fnStreamGetMapHeadSpec)) fnStreamGetMapHeadCard

/-- THE TIED CARD OF 'laws.FnStreamGetBin'. -/
def fnStreamGetBinCard : Claim7 := { stood := { row := fnStreamGetBinRow, standIns := [], harness := (true, "6f8f5b4e467a5a07cf15f90cc5efa4339ac3bc32bd0cefd38574a44840796adc"), looks := true }, kinds := [], alts := [], laidByText := true, laidKinds := [.sentinel, .sentinel, .wider], laidTests := true, laidLooks := .later }
def FnStreamGetBinCardSaid : Prop := Claim7.holds Tryd.pinned (.plain (OpenSpec.ofChange fnStreamGetBinSpec)) fnStreamGetBinCard

/-- THE TIED CARD OF 'laws.FnStreamGetInt'. -/
def fnStreamGetIntCard : Claim7 := { stood := { row := fnStreamGetIntRow, standIns := [], harness := (true, "6f8f5b4e467a5a07cf15f90cc5efa4339ac3bc32bd0cefd38574a44840796adc"), looks := true }, kinds := [], alts := [], laidByText := true, laidKinds := [.sentinel, .sentinel], laidTests := true, laidLooks := .later }
def FnStreamGetIntCardSaid : Prop := Claim7.holds Tryd.pinned (.plain (OpenSpec.ofChange fnStreamGetIntSpec)) fnStreamGetIntCard

/-- THE TIED CARD OF 'laws.FnStreamGetUint'. -/
def fnStreamGetUintCard : Claim7 := { stood := { row := fnStreamGetUintRow, standIns := [], harness := (true, "6f8f5b4e467a5a07cf15f90cc5efa4339ac3bc32bd0cefd38574a44840796adc"), looks := true }, kinds := [], alts := [], laidByText := true, laidKinds := [.sentinel, .sentinel], laidTests := true, laidLooks := .later }
def FnStreamGetUintCardSaid : Prop := Claim7.holds Tryd.pinned (.plain (OpenSpec.ofChange fnStreamGetUintSpec)) fnStreamGetUintCard

/-- THE TIED CARD OF 'laws.FnStreamSkip'. -/
def fnStreamSkipCard : Claim7 := { stood := { row := fnStreamSkipRow, standIns := [], harness := (true, "6f8f5b4e467a5a07cf15f90cc5efa4339ac3bc32bd0cefd38574a44840796adc"), looks := true }, kinds := [], alts := [], laidByText := true, laidKinds := [.sentinel, .sentinel, .wider, .wider, .wider], laidTests := true, laidLooks := .later }
def FnStreamSkipCardSaid : Prop := Claim7.holds Tryd.pinned (.plain (OpenSpec.ofChange fnStreamSkipSpec)) fnStreamSkipCard

/-- THE SECOND FORM's CARD OF 'laws.FnNumberGet'. -/
def fnNumberGetUptoCard : Claim7 := { stood := { row := fnNumberGetUptoRow, standIns := [], harness := (true, "6f8f5b4e467a5a07cf15f90cc5efa4339ac3bc32bd0cefd38574a44840796adc"), looks := true }, kinds := [], alts := [], laidByText := true, laidKinds := [.wider], laidTests := true, laidLooks := .later }
def FnNumberGetUptoCardSaid : Prop := Claim7.holds Tryd.pinned (.plain (OpenSpec.upto fnNumberGetSpec)) fnNumberGetUptoCard

/-- THE SECOND FORM's CARD OF 'laws.FnRemove'. -/
def fnRemoveUptoCard : Claim7 := { stood := { row := fnRemoveUptoRow, standIns := [], harness := (true, "6f8f5b4e467a5a07cf15f90cc5efa4339ac3bc32bd0cefd38574a44840796adc"), looks := true }, kinds := [], alts := [], laidByText := true, laidKinds := [.wider, .wider, .wider], laidTests := true, laidLooks := .later }
def FnRemoveUptoCardSaid : Prop := Claim7.holds Tryd.pinned (.plain (OpenSpec.upto fnRemoveSpec)) fnRemoveUptoCard

/-- THE SECOND FORM's CARD OF 'laws.FnStreamGetFloat32'. -/
def fnStreamGetFloat32UptoCard : Claim7 := { stood := { row := fnStreamGetFloat32UptoRow, standIns := [], harness := (true, "6f8f5b4e467a5a07cf15f90cc5efa4339ac3bc32bd0cefd38574a44840796adc"), looks := true }, kinds := [], alts := [], laidByText := true, laidKinds := [.sentinel, .sentinel], laidTests := true, laidLooks := .later }
def FnStreamGetFloat32UptoCardSaid : Prop := Claim7.holds Tryd.pinned (.plain (OpenSpec.upto fnStreamGetFloat32Spec)) fnStreamGetFloat32UptoCard

/-- THE SECOND FORM's CARD OF 'laws.FnStreamGetMapHead'. -/
def fnStreamGetMapHeadUptoCard : Claim7 := { stood := { row := fnStreamGetMapHeadUptoRow, standIns := [], harness := (true, "6f8f5b4e467a5a07cf15f90cc5efa4339ac3bc32bd0cefd38574a44840796adc"), looks := true }, kinds := [], alts := [], laidByText := true, laidKinds := [.sentinel, .sentinel], laidTests := true, laidLooks := .later }
def FnStreamGetMapHeadUptoCardSaid : Prop := Claim7.holds Tryd.pinned (.plain (OpenSpec.upto fnStreamGetMapHeadSpec)) fnStreamGetMapHeadUptoCard

/-- THE SECOND FORM's CARD OF 'laws.FnStreamGetBin'. -/
def fnStreamGetBinUptoCard : Claim7 := { stood := { row := fnStreamGetBinUptoRow, standIns := [], harness := (true, "6f8f5b4e467a5a07cf15f90cc5efa4339ac3bc32bd0cefd38574a44840796adc"), looks := true }, kinds := [], alts := [], laidByText := true, laidKinds := [.sentinel, .sentinel, .wider], laidTests := true, laidLooks := .later }
def FnStreamGetBinUptoCardSaid : Prop := Claim7.holds Tryd.pinned (.plain (OpenSpec.upto fnStreamGetBinSpec)) fnStreamGetBinUptoCard

/-- THE SECOND FORM's CARD OF 'laws.FnStreamGetInt'. -/
def fnStreamGetIntUptoCard : Claim7 := { stood := { row := fnStreamGetIntUptoRow, standIns := [], harness := (true, "6f8f5b4e467a5a07cf15f90cc5efa4339ac3bc32bd0cefd38574a44840796adc"), looks := true }, kinds := [], alts := [], laidByText := true, laidKinds := [.sentinel, .sentinel], laidTests := true, laidLooks := .later }
def FnStreamGetIntUptoCardSaid : Prop := Claim7.holds Tryd.pinned (.plain (OpenSpec.upto fnStreamGetIntSpec)) fnStreamGetIntUptoCard

/-- THE SECOND FORM's CARD OF 'laws.FnStreamGetUint'. -/
def fnStreamGetUintUptoCard : Claim7 := { stood := { row := fnStreamGetUintUptoRow, standIns := [], harness := (true, "6f8f5b4e467a5a07cf15f90cc5efa4339ac3bc32bd0cefd38574a44840796adc"), looks := true }, kinds := [], alts := [], laidByText := true, laidKinds := [.sentinel, .sentinel], laidTests := true, laidLooks := .later }
def FnStreamGetUintUptoCardSaid : Prop := Claim7.holds Tryd.pinned (.plain (OpenSpec.upto fnStreamGetUintSpec)) fnStreamGetUintUptoCard

/-- THE SECOND FORM's CARD OF 'laws.FnStreamSkip'. -/
def fnStreamSkipUptoCard : Claim7 := { stood := { row := fnStreamSkipUptoRow, standIns := [], harness := (true, "6f8f5b4e467a5a07cf15f90cc5efa4339ac3bc32bd0cefd38574a44840796adc"), looks := true }, kinds := [], alts := [], laidByText := true, laidKinds := [.sentinel, .sentinel, .wider, .wider, .wider], laidTests := true, laidLooks := .later }
def FnStreamSkipUptoCardSaid : Prop := Claim7.holds Tryd.pinned (.plain (OpenSpec.upto fnStreamSkipSpec)) fnStreamSkipUptoCard
end Rows
end Go.Proofs.YtpadbpmnejgckaaDoor
