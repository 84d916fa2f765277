/-
  DERIVED. GIVEN WITH THE SEED: THE CARDS: each row of YtnnddknplhhnkaaDoorRows.lean that lists a variable, with what it lists TIED to the program's text (the seventh form; the later family's looks); each row that meets fmt, with fmt's text TOLD by the authors' own Lean function (tested against real Go, not proved from fmt's source: count such statements apart). THE CARD IS WHAT COUNTS. Prove the row's statement (the work); the ties are given (YtnnddknplhhnkaaDoorTie.lean); close each card by the builder's one call (the guide's Derived/Test/ToyasCard.lean, 'card_holds'). Laid BY PROGRAM, IN A SANDBOX (cutbox-door.mjs). By AI agents, Wed Nov 11 2026. No macro, syntax, notation, axiom, sorry.
-/
import Derived.Test.YtnnddknplhhnkaaDoorRows
import GoSem.ClaimSeven
namespace Go.Proofs.YtnnddknplhhnkaaDoor
namespace Rows

/-- THE TIED CARD OF 'laws.FnWriteDouble'. -/
def fnWriteDoubleCard : Claim7 := { stood := { row := fnWriteDoubleRow, standIns := [], harness := (true, "29e20fb35feba7360542cbf7604c6ffaf22deca446b849029e2b9f6f170cf7a4"), looks := false }, kinds := [], alts := [], laidByText := true, laidKinds := [.data, .pinned], laidTests := true, laidLooks := .later }
def FnWriteDoubleCardSaid : Prop := Claim7.holds Tryd.pinned (.plain (OpenSpec.ofChange fnWriteDoubleSpec)) fnWriteDoubleCard

/-- THE TIED CARD OF 'laws.FnWriteMilliseconds'. -/
def fnWriteMillisecondsCard : Claim7 := { stood := { row := fnWriteMillisecondsRow, standIns := [], harness := (true, "29e20fb35feba7360542cbf7604c6ffaf22deca446b849029e2b9f6f170cf7a4"), looks := false }, kinds := [], alts := [], laidByText := true, laidKinds := [.data, .pinned], laidTests := true, laidLooks := .later }
def FnWriteMillisecondsCardSaid : Prop := Claim7.holds Tryd.pinned (.plain (OpenSpec.ofChange fnWriteMillisecondsSpec)) fnWriteMillisecondsCard

/-- THE TIED CARD OF 'laws.FnWriteBinary'. -/
def fnWriteBinaryCard : Claim7 := { stood := { row := fnWriteBinaryRow, standIns := [], harness := (true, "29e20fb35feba7360542cbf7604c6ffaf22deca446b849029e2b9f6f170cf7a4"), looks := false }, kinds := [], alts := [], laidByText := true, laidKinds := [.data, .pinned], laidTests := true, laidLooks := .later }
def FnWriteBinaryCardSaid : Prop := Claim7.holds Tryd.pinned (.plain (OpenSpec.ofChange fnWriteBinarySpec)) fnWriteBinaryCard

/-- THE TIED CARD OF 'laws.FnWriteArrayUshort'. -/
def fnWriteArrayUshortCard : Claim7 := { stood := { row := fnWriteArrayUshortRow, standIns := [], harness := (true, "29e20fb35feba7360542cbf7604c6ffaf22deca446b849029e2b9f6f170cf7a4"), looks := false }, kinds := [], alts := [], laidByText := true, laidKinds := [.data, .pinned], laidTests := true, laidLooks := .later }
def FnWriteArrayUshortCardSaid : Prop := Claim7.holds Tryd.pinned (.plain (OpenSpec.ofChange fnWriteArrayUshortSpec)) fnWriteArrayUshortCard

/-- THE TIED CARD OF 'laws.FnWriteArrayInt'. -/
def fnWriteArrayIntCard : Claim7 := { stood := { row := fnWriteArrayIntRow, standIns := [], harness := (true, "29e20fb35feba7360542cbf7604c6ffaf22deca446b849029e2b9f6f170cf7a4"), looks := false }, kinds := [], alts := [], laidByText := true, laidKinds := [.data, .pinned], laidTests := true, laidLooks := .later }
def FnWriteArrayIntCardSaid : Prop := Claim7.holds Tryd.pinned (.plain (OpenSpec.ofChange fnWriteArrayIntSpec)) fnWriteArrayIntCard

/-- THE TIED CARD OF 'laws.FnWriteArrayString'. -/
def fnWriteArrayStringCard : Claim7 := { stood := { row := fnWriteArrayStringRow, standIns := [], harness := (true, "29e20fb35feba7360542cbf7604c6ffaf22deca446b849029e2b9f6f170cf7a4"), looks := false }, kinds := [], alts := [], laidByText := true, laidKinds := [.data, .pinned], laidTests := true, laidLooks := .later }
def FnWriteArrayStringCardSaid : Prop := Claim7.holds Tryd.pinned (.plain (OpenSpec.ofChange fnWriteArrayStringSpec)) fnWriteArrayStringCard

/-- THE SECOND FORM's CARD OF 'laws.FnWriteDouble'. -/
def fnWriteDoubleUptoCard : Claim7 := { stood := { row := fnWriteDoubleUptoRow, standIns := [], harness := (true, "29e20fb35feba7360542cbf7604c6ffaf22deca446b849029e2b9f6f170cf7a4"), looks := false }, kinds := [], alts := [], laidByText := true, laidKinds := [.data, .pinned], laidTests := true, laidLooks := .later }
def FnWriteDoubleUptoCardSaid : Prop := Claim7.holds Tryd.pinned (.plain (OpenSpec.upto fnWriteDoubleSpec)) fnWriteDoubleUptoCard

/-- THE SECOND FORM's CARD OF 'laws.FnWriteMilliseconds'. -/
def fnWriteMillisecondsUptoCard : Claim7 := { stood := { row := fnWriteMillisecondsUptoRow, standIns := [], harness := (true, "29e20fb35feba7360542cbf7604c6ffaf22deca446b849029e2b9f6f170cf7a4"), looks := false }, kinds := [], alts := [], laidByText := true, laidKinds := [.data, .pinned], laidTests := true, laidLooks := .later }
def FnWriteMillisecondsUptoCardSaid : Prop := Claim7.holds Tryd.pinned (.plain (OpenSpec.upto fnWriteMillisecondsSpec)) fnWriteMillisecondsUptoCard

/-- THE SECOND FORM's CARD OF 'laws.FnWriteBinary'. -/
def fnWriteBinaryUptoCard : Claim7 := { stood := { row := fnWriteBinaryUptoRow, standIns := [], harness := (true, "29e20fb35feba7360542cbf7604c6ffaf22deca446b849029e2b9f6f170cf7a4"), looks := false }, kinds := [], alts := [], laidByText := true, laidKinds := [.data, .pinned], laidTests := true, laidLooks := .later }
def FnWriteBinaryUptoCardSaid : Prop := Claim7.holds Tryd.pinned (.plain (OpenSpec.upto fnWriteBinarySpec)) fnWriteBinaryUptoCard

/-- THE SECOND FORM's CARD OF 'laws.FnWriteArrayUshort'. -/
def fnWriteArrayUshortUptoCard : Claim7 := { stood := { row := fnWriteArrayUshortUptoRow, standIns := [], harness := (true, "29e20fb35feba7360542cbf7604c6ffaf22deca446b849029e2b9f6f170cf7a4"), looks := false }, kinds := [], alts := [], laidByText := true, laidKinds := [.data, .pinned], laidTests := true, laidLooks := .later }
def FnWriteArrayUshortUptoCardSaid : Prop := Claim7.holds Tryd.pinned (.plain (OpenSpec.upto fnWriteArrayUshortSpec)) fnWriteArrayUshortUptoCard

/-- THE SECOND FORM's CARD OF 'laws.FnWriteArrayInt'. -/
def fnWriteArrayIntUptoCard : Claim7 := { stood := { row := fnWriteArrayIntUptoRow, standIns := [], harness := (true, "29e20fb35feba7360542cbf7604c6ffaf22deca446b849029e2b9f6f170cf7a4"), looks := false }, kinds := [], alts := [], laidByText := true, laidKinds := [.data, .pinned], laidTests := true, laidLooks := .later }
def FnWriteArrayIntUptoCardSaid : Prop := Claim7.holds Tryd.pinned (.plain (OpenSpec.upto fnWriteArrayIntSpec)) fnWriteArrayIntUptoCard

/-- THE SECOND FORM's CARD OF 'laws.FnWriteArrayString'. -/
def fnWriteArrayStringUptoCard : Claim7 := { stood := { row := fnWriteArrayStringUptoRow, standIns := [], harness := (true, "29e20fb35feba7360542cbf7604c6ffaf22deca446b849029e2b9f6f170cf7a4"), looks := false }, kinds := [], alts := [], laidByText := true, laidKinds := [.data, .pinned], laidTests := true, laidLooks := .later }
def FnWriteArrayStringUptoCardSaid : Prop := Claim7.holds Tryd.pinned (.plain (OpenSpec.upto fnWriteArrayStringSpec)) fnWriteArrayStringUptoCard
end Rows
end Go.Proofs.YtnnddknplhhnkaaDoor
