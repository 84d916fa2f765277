/-
  NARROWER THAN 'FOR EVERY INPUT', by the rows' own cells (each row's printed sentence says how): FnWriteDouble: laid · FnWriteMilliseconds: laid · FnWriteBinary: laid · FnWriteArrayUshort: laid · FnWriteArrayInt: laid · FnWriteArrayString: laid.
  DERIVED. THE GIVEN ROWS OF THIS SEAT. 6 by the template 'for every input the law returns true; each argument reads behind the call as it read before'; 0 by the template 'total and deterministic' (their statements: YtnnddknplhhnkaaDoorTotals.lean).
  GIVEN WITH THE SEED: the statements are not yours to turn. If you find one false, say at which input.
  Laid BY PROGRAM, IN A SANDBOX (cutbox-rows.mjs): the forced cells as the released guide's own fill.sh prints them over the translation c47a9a1a3e72edef… (all of the seat's roots in one cut). By AI agents, Wed Nov 11 2026. No macro, syntax, notation, axiom, sorry.
-/
import Derived.Test.YtnnddknplhhnkaaDoorChecked
import GoSem.PinnedTables
import GoSem.Claim
import GoSem.ClaimJoined
import GoSem.ClaimMapViews
import Derived.JoinedTies
import Derived.KernelRfl
namespace Go.Proofs.YtnnddknplhhnkaaDoor
/- THE CELL 'sum', in the pinned program and in every row, IS THE sha256 OF THE DUMP (.gsa) THAT YtnnddknplhhnkaaDoorProg.lean LOADS. Nothing in Lean hashes anything: it is a label: what it is worth is what the hold of that sum in a sandbox is worth. -/
noncomputable def Tryd.pinned : Pinned := { name := "ytnnddknplhhnkaadoor", sum := "c47a9a1a3e72edefc13f01ce944ce3e93bb22a46f270c5439615a246e3c29de8", checked := Tryd.checked }
namespace Rows
def none {H : Type} : Left H := { results := [], args := [] }

/- WHAT THE LISTED PACKAGE-LEVEL VARIABLES READ AS WHEN THE CALL BEGINS. Each datum BY PROGRAM (the guide's laid-datum.mjs) off the statement by which the dump's own 'gosem.cut.vars' lays the variable. In a bare row this is a premise. The card (YtnnddknplhhnkaaDoorCards.lean) ties it to the program's text. -/
def laid_unicode_utf8_acceptRanges {H : Type} : DataW H := .agg [.agg [.lit (.int .u8 128), .lit (.int .u8 191)], .agg [.lit (.int .u8 160), .lit (.int .u8 191)], .agg [.lit (.int .u8 128), .lit (.int .u8 159)], .agg [.lit (.int .u8 144), .lit (.int .u8 191)], .agg [.lit (.int .u8 128), .lit (.int .u8 143)], .agg [.lit (.int .u8 0), .lit (.int .u8 0)], .agg [.lit (.int .u8 0), .lit (.int .u8 0)], .agg [.lit (.int .u8 0), .lit (.int .u8 0)], .agg [.lit (.int .u8 0), .lit (.int .u8 0)], .agg [.lit (.int .u8 0), .lit (.int .u8 0)], .agg [.lit (.int .u8 0), .lit (.int .u8 0)], .agg [.lit (.int .u8 0), .lit (.int .u8 0)], .agg [.lit (.int .u8 0), .lit (.int .u8 0)], .agg [.lit (.int .u8 0), .lit (.int .u8 0)], .agg [.lit (.int .u8 0), .lit (.int .u8 0)], .agg [.lit (.int .u8 0), .lit (.int .u8 0)]]
/-- One of Go's own tables, pinned by name: the form's constant. -/
def laid_unicode_utf8_first : DataW Unit := Go.Pinned.utf8First

/-- 'laws.FnWriteDouble': WHATEVER THE INPUT: true; the input reads as it did. -/
def fnWriteDoubleSpec : ChangeSpec := { name := "fnWriteDouble", fn := fun _ => fun
  | [d] => { results := [.lit (.bool true)], args := [d] }
  | _ => none }
def fnWriteDoubleRow : OpenClaim := { program := "ytnnddknplhhnkaadoor", sum := "c47a9a1a3e72edefc13f01ce944ce3e93bb22a46f270c5439615a246e3c29de8", func := "given.example/pub-saddlebag/laws.FnWriteDouble", spec := "fnWriteDouble", inPlace := ["math.Float64frombits", "math.Float64bits"], recurses := true, named := ["unicode/utf8.first", "unicode/utf8.acceptRanges"], apart := false, laid := [("unicode/utf8.acceptRanges", laid_unicode_utf8_acceptRanges), ("unicode/utf8.first", laid_unicode_utf8_first)] }
def FnWriteDoubleSaid : Prop := fnWriteDoubleRow.holds Tryd.pinned (OpenSpec.ofChange fnWriteDoubleSpec)

/-- ITS FALSE NEIGHBOUR: 'it returns false'. Refute it at one input. -/
def fnWriteDoubleWrong : ChangeSpec := { name := "fnWriteDouble", fn := fun _ => fun
  | [d] => { results := [.lit (.bool false)], args := [d] }
  | _ => none }
def FnWriteDoubleWrongFalsely : Prop := fnWriteDoubleRow.holds Tryd.pinned (OpenSpec.ofChange fnWriteDoubleWrong)

/-- 'laws.FnWriteMilliseconds': WHATEVER THE INPUT: true; the input reads as it did. -/
def fnWriteMillisecondsSpec : ChangeSpec := { name := "fnWriteMilliseconds", fn := fun _ => fun
  | [d] => { results := [.lit (.bool true)], args := [d] }
  | _ => none }
def fnWriteMillisecondsRow : OpenClaim := { program := "ytnnddknplhhnkaadoor", sum := "c47a9a1a3e72edefc13f01ce944ce3e93bb22a46f270c5439615a246e3c29de8", func := "given.example/pub-saddlebag/laws.FnWriteMilliseconds", spec := "fnWriteMilliseconds", recurses := true, named := ["unicode/utf8.first", "unicode/utf8.acceptRanges"], apart := false, laid := [("unicode/utf8.acceptRanges", laid_unicode_utf8_acceptRanges), ("unicode/utf8.first", laid_unicode_utf8_first)] }
def FnWriteMillisecondsSaid : Prop := fnWriteMillisecondsRow.holds Tryd.pinned (OpenSpec.ofChange fnWriteMillisecondsSpec)

/-- ITS FALSE NEIGHBOUR: 'it returns false'. Refute it at one input. -/
def fnWriteMillisecondsWrong : ChangeSpec := { name := "fnWriteMilliseconds", fn := fun _ => fun
  | [d] => { results := [.lit (.bool false)], args := [d] }
  | _ => none }
def FnWriteMillisecondsWrongFalsely : Prop := fnWriteMillisecondsRow.holds Tryd.pinned (OpenSpec.ofChange fnWriteMillisecondsWrong)

/-- 'laws.FnWriteBinary': WHATEVER THE INPUT: true; the input reads as it did. -/
def fnWriteBinarySpec : ChangeSpec := { name := "fnWriteBinary", fn := fun _ => fun
  | [d] => { results := [.lit (.bool true)], args := [d] }
  | _ => none }
def fnWriteBinaryRow : OpenClaim := { program := "ytnnddknplhhnkaadoor", sum := "c47a9a1a3e72edefc13f01ce944ce3e93bb22a46f270c5439615a246e3c29de8", func := "given.example/pub-saddlebag/laws.FnWriteBinary", spec := "fnWriteBinary", recurses := true, named := ["unicode/utf8.first", "unicode/utf8.acceptRanges"], apart := false, laid := [("unicode/utf8.acceptRanges", laid_unicode_utf8_acceptRanges), ("unicode/utf8.first", laid_unicode_utf8_first)] }
def FnWriteBinarySaid : Prop := fnWriteBinaryRow.holds Tryd.pinned (OpenSpec.ofChange fnWriteBinarySpec)

/-- ITS FALSE NEIGHBOUR: 'it returns false'. Refute it at one input. -/
def fnWriteBinaryWrong : ChangeSpec := { name := "fnWriteBinary", fn := fun _ => fun
  | [d] => { results := [.lit (.bool false)], args := [d] }
  | _ => none }
def FnWriteBinaryWrongFalsely : Prop := fnWriteBinaryRow.holds Tryd.pinned (OpenSpec.ofChange fnWriteBinaryWrong)

/-- 'laws.FnWriteArrayUshort': WHATEVER THE INPUT: true; the input reads as it did. -/
def fnWriteArrayUshortSpec : ChangeSpec := { name := "fnWriteArrayUshort", fn := fun _ => fun
  | [d] => { results := [.lit (.bool true)], args := [d] }
  | _ => none }
def fnWriteArrayUshortRow : OpenClaim := { program := "ytnnddknplhhnkaadoor", sum := "c47a9a1a3e72edefc13f01ce944ce3e93bb22a46f270c5439615a246e3c29de8", func := "given.example/pub-saddlebag/laws.FnWriteArrayUshort", spec := "fnWriteArrayUshort", recurses := true, named := ["unicode/utf8.first", "unicode/utf8.acceptRanges"], apart := false, laid := [("unicode/utf8.acceptRanges", laid_unicode_utf8_acceptRanges), ("unicode/utf8.first", laid_unicode_utf8_first)] }
def FnWriteArrayUshortSaid : Prop := fnWriteArrayUshortRow.holds Tryd.pinned (OpenSpec.ofChange fnWriteArrayUshortSpec)

/-- ITS FALSE NEIGHBOUR: 'it returns false'. Refute it at one input. -/
def fnWriteArrayUshortWrong : ChangeSpec := { name := "fnWriteArrayUshort", fn := fun _ => fun
  | [d] => { results := [.lit (.bool false)], args := [d] }
  | _ => none }
def FnWriteArrayUshortWrongFalsely : Prop := fnWriteArrayUshortRow.holds Tryd.pinned (OpenSpec.ofChange fnWriteArrayUshortWrong)

/-- 'laws.FnWriteArrayInt': WHATEVER THE INPUT: true; the input reads as it did. -/
def fnWriteArrayIntSpec : ChangeSpec := { name := "fnWriteArrayInt", fn := fun _ => fun
  | [d] => { results := [.lit (.bool true)], args := [d] }
  | _ => none }
def fnWriteArrayIntRow : OpenClaim := { program := "ytnnddknplhhnkaadoor", sum := "c47a9a1a3e72edefc13f01ce944ce3e93bb22a46f270c5439615a246e3c29de8", func := "given.example/pub-saddlebag/laws.FnWriteArrayInt", spec := "fnWriteArrayInt", recurses := true, named := ["unicode/utf8.first", "unicode/utf8.acceptRanges"], apart := false, laid := [("unicode/utf8.acceptRanges", laid_unicode_utf8_acceptRanges), ("unicode/utf8.first", laid_unicode_utf8_first)] }
def FnWriteArrayIntSaid : Prop := fnWriteArrayIntRow.holds Tryd.pinned (OpenSpec.ofChange fnWriteArrayIntSpec)

/-- ITS FALSE NEIGHBOUR: 'it returns false'. Refute it at one input. -/
def fnWriteArrayIntWrong : ChangeSpec := { name := "fnWriteArrayInt", fn := fun _ => fun
  | [d] => { results := [.lit (.bool false)], args := [d] }
  | _ => none }
def FnWriteArrayIntWrongFalsely : Prop := fnWriteArrayIntRow.holds Tryd.pinned (OpenSpec.ofChange fnWriteArrayIntWrong)

/-- 'laws.FnWriteArrayString': WHATEVER THE INPUT: true; the input reads as it did. -/
def fnWriteArrayStringSpec : ChangeSpec := { name := "fnWriteArrayString", fn := fun _ => fun
  | [d] => { results := [.lit (.bool true)], args := [d] }
  | _ => none }
def fnWriteArrayStringRow : OpenClaim := { program := "ytnnddknplhhnkaadoor", sum := "c47a9a1a3e72edefc13f01ce944ce3e93bb22a46f270c5439615a246e3c29de8", func := "given.example/pub-saddlebag/laws.FnWriteArrayString", spec := "fnWriteArrayString", recurses := true, named := ["unicode/utf8.first", "unicode/utf8.acceptRanges"], apart := false, laid := [("unicode/utf8.acceptRanges", laid_unicode_utf8_acceptRanges), ("unicode/utf8.first", laid_unicode_utf8_first)] }
def FnWriteArrayStringSaid : Prop := fnWriteArrayStringRow.holds Tryd.pinned (OpenSpec.ofChange fnWriteArrayStringSpec)

/-- ITS FALSE NEIGHBOUR: 'it returns false'. Refute it at one input. -/
def fnWriteArrayStringWrong : ChangeSpec := { name := "fnWriteArrayString", fn := fun _ => fun
  | [d] => { results := [.lit (.bool false)], args := [d] }
  | _ => none }
def FnWriteArrayStringWrongFalsely : Prop := fnWriteArrayStringRow.holds Tryd.pinned (OpenSpec.ofChange fnWriteArrayStringWrong)

/- THE SECOND FORM. 'bulk': how many values and letters a reading holds, each counted each time it is reached (what is shared counts as often as it is met; a slice's spare places count too). A statement '..UptoSaid' is the law's where the arguments, and the package variables that the reading takes, are together of bulk at most 1048576: NARROWER than '..Said'. Prove '..Said' where nothing that the law and all that it calls make is longer than what came in: it says more and counts as full. Else prove '..UptoSaid'. A law counts once. -/
mutual
def uptoBulk {H : Type} : DataW H → Nat
  | .lit (.string bytes) => bytes.length + 1
  | .lit _ => 1
  | .nil => 1
  | .ptr d => uptoBulk d + 1
  | .slice elems spare => uptoBulkAll elems + uptoBulkAll spare + 1
  | .agg parts => uptoBulkAll parts + 1
  | .iface _ d => uptoBulk d + 1
  | .map entries => uptoBulkEntries entries + 1
  | .held _ => 1
def uptoBulkAll {H : Type} : List (DataW H) → Nat
  | [] => 0
  | d :: r => uptoBulk d + uptoBulkAll r
def uptoBulkEntries {H : Type} : List (Lit × DataW H) → Nat
  | [] => 0
  | x :: r => uptoBulkEntry x + uptoBulkEntries r
def uptoBulkEntry {H : Type} : Lit × DataW H → Nat
  | (.string bytes, d) => bytes.length + uptoBulk d + 1
  | (_, d) => uptoBulk d + 1
 end
def uptoSmall : (H : Type) → List (DataW H) → Bool := fun _ ds => decide (uptoBulkAll ds ≤ 1048576)
def OpenSpec.upto (s : _root_.Go.ChangeSpec) : _root_.Go.OpenSpec := { _root_.Go.OpenSpec.ofChange s with cond := some uptoSmall }

/-- 'laws.FnWriteDouble', WHERE WHAT IT READS IS OF BULK AT MOST 1048576: true; the input reads as it did. -/
def fnWriteDoubleUptoRow : OpenClaim := { program := "ytnnddknplhhnkaadoor", sum := "c47a9a1a3e72edefc13f01ce944ce3e93bb22a46f270c5439615a246e3c29de8", func := "given.example/pub-saddlebag/laws.FnWriteDouble", spec := "fnWriteDouble", inPlace := ["math.Float64frombits", "math.Float64bits"], recurses := true, named := ["unicode/utf8.first", "unicode/utf8.acceptRanges"], apart := false, laid := [("unicode/utf8.acceptRanges", laid_unicode_utf8_acceptRanges), ("unicode/utf8.first", laid_unicode_utf8_first)], narrowed := true }
def FnWriteDoubleUptoSaid : Prop := fnWriteDoubleUptoRow.holds Tryd.pinned (OpenSpec.upto fnWriteDoubleSpec)

/-- 'laws.FnWriteMilliseconds', WHERE WHAT IT READS IS OF BULK AT MOST 1048576: true; the input reads as it did. -/
def fnWriteMillisecondsUptoRow : OpenClaim := { program := "ytnnddknplhhnkaadoor", sum := "c47a9a1a3e72edefc13f01ce944ce3e93bb22a46f270c5439615a246e3c29de8", func := "given.example/pub-saddlebag/laws.FnWriteMilliseconds", spec := "fnWriteMilliseconds", recurses := true, named := ["unicode/utf8.first", "unicode/utf8.acceptRanges"], apart := false, laid := [("unicode/utf8.acceptRanges", laid_unicode_utf8_acceptRanges), ("unicode/utf8.first", laid_unicode_utf8_first)], narrowed := true }
def FnWriteMillisecondsUptoSaid : Prop := fnWriteMillisecondsUptoRow.holds Tryd.pinned (OpenSpec.upto fnWriteMillisecondsSpec)

/-- 'laws.FnWriteBinary', WHERE WHAT IT READS IS OF BULK AT MOST 1048576: true; the input reads as it did. -/
def fnWriteBinaryUptoRow : OpenClaim := { program := "ytnnddknplhhnkaadoor", sum := "c47a9a1a3e72edefc13f01ce944ce3e93bb22a46f270c5439615a246e3c29de8", func := "given.example/pub-saddlebag/laws.FnWriteBinary", spec := "fnWriteBinary", recurses := true, named := ["unicode/utf8.first", "unicode/utf8.acceptRanges"], apart := false, laid := [("unicode/utf8.acceptRanges", laid_unicode_utf8_acceptRanges), ("unicode/utf8.first", laid_unicode_utf8_first)], narrowed := true }
def FnWriteBinaryUptoSaid : Prop := fnWriteBinaryUptoRow.holds Tryd.pinned (OpenSpec.upto fnWriteBinarySpec)

/-- 'laws.FnWriteArrayUshort', WHERE WHAT IT READS IS OF BULK AT MOST 1048576: true; the input reads as it did. -/
def fnWriteArrayUshortUptoRow : OpenClaim := { program := "ytnnddknplhhnkaadoor", sum := "c47a9a1a3e72edefc13f01ce944ce3e93bb22a46f270c5439615a246e3c29de8", func := "given.example/pub-saddlebag/laws.FnWriteArrayUshort", spec := "fnWriteArrayUshort", recurses := true, named := ["unicode/utf8.first", "unicode/utf8.acceptRanges"], apart := false, laid := [("unicode/utf8.acceptRanges", laid_unicode_utf8_acceptRanges), ("unicode/utf8.first", laid_unicode_utf8_first)], narrowed := true }
def FnWriteArrayUshortUptoSaid : Prop := fnWriteArrayUshortUptoRow.holds Tryd.pinned (OpenSpec.upto fnWriteArrayUshortSpec)

/-- 'laws.FnWriteArrayInt', WHERE WHAT IT READS IS OF BULK AT MOST 1048576: true; the input reads as it did. -/
def fnWriteArrayIntUptoRow : OpenClaim := { program := "ytnnddknplhhnkaadoor", sum := "c47a9a1a3e72edefc13f01ce944ce3e93bb22a46f270c5439615a246e3c29de8", func := "given.example/pub-saddlebag/laws.FnWriteArrayInt", spec := "fnWriteArrayInt", recurses := true, named := ["unicode/utf8.first", "unicode/utf8.acceptRanges"], apart := false, laid := [("unicode/utf8.acceptRanges", laid_unicode_utf8_acceptRanges), ("unicode/utf8.first", laid_unicode_utf8_first)], narrowed := true }
def FnWriteArrayIntUptoSaid : Prop := fnWriteArrayIntUptoRow.holds Tryd.pinned (OpenSpec.upto fnWriteArrayIntSpec)

/-- 'laws.FnWriteArrayString', WHERE WHAT IT READS IS OF BULK AT MOST 1048576: true; the input reads as it did. -/
def fnWriteArrayStringUptoRow : OpenClaim := { program := "ytnnddknplhhnkaadoor", sum := "c47a9a1a3e72edefc13f01ce944ce3e93bb22a46f270c5439615a246e3c29de8", func := "given.example/pub-saddlebag/laws.FnWriteArrayString", spec := "fnWriteArrayString", recurses := true, named := ["unicode/utf8.first", "unicode/utf8.acceptRanges"], apart := false, laid := [("unicode/utf8.acceptRanges", laid_unicode_utf8_acceptRanges), ("unicode/utf8.first", laid_unicode_utf8_first)], narrowed := true }
def FnWriteArrayStringUptoSaid : Prop := fnWriteArrayStringUptoRow.holds Tryd.pinned (OpenSpec.upto fnWriteArrayStringSpec)

end Rows
end Go.Proofs.YtnnddknplhhnkaaDoor
