/-
  NARROWER THAN 'FOR EVERY INPUT', by the rows' own cells (each row's printed sentence says how): FnNumberGet: loops, ifaces, laid · FnRemove: loops, ifaces, laid · FnStreamGetFloat32: laid · FnStreamGetMapHead: laid · FnStreamGetBin: ifaces, laid · FnStreamGetInt: laid · FnStreamGetUint: laid · FnStreamSkip: loops, ifaces, laid.
  DERIVED. THE GIVEN ROWS OF THIS SEAT. 8 by the template 'for every input the law returns true; each argument reads behind the call as it read before'; 0 by the template 'total and deterministic' (their statements: YtpadbpmnejgckaaDoorTotals.lean).
  GIVEN WITH THE SEED: the statements are not yours to turn. If you find one false, say at which input.
  Laid BY PROGRAM, IN A SANDBOX (cutbox-rows.mjs): the forced cells as the released guide's own fill.sh prints them over the translation 854031dda31a4647… (all of the seat's roots in one cut). By AI agents, Wed Nov 11 2026. No macro, syntax, notation, axiom, sorry.
-/
import Derived.Test.YtpadbpmnejgckaaDoorChecked
import GoSem.Claim
import GoSem.ClaimJoined
import GoSem.ClaimMapViews
import Derived.JoinedTies
import Derived.KernelRfl
namespace Go.Proofs.YtpadbpmnejgckaaDoor
/- THE CELL 'sum', in the pinned program and in every row, IS THE sha256 OF THE DUMP (.gsa) THAT YtpadbpmnejgckaaDoorProg.lean LOADS. Nothing in Lean hashes anything: it is a label: what it is worth is what the hold of that sum in a sandbox is worth. -/
noncomputable def Tryd.pinned : Pinned := { name := "ytpadbpmnejgckaadoor", sum := "854031dda31a4647569574c39d744a4c8833afe81270c5e2832fdbe5cf78ca3d", checked := Tryd.checked }
namespace Rows
def none {H : Type} : Left H := { results := [], args := [] }

/- WHAT THE LISTED PACKAGE-LEVEL VARIABLES READ AS WHEN THE CALL BEGINS. Each datum BY PROGRAM (the guide's laid-datum.mjs) off the statement by which the dump's own 'gosem.cut.vars' lays the variable. In a bare row this is a premise. The card (YtpadbpmnejgckaaDoorCards.lean) ties it to the program's text. -/
def laid_given_example_pub_saddlebag_pub_msgp_msgp_ErrShortBytes {H : Type} : DataW H := .iface "given.example/pub-saddlebag/pub/msgp/msgp.errShort" (.agg [])
def laid_given_example_pub_saddlebag_pub_msgp_msgp_ErrRecursion {H : Type} : DataW H := .iface "given.example/pub-saddlebag/pub/msgp/msgp.errRecursion" (.agg [])
def laid_given_example_pub_saddlebag_pub_msgp_msgp_fatal {H : Type} : DataW H := .iface "given.example/pub-saddlebag/pub/msgp/msgp.errFatal" (.agg [.lit (.string [])])
def laid_io_EOF {H : Type} : DataW H := .iface "*errors.errorString" (.ptr (.agg [.lit (.string [69, 79, 70])]))
def laid_io_ErrUnexpectedEOF {H : Type} : DataW H := .iface "*errors.errorString" (.ptr (.agg [.lit (.string [117, 110, 101, 120, 112, 101, 99, 116, 101, 100, 32, 69, 79, 70])]))
def laid_given_example_pub_saddlebag_pub_msgp_msgp_ErrLimitExceeded {H : Type} : DataW H := .iface "given.example/pub-saddlebag/pub/msgp/msgp.errLimitExceeded" (.agg [])

/-- 'laws.FnNumberGet': WHATEVER THE INPUT: true; the input reads as it did. -/
def fnNumberGetSpec : ChangeSpec := { name := "fnNumberGet", vars := ["given.example/pub-saddlebag/pub/msgp/msgp.ErrShortBytes"], fn := fun _ => fun
  | [d, g1] => { results := [.lit (.bool true)], args := [d], vars := [g1] }
  | _ => none }
def fnNumberGetRow : OpenClaim := { program := "ytpadbpmnejgckaadoor", sum := "854031dda31a4647569574c39d744a4c8833afe81270c5e2832fdbe5cf78ca3d", func := "given.example/pub-saddlebag/laws.FnNumberGet", spec := "fnNumberGet", inPlace := ["math.Float32frombits", "math.Float64frombits", "math.Float64bits", "math.Float32bits"], recurses := true, named := ["given.example/pub-saddlebag/pub/msgp/msgp.ErrShortBytes", "encoding/binary.BigEndian"], ifaces := true, loops := true, apart := false, laid := [("given.example/pub-saddlebag/pub/msgp/msgp.ErrShortBytes", laid_given_example_pub_saddlebag_pub_msgp_msgp_ErrShortBytes)] }
def FnNumberGetSaid : Prop := fnNumberGetRow.holds Tryd.pinned (OpenSpec.ofChange fnNumberGetSpec)

/-- ITS FALSE NEIGHBOUR: 'it returns false'. Refute it at one input. -/
def fnNumberGetWrong : ChangeSpec := { name := "fnNumberGet", vars := ["given.example/pub-saddlebag/pub/msgp/msgp.ErrShortBytes"], fn := fun _ => fun
  | [d, g1] => { results := [.lit (.bool false)], args := [d], vars := [g1] }
  | _ => none }
def FnNumberGetWrongFalsely : Prop := fnNumberGetRow.holds Tryd.pinned (OpenSpec.ofChange fnNumberGetWrong)

/-- 'laws.FnRemove': WHATEVER THE INPUT: true; the input reads as it did. -/
def fnRemoveSpec : ChangeSpec := { name := "fnRemove", vars := ["given.example/pub-saddlebag/pub/msgp/msgp.ErrShortBytes", "given.example/pub-saddlebag/pub/msgp/msgp.ErrRecursion", "given.example/pub-saddlebag/pub/msgp/msgp.fatal"], fn := fun _ => fun
  | [d1, d2, d3, g1, g2, g3] => { results := [.lit (.bool true)], args := [d1, d2, d3], vars := [g1, g2, g3] }
  | _ => none }
def fnRemoveRow : OpenClaim := { program := "ytpadbpmnejgckaadoor", sum := "854031dda31a4647569574c39d744a4c8833afe81270c5e2832fdbe5cf78ca3d", func := "given.example/pub-saddlebag/laws.FnRemove", spec := "fnRemove", recurses := true, named := ["given.example/pub-saddlebag/pub/msgp/msgp.ErrShortBytes", "encoding/binary.BigEndian", "given.example/pub-saddlebag/pub/msgp/msgp.ErrRecursion", "given.example/pub-saddlebag/pub/msgp/msgp.fatal"], ifaces := true, loops := true, apart := false, laid := [("given.example/pub-saddlebag/pub/msgp/msgp.ErrShortBytes", laid_given_example_pub_saddlebag_pub_msgp_msgp_ErrShortBytes), ("given.example/pub-saddlebag/pub/msgp/msgp.ErrRecursion", laid_given_example_pub_saddlebag_pub_msgp_msgp_ErrRecursion), ("given.example/pub-saddlebag/pub/msgp/msgp.fatal", laid_given_example_pub_saddlebag_pub_msgp_msgp_fatal)] }
def FnRemoveSaid : Prop := fnRemoveRow.holds Tryd.pinned (OpenSpec.ofChange fnRemoveSpec)

/-- ITS FALSE NEIGHBOUR: 'it returns false'. Refute it at one input. -/
def fnRemoveWrong : ChangeSpec := { name := "fnRemove", vars := ["given.example/pub-saddlebag/pub/msgp/msgp.ErrShortBytes", "given.example/pub-saddlebag/pub/msgp/msgp.ErrRecursion", "given.example/pub-saddlebag/pub/msgp/msgp.fatal"], fn := fun _ => fun
  | [d1, d2, d3, g1, g2, g3] => { results := [.lit (.bool false)], args := [d1, d2, d3], vars := [g1, g2, g3] }
  | _ => none }
def FnRemoveWrongFalsely : Prop := fnRemoveRow.holds Tryd.pinned (OpenSpec.ofChange fnRemoveWrong)

/-- 'laws.FnStreamGetFloat32': WHATEVER THE INPUT: true; the input reads as it did. -/
def fnStreamGetFloat32Spec : ChangeSpec := { name := "fnStreamGetFloat32", fn := fun _ => fun
  | [d1, d2, d3, d4] => { results := [.lit (.bool true)], args := [d1, d2, d3, d4] }
  | _ => none }
def fnStreamGetFloat32Row : OpenClaim := { program := "ytpadbpmnejgckaadoor", sum := "854031dda31a4647569574c39d744a4c8833afe81270c5e2832fdbe5cf78ca3d", func := "given.example/pub-saddlebag/laws.FnStreamGetFloat32", spec := "fnStreamGetFloat32", inPlace := ["math.Float32frombits", "math.Float32bits"], unfollowed := true, recurses := true, named := ["io.EOF", "io.ErrUnexpectedEOF"], apart := false, laid := [("io.EOF", laid_io_EOF), ("io.ErrUnexpectedEOF", laid_io_ErrUnexpectedEOF)] }
def FnStreamGetFloat32Said : Prop := fnStreamGetFloat32Row.holds Tryd.pinned (OpenSpec.ofChange fnStreamGetFloat32Spec)

/-- ITS FALSE NEIGHBOUR: 'it returns false'. Refute it at one input. -/
def fnStreamGetFloat32Wrong : ChangeSpec := { name := "fnStreamGetFloat32", fn := fun _ => fun
  | [d1, d2, d3, d4] => { results := [.lit (.bool false)], args := [d1, d2, d3, d4] }
  | _ => none }
def FnStreamGetFloat32WrongFalsely : Prop := fnStreamGetFloat32Row.holds Tryd.pinned (OpenSpec.ofChange fnStreamGetFloat32Wrong)

/-- 'laws.FnStreamGetMapHead': WHATEVER THE INPUT: true; the input reads as it did. -/
def fnStreamGetMapHeadSpec : ChangeSpec := { name := "fnStreamGetMapHead", fn := fun _ => fun
  | [d1, d2, d3, d4] => { results := [.lit (.bool true)], args := [d1, d2, d3, d4] }
  | _ => none }
def fnStreamGetMapHeadRow : OpenClaim := { program := "ytpadbpmnejgckaadoor", sum := "854031dda31a4647569574c39d744a4c8833afe81270c5e2832fdbe5cf78ca3d", func := "given.example/pub-saddlebag/laws.FnStreamGetMapHead", spec := "fnStreamGetMapHead", unfollowed := true, recurses := true, named := ["encoding/binary.BigEndian", "io.EOF", "io.ErrUnexpectedEOF"], apart := false, laid := [("io.EOF", laid_io_EOF), ("io.ErrUnexpectedEOF", laid_io_ErrUnexpectedEOF)] }
def FnStreamGetMapHeadSaid : Prop := fnStreamGetMapHeadRow.holds Tryd.pinned (OpenSpec.ofChange fnStreamGetMapHeadSpec)

/-- ITS FALSE NEIGHBOUR: 'it returns false'. Refute it at one input. -/
def fnStreamGetMapHeadWrong : ChangeSpec := { name := "fnStreamGetMapHead", fn := fun _ => fun
  | [d1, d2, d3, d4] => { results := [.lit (.bool false)], args := [d1, d2, d3, d4] }
  | _ => none }
def FnStreamGetMapHeadWrongFalsely : Prop := fnStreamGetMapHeadRow.holds Tryd.pinned (OpenSpec.ofChange fnStreamGetMapHeadWrong)

/-- 'laws.FnStreamGetBin': WHATEVER THE INPUT: true; the input reads as it did. -/
def fnStreamGetBinSpec : ChangeSpec := { name := "fnStreamGetBin", vars := ["given.example/pub-saddlebag/pub/msgp/msgp.ErrLimitExceeded"], fn := fun _ => fun
  | [d1, d2, d3, d4, g1] => { results := [.lit (.bool true)], args := [d1, d2, d3, d4], vars := [g1] }
  | _ => none }
def fnStreamGetBinRow : OpenClaim := { program := "ytpadbpmnejgckaadoor", sum := "854031dda31a4647569574c39d744a4c8833afe81270c5e2832fdbe5cf78ca3d", func := "given.example/pub-saddlebag/laws.FnStreamGetBin", spec := "fnStreamGetBin", unfollowed := true, recurses := true, named := ["encoding/binary.BigEndian", "given.example/pub-saddlebag/pub/msgp/msgp.ErrLimitExceeded", "io.EOF", "io.ErrUnexpectedEOF"], ifaces := true, apart := false, laid := [("io.EOF", laid_io_EOF), ("io.ErrUnexpectedEOF", laid_io_ErrUnexpectedEOF), ("given.example/pub-saddlebag/pub/msgp/msgp.ErrLimitExceeded", laid_given_example_pub_saddlebag_pub_msgp_msgp_ErrLimitExceeded)] }
def FnStreamGetBinSaid : Prop := fnStreamGetBinRow.holds Tryd.pinned (OpenSpec.ofChange fnStreamGetBinSpec)

/-- ITS FALSE NEIGHBOUR: 'it returns false'. Refute it at one input. -/
def fnStreamGetBinWrong : ChangeSpec := { name := "fnStreamGetBin", vars := ["given.example/pub-saddlebag/pub/msgp/msgp.ErrLimitExceeded"], fn := fun _ => fun
  | [d1, d2, d3, d4, g1] => { results := [.lit (.bool false)], args := [d1, d2, d3, d4], vars := [g1] }
  | _ => none }
def FnStreamGetBinWrongFalsely : Prop := fnStreamGetBinRow.holds Tryd.pinned (OpenSpec.ofChange fnStreamGetBinWrong)

/-- 'laws.FnStreamGetInt': WHATEVER THE INPUT: true; the input reads as it did. -/
def fnStreamGetIntSpec : ChangeSpec := { name := "fnStreamGetInt", fn := fun _ => fun
  | [d1, d2, d3, d4] => { results := [.lit (.bool true)], args := [d1, d2, d3, d4] }
  | _ => none }
def fnStreamGetIntRow : OpenClaim := { program := "ytpadbpmnejgckaadoor", sum := "854031dda31a4647569574c39d744a4c8833afe81270c5e2832fdbe5cf78ca3d", func := "given.example/pub-saddlebag/laws.FnStreamGetInt", spec := "fnStreamGetInt", unfollowed := true, recurses := true, named := ["io.EOF", "io.ErrUnexpectedEOF"], apart := false, laid := [("io.EOF", laid_io_EOF), ("io.ErrUnexpectedEOF", laid_io_ErrUnexpectedEOF)] }
def FnStreamGetIntSaid : Prop := fnStreamGetIntRow.holds Tryd.pinned (OpenSpec.ofChange fnStreamGetIntSpec)

/-- ITS FALSE NEIGHBOUR: 'it returns false'. Refute it at one input. -/
def fnStreamGetIntWrong : ChangeSpec := { name := "fnStreamGetInt", fn := fun _ => fun
  | [d1, d2, d3, d4] => { results := [.lit (.bool false)], args := [d1, d2, d3, d4] }
  | _ => none }
def FnStreamGetIntWrongFalsely : Prop := fnStreamGetIntRow.holds Tryd.pinned (OpenSpec.ofChange fnStreamGetIntWrong)

/-- 'laws.FnStreamGetUint': WHATEVER THE INPUT: true; the input reads as it did. -/
def fnStreamGetUintSpec : ChangeSpec := { name := "fnStreamGetUint", fn := fun _ => fun
  | [d1, d2, d3, d4] => { results := [.lit (.bool true)], args := [d1, d2, d3, d4] }
  | _ => none }
def fnStreamGetUintRow : OpenClaim := { program := "ytpadbpmnejgckaadoor", sum := "854031dda31a4647569574c39d744a4c8833afe81270c5e2832fdbe5cf78ca3d", func := "given.example/pub-saddlebag/laws.FnStreamGetUint", spec := "fnStreamGetUint", unfollowed := true, recurses := true, named := ["io.EOF", "io.ErrUnexpectedEOF"], apart := false, laid := [("io.EOF", laid_io_EOF), ("io.ErrUnexpectedEOF", laid_io_ErrUnexpectedEOF)] }
def FnStreamGetUintSaid : Prop := fnStreamGetUintRow.holds Tryd.pinned (OpenSpec.ofChange fnStreamGetUintSpec)

/-- ITS FALSE NEIGHBOUR: 'it returns false'. Refute it at one input. -/
def fnStreamGetUintWrong : ChangeSpec := { name := "fnStreamGetUint", fn := fun _ => fun
  | [d1, d2, d3, d4] => { results := [.lit (.bool false)], args := [d1, d2, d3, d4] }
  | _ => none }
def FnStreamGetUintWrongFalsely : Prop := fnStreamGetUintRow.holds Tryd.pinned (OpenSpec.ofChange fnStreamGetUintWrong)

/-- 'laws.FnStreamSkip': WHATEVER THE INPUT: true; the input reads as it did. -/
def fnStreamSkipSpec : ChangeSpec := { name := "fnStreamSkip", vars := ["given.example/pub-saddlebag/pub/msgp/msgp.ErrShortBytes", "given.example/pub-saddlebag/pub/msgp/msgp.fatal", "given.example/pub-saddlebag/pub/msgp/msgp.ErrRecursion"], fn := fun _ => fun
  | [d1, d2, d3, d4, d5, g1, g2, g3] => { results := [.lit (.bool true)], args := [d1, d2, d3, d4, d5], vars := [g1, g2, g3] }
  | _ => none }
def fnStreamSkipRow : OpenClaim := { program := "ytpadbpmnejgckaadoor", sum := "854031dda31a4647569574c39d744a4c8833afe81270c5e2832fdbe5cf78ca3d", func := "given.example/pub-saddlebag/laws.FnStreamSkip", spec := "fnStreamSkip", unfollowed := true, recurses := true, named := ["given.example/pub-saddlebag/pub/msgp/msgp.ErrShortBytes", "encoding/binary.BigEndian", "given.example/pub-saddlebag/pub/msgp/msgp.fatal", "io.EOF", "io.ErrUnexpectedEOF", "given.example/pub-saddlebag/pub/msgp/msgp.ErrRecursion"], ifaces := true, loops := true, apart := false, laid := [("io.EOF", laid_io_EOF), ("io.ErrUnexpectedEOF", laid_io_ErrUnexpectedEOF), ("given.example/pub-saddlebag/pub/msgp/msgp.ErrShortBytes", laid_given_example_pub_saddlebag_pub_msgp_msgp_ErrShortBytes), ("given.example/pub-saddlebag/pub/msgp/msgp.ErrRecursion", laid_given_example_pub_saddlebag_pub_msgp_msgp_ErrRecursion), ("given.example/pub-saddlebag/pub/msgp/msgp.fatal", laid_given_example_pub_saddlebag_pub_msgp_msgp_fatal)] }
def FnStreamSkipSaid : Prop := fnStreamSkipRow.holds Tryd.pinned (OpenSpec.ofChange fnStreamSkipSpec)

/-- ITS FALSE NEIGHBOUR: 'it returns false'. Refute it at one input. -/
def fnStreamSkipWrong : ChangeSpec := { name := "fnStreamSkip", vars := ["given.example/pub-saddlebag/pub/msgp/msgp.ErrShortBytes", "given.example/pub-saddlebag/pub/msgp/msgp.fatal", "given.example/pub-saddlebag/pub/msgp/msgp.ErrRecursion"], fn := fun _ => fun
  | [d1, d2, d3, d4, d5, g1, g2, g3] => { results := [.lit (.bool false)], args := [d1, d2, d3, d4, d5], vars := [g1, g2, g3] }
  | _ => none }
def FnStreamSkipWrongFalsely : Prop := fnStreamSkipRow.holds Tryd.pinned (OpenSpec.ofChange fnStreamSkipWrong)

/- THE SECOND FORM. 'bulk': how many values and letters a reading holds, each counted each time it is reached (what is shared counts as often as it is met; a slice's spare places count too). A statement '..UptoSaid' is the law's where the arguments, and the package variables that the reading takes, are together of bulk at most 1048576: NARROWER than '..Said'. Prove '..Said' where nothing that the law and all that it calls make is longer than what came in: it says more and counts as full. Else prove '..UptoSaid'. A law counts once. -/
mutual
def uptoBulk {H : Type} : DataW H → Nat
  | .lit (.string bytes) => bytes.length + 1
  | .lit _ => 1
  | .nil => 1
  | .ptr d => uptoBulk d + 1
  | .slice elems spare => uptoBulkAll elems + uptoBulkAll spare + 1
  | .agg parts => uptoBulkAll parts + 1
  | .iface _ d => uptoBulk d + 1
  | .map entries => uptoBulkEntries entries + 1
  | .held _ => 1
def uptoBulkAll {H : Type} : List (DataW H) → Nat
  | [] => 0
  | d :: r => uptoBulk d + uptoBulkAll r
def uptoBulkEntries {H : Type} : List (Lit × DataW H) → Nat
  | [] => 0
  | x :: r => uptoBulkEntry x + uptoBulkEntries r
def uptoBulkEntry {H : Type} : Lit × DataW H → Nat
  | (.string bytes, d) => bytes.length + uptoBulk d + 1
  | (_, d) => uptoBulk d + 1
 end
def uptoSmall : (H : Type) → List (DataW H) → Bool := fun _ ds => decide (uptoBulkAll ds ≤ 1048576)
def OpenSpec.upto (s : _root_.Go.ChangeSpec) : _root_.Go.OpenSpec := { _root_.Go.OpenSpec.ofChange s with cond := some uptoSmall }

/-- 'laws.FnNumberGet', WHERE WHAT IT READS IS OF BULK AT MOST 1048576: true; the input reads as it did. -/
def fnNumberGetUptoRow : OpenClaim := { program := "ytpadbpmnejgckaadoor", sum := "854031dda31a4647569574c39d744a4c8833afe81270c5e2832fdbe5cf78ca3d", func := "given.example/pub-saddlebag/laws.FnNumberGet", spec := "fnNumberGet", inPlace := ["math.Float32frombits", "math.Float64frombits", "math.Float64bits", "math.Float32bits"], recurses := true, named := ["given.example/pub-saddlebag/pub/msgp/msgp.ErrShortBytes", "encoding/binary.BigEndian"], ifaces := true, loops := true, apart := false, laid := [("given.example/pub-saddlebag/pub/msgp/msgp.ErrShortBytes", laid_given_example_pub_saddlebag_pub_msgp_msgp_ErrShortBytes)], narrowed := true }
def FnNumberGetUptoSaid : Prop := fnNumberGetUptoRow.holds Tryd.pinned (OpenSpec.upto fnNumberGetSpec)

/-- 'laws.FnRemove', WHERE WHAT IT READS IS OF BULK AT MOST 1048576: true; the input reads as it did. -/
def fnRemoveUptoRow : OpenClaim := { program := "ytpadbpmnejgckaadoor", sum := "854031dda31a4647569574c39d744a4c8833afe81270c5e2832fdbe5cf78ca3d", func := "given.example/pub-saddlebag/laws.FnRemove", spec := "fnRemove", recurses := true, named := ["given.example/pub-saddlebag/pub/msgp/msgp.ErrShortBytes", "encoding/binary.BigEndian", "given.example/pub-saddlebag/pub/msgp/msgp.ErrRecursion", "given.example/pub-saddlebag/pub/msgp/msgp.fatal"], ifaces := true, loops := true, apart := false, laid := [("given.example/pub-saddlebag/pub/msgp/msgp.ErrShortBytes", laid_given_example_pub_saddlebag_pub_msgp_msgp_ErrShortBytes), ("given.example/pub-saddlebag/pub/msgp/msgp.ErrRecursion", laid_given_example_pub_saddlebag_pub_msgp_msgp_ErrRecursion), ("given.example/pub-saddlebag/pub/msgp/msgp.fatal", laid_given_example_pub_saddlebag_pub_msgp_msgp_fatal)], narrowed := true }
def FnRemoveUptoSaid : Prop := fnRemoveUptoRow.holds Tryd.pinned (OpenSpec.upto fnRemoveSpec)

/-- 'laws.FnStreamGetFloat32', WHERE WHAT IT READS IS OF BULK AT MOST 1048576: true; the input reads as it did. -/
def fnStreamGetFloat32UptoRow : OpenClaim := { program := "ytpadbpmnejgckaadoor", sum := "854031dda31a4647569574c39d744a4c8833afe81270c5e2832fdbe5cf78ca3d", func := "given.example/pub-saddlebag/laws.FnStreamGetFloat32", spec := "fnStreamGetFloat32", inPlace := ["math.Float32frombits", "math.Float32bits"], unfollowed := true, recurses := true, named := ["io.EOF", "io.ErrUnexpectedEOF"], apart := false, laid := [("io.EOF", laid_io_EOF), ("io.ErrUnexpectedEOF", laid_io_ErrUnexpectedEOF)], narrowed := true }
def FnStreamGetFloat32UptoSaid : Prop := fnStreamGetFloat32UptoRow.holds Tryd.pinned (OpenSpec.upto fnStreamGetFloat32Spec)

/-- 'laws.FnStreamGetMapHead', WHERE WHAT IT READS IS OF BULK AT MOST 1048576: true; the input reads as it did. -/
def fnStreamGetMapHeadUptoRow : OpenClaim := { program := "ytpadbpmnejgckaadoor", sum := "854031dda31a4647569574c39d744a4c8833afe81270c5e2832fdbe5cf78ca3d", func := "given.example/pub-saddlebag/laws.FnStreamGetMapHead", spec := "fnStreamGetMapHead", unfollowed := true, recurses := true, named := ["encoding/binary.BigEndian", "io.EOF", "io.ErrUnexpectedEOF"], apart := false, laid := [("io.EOF", laid_io_EOF), ("io.ErrUnexpectedEOF", laid_io_ErrUnexpectedEOF)], narrowed := true }
def FnStreamGetMapHeadUptoSaid : Prop := fnStreamGetMapHeadUptoRow.holds Tryd.pinned (OpenSpec.upto fnStreamGetMapHeadSpec)

/-- 'laws.FnStreamGetBin', WHERE WHAT IT READS IS OF BULK AT MOST 1048576: true; the input reads as it did. -/
def fnStreamGetBinUptoRow : OpenClaim := { program := "ytpadbpmnejgckaadoor", sum := "854031dda31a4647569574c39d744a4c8833afe81270c5e2832fdbe5cf78ca3d", func := "given.example/pub-saddlebag/laws.FnStreamGetBin", spec := "fnStreamGetBin", unfollowed := true, recurses := true, named := ["encoding/binary.BigEndian", "given.example/pub-saddlebag/pub/msgp/msgp.ErrLimitExceeded", "io.EOF", "io.ErrUnexpectedEOF"], ifaces := true, apart := false, laid := [("io.EOF", laid_io_EOF), ("io.ErrUnexpectedEOF", laid_io_ErrUnexpectedEOF), ("given.example/pub-saddlebag/pub/msgp/msgp.ErrLimitExceeded", laid_given_example_pub_saddlebag_pub_msgp_msgp_ErrLimitExceeded)], narrowed := true }
def FnStreamGetBinUptoSaid : Prop := fnStreamGetBinUptoRow.holds Tryd.pinned (OpenSpec.upto fnStreamGetBinSpec)

/-- 'laws.FnStreamGetInt', WHERE WHAT IT READS IS OF BULK AT MOST 1048576: true; the input reads as it did. -/
def fnStreamGetIntUptoRow : OpenClaim := { program := "ytpadbpmnejgckaadoor", sum := "854031dda31a4647569574c39d744a4c8833afe81270c5e2832fdbe5cf78ca3d", func := "given.example/pub-saddlebag/laws.FnStreamGetInt", spec := "fnStreamGetInt", unfollowed := true, recurses := true, named := ["io.EOF", "io.ErrUnexpectedEOF"], apart := false, laid := [("io.EOF", laid_io_EOF), ("io.ErrUnexpectedEOF", laid_io_ErrUnexpectedEOF)], narrowed := true }
def FnStreamGetIntUptoSaid : Prop := fnStreamGetIntUptoRow.holds Tryd.pinned (OpenSpec.upto fnStreamGetIntSpec)

/-- 'laws.FnStreamGetUint', WHERE WHAT IT READS IS OF BULK AT MOST 1048576: true; the input reads as it did. -/
def fnStreamGetUintUptoRow : OpenClaim := { program := "ytpadbpmnejgckaadoor", sum := "854031dda31a4647569574c39d744a4c8833afe81270c5e2832fdbe5cf78ca3d", func := "given.example/pub-saddlebag/laws.FnStreamGetUint", spec := "fnStreamGetUint", unfollowed := true, recurses := true, named := ["io.EOF", "io.ErrUnexpectedEOF"], apart := false, laid := [("io.EOF", laid_io_EOF), ("io.ErrUnexpectedEOF", laid_io_ErrUnexpectedEOF)], narrowed := true }
def FnStreamGetUintUptoSaid : Prop := fnStreamGetUintUptoRow.holds Tryd.pinned (OpenSpec.upto fnStreamGetUintSpec)

/-- 'laws.FnStreamSkip', WHERE WHAT IT READS IS OF BULK AT MOST 1048576: true; the input reads as it did. -/
def fnStreamSkipUptoRow : OpenClaim := { program := "ytpadbpmnejgckaadoor", sum := "854031dda31a4647569574c39d744a4c8833afe81270c5e2832fdbe5cf78ca3d", func := "given.example/pub-saddlebag/laws.FnStreamSkip", spec := "fnStreamSkip", unfollowed := true, recurses := true, named := ["given.example/pub-saddlebag/pub/msgp/msgp.ErrShortBytes", "encoding/binary.BigEndian", "given.example/pub-saddlebag/pub/msgp/msgp.fatal", "io.EOF", "io.ErrUnexpectedEOF", "given.example/pub-saddlebag/pub/msgp/msgp.ErrRecursion"], ifaces := true, loops := true, apart := false, laid := [("io.EOF", laid_io_EOF), ("io.ErrUnexpectedEOF", laid_io_ErrUnexpectedEOF), ("given.example/pub-saddlebag/pub/msgp/msgp.ErrShortBytes", laid_given_example_pub_saddlebag_pub_msgp_msgp_ErrShortBytes), ("given.example/pub-saddlebag/pub/msgp/msgp.ErrRecursion", laid_given_example_pub_saddlebag_pub_msgp_msgp_ErrRecursion), ("given.example/pub-saddlebag/pub/msgp/msgp.fatal", laid_given_example_pub_saddlebag_pub_msgp_msgp_fatal)], narrowed := true }
def FnStreamSkipUptoSaid : Prop := fnStreamSkipUptoRow.holds Tryd.pinned (OpenSpec.upto fnStreamSkipSpec)

end Rows
end Go.Proofs.YtpadbpmnejgckaaDoor
