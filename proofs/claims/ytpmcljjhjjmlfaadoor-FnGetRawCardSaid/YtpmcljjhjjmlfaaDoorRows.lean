/-
  NARROWER THAN 'FOR EVERY INPUT', by the rows' own cells (each row's printed sentence says how): FnGetBool: loops, ifaces, laid · FnGetArrayHead: ifaces, laid · FnGetTextZC: loops, ifaces, laid · FnGetExact: loops, ifaces, laid · FnGetRaw: loops, ifaces, laid · FnGetInt32: loops, ifaces, laid · FnGetUint32: loops, ifaces, laid.
  DERIVED. THE GIVEN ROWS OF THIS SEAT. 7 by the template 'for every input the law returns true; each argument reads behind the call as it read before'; 0 by the template 'total and deterministic' (their statements: YtpmcljjhjjmlfaaDoorTotals.lean).
  GIVEN WITH THE SEED: the statements are not yours to turn. If you find one false, say at which input.
  Laid BY PROGRAM, IN A SANDBOX (cutbox-rows.mjs): the forced cells as the released guide's own fill.sh prints them over the translation 95a8bd90abd4ebba… (all of the seat's roots in one cut). By AI agents, Wed Nov 11 2026. No macro, syntax, notation, axiom, sorry.
-/
import Derived.Test.YtpmcljjhjjmlfaaDoorChecked
import GoSem.Claim
import GoSem.ClaimJoined
import GoSem.ClaimMapViews
import Derived.JoinedTies
import Derived.KernelRfl
namespace Go.Proofs.YtpmcljjhjjmlfaaDoor
/- THE CELL 'sum', in the pinned program and in every row, IS THE sha256 OF THE DUMP (.gsa) THAT YtpmcljjhjjmlfaaDoorProg.lean LOADS. Nothing in Lean hashes anything: it is a label: what it is worth is what the hold of that sum in a sandbox is worth. -/
noncomputable def Tryd.pinned : Pinned := { name := "ytpmcljjhjjmlfaadoor", sum := "95a8bd90abd4ebbaeb5e2330dda68d94aff5286fe4c7983c122b1e7e70bf3183", checked := Tryd.checked }
namespace Rows
def none {H : Type} : Left H := { results := [], args := [] }

/- WHAT THE LISTED PACKAGE-LEVEL VARIABLES READ AS WHEN THE CALL BEGINS. Each datum BY PROGRAM (the guide's laid-datum.mjs) off the statement by which the dump's own 'gosem.cut.vars' lays the variable. In a bare row this is a premise. The card (YtpmcljjhjjmlfaaDoorCards.lean) ties it to the program's text. -/
def laid_given_example_pub_saddlebag_pub_msgp_msgp_ErrShortBytes {H : Type} : DataW H := .iface "given.example/pub-saddlebag/pub/msgp/msgp.errShort" (.agg [])
def laid_given_example_pub_saddlebag_pub_msgp_msgp_ErrRecursion {H : Type} : DataW H := .iface "given.example/pub-saddlebag/pub/msgp/msgp.errRecursion" (.agg [])
def laid_given_example_pub_saddlebag_pub_msgp_msgp_fatal {H : Type} : DataW H := .iface "given.example/pub-saddlebag/pub/msgp/msgp.errFatal" (.agg [.lit (.string [])])

/-- 'laws.FnGetBool': WHATEVER THE INPUT: true; the input reads as it did. -/
def fnGetBoolSpec : ChangeSpec := { name := "fnGetBool", vars := ["given.example/pub-saddlebag/pub/msgp/msgp.ErrShortBytes"], fn := fun _ => fun
  | [d, g1] => { results := [.lit (.bool true)], args := [d], vars := [g1] }
  | _ => none }
def fnGetBoolRow : OpenClaim := { program := "ytpmcljjhjjmlfaadoor", sum := "95a8bd90abd4ebbaeb5e2330dda68d94aff5286fe4c7983c122b1e7e70bf3183", func := "given.example/pub-saddlebag/laws.FnGetBool", spec := "fnGetBool", recurses := true, named := ["given.example/pub-saddlebag/pub/msgp/msgp.ErrShortBytes"], ifaces := true, loops := true, apart := false, laid := [("given.example/pub-saddlebag/pub/msgp/msgp.ErrShortBytes", laid_given_example_pub_saddlebag_pub_msgp_msgp_ErrShortBytes)] }
def FnGetBoolSaid : Prop := fnGetBoolRow.holds Tryd.pinned (OpenSpec.ofChange fnGetBoolSpec)

/-- ITS FALSE NEIGHBOUR: 'it returns false'. Refute it at one input. -/
def fnGetBoolWrong : ChangeSpec := { name := "fnGetBool", vars := ["given.example/pub-saddlebag/pub/msgp/msgp.ErrShortBytes"], fn := fun _ => fun
  | [d, g1] => { results := [.lit (.bool false)], args := [d], vars := [g1] }
  | _ => none }
def FnGetBoolWrongFalsely : Prop := fnGetBoolRow.holds Tryd.pinned (OpenSpec.ofChange fnGetBoolWrong)

/-- 'laws.FnGetArrayHead': WHATEVER THE INPUT: true; the input reads as it did. -/
def fnGetArrayHeadSpec : ChangeSpec := { name := "fnGetArrayHead", vars := ["given.example/pub-saddlebag/pub/msgp/msgp.ErrShortBytes"], fn := fun _ => fun
  | [d1, d2, d3, d4, d5, g1] => { results := [.lit (.bool true)], args := [d1, d2, d3, d4, d5], vars := [g1] }
  | _ => none }
def fnGetArrayHeadRow : OpenClaim := { program := "ytpmcljjhjjmlfaadoor", sum := "95a8bd90abd4ebbaeb5e2330dda68d94aff5286fe4c7983c122b1e7e70bf3183", func := "given.example/pub-saddlebag/laws.FnGetArrayHead", spec := "fnGetArrayHead", named := ["given.example/pub-saddlebag/pub/msgp/msgp.ErrShortBytes", "encoding/binary.BigEndian"], ifaces := true, apart := false, laid := [("given.example/pub-saddlebag/pub/msgp/msgp.ErrShortBytes", laid_given_example_pub_saddlebag_pub_msgp_msgp_ErrShortBytes)] }
def FnGetArrayHeadSaid : Prop := fnGetArrayHeadRow.holds Tryd.pinned (OpenSpec.ofChange fnGetArrayHeadSpec)

/-- ITS FALSE NEIGHBOUR: 'it returns false'. Refute it at one input. -/
def fnGetArrayHeadWrong : ChangeSpec := { name := "fnGetArrayHead", vars := ["given.example/pub-saddlebag/pub/msgp/msgp.ErrShortBytes"], fn := fun _ => fun
  | [d1, d2, d3, d4, d5, g1] => { results := [.lit (.bool false)], args := [d1, d2, d3, d4, d5], vars := [g1] }
  | _ => none }
def FnGetArrayHeadWrongFalsely : Prop := fnGetArrayHeadRow.holds Tryd.pinned (OpenSpec.ofChange fnGetArrayHeadWrong)

/-- 'laws.FnGetTextZC': WHATEVER THE INPUT: true; the input reads as it did. -/
def fnGetTextZCSpec : ChangeSpec := { name := "fnGetTextZC", vars := ["given.example/pub-saddlebag/pub/msgp/msgp.ErrShortBytes"], fn := fun _ => fun
  | [d, g1] => { results := [.lit (.bool true)], args := [d], vars := [g1] }
  | _ => none }
def fnGetTextZCRow : OpenClaim := { program := "ytpmcljjhjjmlfaadoor", sum := "95a8bd90abd4ebbaeb5e2330dda68d94aff5286fe4c7983c122b1e7e70bf3183", func := "given.example/pub-saddlebag/laws.FnGetTextZC", spec := "fnGetTextZC", recurses := true, named := ["given.example/pub-saddlebag/pub/msgp/msgp.ErrShortBytes", "encoding/binary.BigEndian"], ifaces := true, loops := true, apart := false, laid := [("given.example/pub-saddlebag/pub/msgp/msgp.ErrShortBytes", laid_given_example_pub_saddlebag_pub_msgp_msgp_ErrShortBytes)] }
def FnGetTextZCSaid : Prop := fnGetTextZCRow.holds Tryd.pinned (OpenSpec.ofChange fnGetTextZCSpec)

/-- ITS FALSE NEIGHBOUR: 'it returns false'. Refute it at one input. -/
def fnGetTextZCWrong : ChangeSpec := { name := "fnGetTextZC", vars := ["given.example/pub-saddlebag/pub/msgp/msgp.ErrShortBytes"], fn := fun _ => fun
  | [d, g1] => { results := [.lit (.bool false)], args := [d], vars := [g1] }
  | _ => none }
def FnGetTextZCWrongFalsely : Prop := fnGetTextZCRow.holds Tryd.pinned (OpenSpec.ofChange fnGetTextZCWrong)

/-- 'laws.FnGetExact': WHATEVER THE INPUT: true; the input reads as it did. -/
def fnGetExactSpec : ChangeSpec := { name := "fnGetExact", vars := ["given.example/pub-saddlebag/pub/msgp/msgp.ErrShortBytes"], fn := fun _ => fun
  | [d1, d2, g1] => { results := [.lit (.bool true)], args := [d1, d2], vars := [g1] }
  | _ => none }
def fnGetExactRow : OpenClaim := { program := "ytpmcljjhjjmlfaadoor", sum := "95a8bd90abd4ebbaeb5e2330dda68d94aff5286fe4c7983c122b1e7e70bf3183", func := "given.example/pub-saddlebag/laws.FnGetExact", spec := "fnGetExact", recurses := true, named := ["given.example/pub-saddlebag/pub/msgp/msgp.ErrShortBytes", "encoding/binary.BigEndian"], ifaces := true, loops := true, apart := false, laid := [("given.example/pub-saddlebag/pub/msgp/msgp.ErrShortBytes", laid_given_example_pub_saddlebag_pub_msgp_msgp_ErrShortBytes)] }
def FnGetExactSaid : Prop := fnGetExactRow.holds Tryd.pinned (OpenSpec.ofChange fnGetExactSpec)

/-- ITS FALSE NEIGHBOUR: 'it returns false'. Refute it at one input. -/
def fnGetExactWrong : ChangeSpec := { name := "fnGetExact", vars := ["given.example/pub-saddlebag/pub/msgp/msgp.ErrShortBytes"], fn := fun _ => fun
  | [d1, d2, g1] => { results := [.lit (.bool false)], args := [d1, d2], vars := [g1] }
  | _ => none }
def FnGetExactWrongFalsely : Prop := fnGetExactRow.holds Tryd.pinned (OpenSpec.ofChange fnGetExactWrong)

/-- 'laws.FnGetRaw': WHATEVER THE INPUT: true; the input reads as it did. -/
def fnGetRawSpec : ChangeSpec := { name := "fnGetRaw", vars := ["given.example/pub-saddlebag/pub/msgp/msgp.ErrRecursion", "given.example/pub-saddlebag/pub/msgp/msgp.ErrShortBytes", "given.example/pub-saddlebag/pub/msgp/msgp.fatal"], fn := fun _ => fun
  | [d, g1, g2, g3] => { results := [.lit (.bool true)], args := [d], vars := [g1, g2, g3] }
  | _ => none }
def fnGetRawRow : OpenClaim := { program := "ytpmcljjhjjmlfaadoor", sum := "95a8bd90abd4ebbaeb5e2330dda68d94aff5286fe4c7983c122b1e7e70bf3183", func := "given.example/pub-saddlebag/laws.FnGetRaw", spec := "fnGetRaw", recurses := true, named := ["given.example/pub-saddlebag/pub/msgp/msgp.ErrRecursion", "given.example/pub-saddlebag/pub/msgp/msgp.ErrShortBytes", "encoding/binary.BigEndian", "given.example/pub-saddlebag/pub/msgp/msgp.fatal"], ifaces := true, loops := true, apart := false, laid := [("given.example/pub-saddlebag/pub/msgp/msgp.ErrShortBytes", laid_given_example_pub_saddlebag_pub_msgp_msgp_ErrShortBytes), ("given.example/pub-saddlebag/pub/msgp/msgp.ErrRecursion", laid_given_example_pub_saddlebag_pub_msgp_msgp_ErrRecursion), ("given.example/pub-saddlebag/pub/msgp/msgp.fatal", laid_given_example_pub_saddlebag_pub_msgp_msgp_fatal)] }
def FnGetRawSaid : Prop := fnGetRawRow.holds Tryd.pinned (OpenSpec.ofChange fnGetRawSpec)

/-- ITS FALSE NEIGHBOUR: 'it returns false'. Refute it at one input. -/
def fnGetRawWrong : ChangeSpec := { name := "fnGetRaw", vars := ["given.example/pub-saddlebag/pub/msgp/msgp.ErrRecursion", "given.example/pub-saddlebag/pub/msgp/msgp.ErrShortBytes", "given.example/pub-saddlebag/pub/msgp/msgp.fatal"], fn := fun _ => fun
  | [d, g1, g2, g3] => { results := [.lit (.bool false)], args := [d], vars := [g1, g2, g3] }
  | _ => none }
def FnGetRawWrongFalsely : Prop := fnGetRawRow.holds Tryd.pinned (OpenSpec.ofChange fnGetRawWrong)

/-- 'laws.FnGetInt32': WHATEVER THE INPUT: true; the input reads as it did. -/
def fnGetInt32Spec : ChangeSpec := { name := "fnGetInt32", vars := ["given.example/pub-saddlebag/pub/msgp/msgp.ErrShortBytes"], fn := fun _ => fun
  | [d, g1] => { results := [.lit (.bool true)], args := [d], vars := [g1] }
  | _ => none }
def fnGetInt32Row : OpenClaim := { program := "ytpmcljjhjjmlfaadoor", sum := "95a8bd90abd4ebbaeb5e2330dda68d94aff5286fe4c7983c122b1e7e70bf3183", func := "given.example/pub-saddlebag/laws.FnGetInt32", spec := "fnGetInt32", recurses := true, named := ["given.example/pub-saddlebag/pub/msgp/msgp.ErrShortBytes", "encoding/binary.BigEndian"], ifaces := true, loops := true, apart := false, laid := [("given.example/pub-saddlebag/pub/msgp/msgp.ErrShortBytes", laid_given_example_pub_saddlebag_pub_msgp_msgp_ErrShortBytes)] }
def FnGetInt32Said : Prop := fnGetInt32Row.holds Tryd.pinned (OpenSpec.ofChange fnGetInt32Spec)

/-- ITS FALSE NEIGHBOUR: 'it returns false'. Refute it at one input. -/
def fnGetInt32Wrong : ChangeSpec := { name := "fnGetInt32", vars := ["given.example/pub-saddlebag/pub/msgp/msgp.ErrShortBytes"], fn := fun _ => fun
  | [d, g1] => { results := [.lit (.bool false)], args := [d], vars := [g1] }
  | _ => none }
def FnGetInt32WrongFalsely : Prop := fnGetInt32Row.holds Tryd.pinned (OpenSpec.ofChange fnGetInt32Wrong)

/-- 'laws.FnGetUint32': WHATEVER THE INPUT: true; the input reads as it did. -/
def fnGetUint32Spec : ChangeSpec := { name := "fnGetUint32", vars := ["given.example/pub-saddlebag/pub/msgp/msgp.ErrShortBytes"], fn := fun _ => fun
  | [d, g1] => { results := [.lit (.bool true)], args := [d], vars := [g1] }
  | _ => none }
def fnGetUint32Row : OpenClaim := { program := "ytpmcljjhjjmlfaadoor", sum := "95a8bd90abd4ebbaeb5e2330dda68d94aff5286fe4c7983c122b1e7e70bf3183", func := "given.example/pub-saddlebag/laws.FnGetUint32", spec := "fnGetUint32", recurses := true, named := ["given.example/pub-saddlebag/pub/msgp/msgp.ErrShortBytes", "encoding/binary.BigEndian"], ifaces := true, loops := true, apart := false, laid := [("given.example/pub-saddlebag/pub/msgp/msgp.ErrShortBytes", laid_given_example_pub_saddlebag_pub_msgp_msgp_ErrShortBytes)] }
def FnGetUint32Said : Prop := fnGetUint32Row.holds Tryd.pinned (OpenSpec.ofChange fnGetUint32Spec)

/-- ITS FALSE NEIGHBOUR: 'it returns false'. Refute it at one input. -/
def fnGetUint32Wrong : ChangeSpec := { name := "fnGetUint32", vars := ["given.example/pub-saddlebag/pub/msgp/msgp.ErrShortBytes"], fn := fun _ => fun
  | [d, g1] => { results := [.lit (.bool false)], args := [d], vars := [g1] }
  | _ => none }
def FnGetUint32WrongFalsely : Prop := fnGetUint32Row.holds Tryd.pinned (OpenSpec.ofChange fnGetUint32Wrong)

/- THE SECOND FORM. 'bulk': how many values and letters a reading holds, each counted each time it is reached (what is shared counts as often as it is met; a slice's spare places count too). A statement '..UptoSaid' is the law's where the arguments, and the package variables that the reading takes, are together of bulk at most 1048576: NARROWER than '..Said'. Prove '..Said' where nothing that the law and all that it calls make is longer than what came in: it says more and counts as full. Else prove '..UptoSaid'. A law counts once. -/
mutual
def uptoBulk {H : Type} : DataW H → Nat
  | .lit (.string bytes) => bytes.length + 1
  | .lit _ => 1
  | .nil => 1
  | .ptr d => uptoBulk d + 1
  | .slice elems spare => uptoBulkAll elems + uptoBulkAll spare + 1
  | .agg parts => uptoBulkAll parts + 1
  | .iface _ d => uptoBulk d + 1
  | .map entries => uptoBulkEntries entries + 1
  | .held _ => 1
def uptoBulkAll {H : Type} : List (DataW H) → Nat
  | [] => 0
  | d :: r => uptoBulk d + uptoBulkAll r
def uptoBulkEntries {H : Type} : List (Lit × DataW H) → Nat
  | [] => 0
  | x :: r => uptoBulkEntry x + uptoBulkEntries r
def uptoBulkEntry {H : Type} : Lit × DataW H → Nat
  | (.string bytes, d) => bytes.length + uptoBulk d + 1
  | (_, d) => uptoBulk d + 1
 end
def uptoSmall : (H : Type) → List (DataW H) → Bool := fun _ ds => decide (uptoBulkAll ds ≤ 1048576)
def OpenSpec.upto (s : _root_.Go.ChangeSpec) : _root_.Go.OpenSpec := { _root_.Go.OpenSpec.ofChange s with cond := some uptoSmall }

/-- 'laws.FnGetBool', WHERE WHAT IT READS IS OF BULK AT MOST 1048576: true; the input reads as it did. -/
def fnGetBoolUptoRow : OpenClaim := { program := "ytpmcljjhjjmlfaadoor", sum := "95a8bd90abd4ebbaeb5e2330dda68d94aff5286fe4c7983c122b1e7e70bf3183", func := "given.example/pub-saddlebag/laws.FnGetBool", spec := "fnGetBool", recurses := true, named := ["given.example/pub-saddlebag/pub/msgp/msgp.ErrShortBytes"], ifaces := true, loops := true, apart := false, laid := [("given.example/pub-saddlebag/pub/msgp/msgp.ErrShortBytes", laid_given_example_pub_saddlebag_pub_msgp_msgp_ErrShortBytes)], narrowed := true }
def FnGetBoolUptoSaid : Prop := fnGetBoolUptoRow.holds Tryd.pinned (OpenSpec.upto fnGetBoolSpec)

/-- 'laws.FnGetArrayHead', WHERE WHAT IT READS IS OF BULK AT MOST 1048576: true; the input reads as it did. -/
def fnGetArrayHeadUptoRow : OpenClaim := { program := "ytpmcljjhjjmlfaadoor", sum := "95a8bd90abd4ebbaeb5e2330dda68d94aff5286fe4c7983c122b1e7e70bf3183", func := "given.example/pub-saddlebag/laws.FnGetArrayHead", spec := "fnGetArrayHead", named := ["given.example/pub-saddlebag/pub/msgp/msgp.ErrShortBytes", "encoding/binary.BigEndian"], ifaces := true, apart := false, laid := [("given.example/pub-saddlebag/pub/msgp/msgp.ErrShortBytes", laid_given_example_pub_saddlebag_pub_msgp_msgp_ErrShortBytes)], narrowed := true }
def FnGetArrayHeadUptoSaid : Prop := fnGetArrayHeadUptoRow.holds Tryd.pinned (OpenSpec.upto fnGetArrayHeadSpec)

/-- 'laws.FnGetTextZC', WHERE WHAT IT READS IS OF BULK AT MOST 1048576: true; the input reads as it did. -/
def fnGetTextZCUptoRow : OpenClaim := { program := "ytpmcljjhjjmlfaadoor", sum := "95a8bd90abd4ebbaeb5e2330dda68d94aff5286fe4c7983c122b1e7e70bf3183", func := "given.example/pub-saddlebag/laws.FnGetTextZC", spec := "fnGetTextZC", recurses := true, named := ["given.example/pub-saddlebag/pub/msgp/msgp.ErrShortBytes", "encoding/binary.BigEndian"], ifaces := true, loops := true, apart := false, laid := [("given.example/pub-saddlebag/pub/msgp/msgp.ErrShortBytes", laid_given_example_pub_saddlebag_pub_msgp_msgp_ErrShortBytes)], narrowed := true }
def FnGetTextZCUptoSaid : Prop := fnGetTextZCUptoRow.holds Tryd.pinned (OpenSpec.upto fnGetTextZCSpec)

/-- 'laws.FnGetExact', WHERE WHAT IT READS IS OF BULK AT MOST 1048576: true; the input reads as it did. -/
def fnGetExactUptoRow : OpenClaim := { program := "ytpmcljjhjjmlfaadoor", sum := "95a8bd90abd4ebbaeb5e2330dda68d94aff5286fe4c7983c122b1e7e70bf3183", func := "given.example/pub-saddlebag/laws.FnGetExact", spec := "fnGetExact", recurses := true, named := ["given.example/pub-saddlebag/pub/msgp/msgp.ErrShortBytes", "encoding/binary.BigEndian"], ifaces := true, loops := true, apart := false, laid := [("given.example/pub-saddlebag/pub/msgp/msgp.ErrShortBytes", laid_given_example_pub_saddlebag_pub_msgp_msgp_ErrShortBytes)], narrowed := true }
def FnGetExactUptoSaid : Prop := fnGetExactUptoRow.holds Tryd.pinned (OpenSpec.upto fnGetExactSpec)

/-- 'laws.FnGetRaw', WHERE WHAT IT READS IS OF BULK AT MOST 1048576: true; the input reads as it did. -/
def fnGetRawUptoRow : OpenClaim := { program := "ytpmcljjhjjmlfaadoor", sum := "95a8bd90abd4ebbaeb5e2330dda68d94aff5286fe4c7983c122b1e7e70bf3183", func := "given.example/pub-saddlebag/laws.FnGetRaw", spec := "fnGetRaw", recurses := true, named := ["given.example/pub-saddlebag/pub/msgp/msgp.ErrRecursion", "given.example/pub-saddlebag/pub/msgp/msgp.ErrShortBytes", "encoding/binary.BigEndian", "given.example/pub-saddlebag/pub/msgp/msgp.fatal"], ifaces := true, loops := true, apart := false, laid := [("given.example/pub-saddlebag/pub/msgp/msgp.ErrShortBytes", laid_given_example_pub_saddlebag_pub_msgp_msgp_ErrShortBytes), ("given.example/pub-saddlebag/pub/msgp/msgp.ErrRecursion", laid_given_example_pub_saddlebag_pub_msgp_msgp_ErrRecursion), ("given.example/pub-saddlebag/pub/msgp/msgp.fatal", laid_given_example_pub_saddlebag_pub_msgp_msgp_fatal)], narrowed := true }
def FnGetRawUptoSaid : Prop := fnGetRawUptoRow.holds Tryd.pinned (OpenSpec.upto fnGetRawSpec)

/-- 'laws.FnGetInt32', WHERE WHAT IT READS IS OF BULK AT MOST 1048576: true; the input reads as it did. -/
def fnGetInt32UptoRow : OpenClaim := { program := "ytpmcljjhjjmlfaadoor", sum := "95a8bd90abd4ebbaeb5e2330dda68d94aff5286fe4c7983c122b1e7e70bf3183", func := "given.example/pub-saddlebag/laws.FnGetInt32", spec := "fnGetInt32", recurses := true, named := ["given.example/pub-saddlebag/pub/msgp/msgp.ErrShortBytes", "encoding/binary.BigEndian"], ifaces := true, loops := true, apart := false, laid := [("given.example/pub-saddlebag/pub/msgp/msgp.ErrShortBytes", laid_given_example_pub_saddlebag_pub_msgp_msgp_ErrShortBytes)], narrowed := true }
def FnGetInt32UptoSaid : Prop := fnGetInt32UptoRow.holds Tryd.pinned (OpenSpec.upto fnGetInt32Spec)

/-- 'laws.FnGetUint32', WHERE WHAT IT READS IS OF BULK AT MOST 1048576: true; the input reads as it did. -/
def fnGetUint32UptoRow : OpenClaim := { program := "ytpmcljjhjjmlfaadoor", sum := "95a8bd90abd4ebbaeb5e2330dda68d94aff5286fe4c7983c122b1e7e70bf3183", func := "given.example/pub-saddlebag/laws.FnGetUint32", spec := "fnGetUint32", recurses := true, named := ["given.example/pub-saddlebag/pub/msgp/msgp.ErrShortBytes", "encoding/binary.BigEndian"], ifaces := true, loops := true, apart := false, laid := [("given.example/pub-saddlebag/pub/msgp/msgp.ErrShortBytes", laid_given_example_pub_saddlebag_pub_msgp_msgp_ErrShortBytes)], narrowed := true }
def FnGetUint32UptoSaid : Prop := fnGetUint32UptoRow.holds Tryd.pinned (OpenSpec.upto fnGetUint32Spec)

end Rows
end Go.Proofs.YtpmcljjhjjmlfaaDoor
