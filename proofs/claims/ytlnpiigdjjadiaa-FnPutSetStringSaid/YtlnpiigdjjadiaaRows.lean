/-
  No cell of these rows narrows 'for every input' (looked for: loops, veiled, ifaces, maps, wideKeys, modest, calm, conditions, laid).
  DERIVED. THE GIVEN ROWS OF THIS SEAT. 3 by the template 'for every input the law returns true; each argument reads behind the call as it read before'; 0 by the template 'total and deterministic' (their statements: YtlnpiigdjjadiaaTotals.lean).
  GIVEN WITH THE SEED: the statements are not yours to turn. If you find one false, say at which input.
  Laid BY PROGRAM, IN A SANDBOX (cutbox-rows.mjs): the forced cells as the released guide's own fill.sh prints them over the translation a5ac9b76046f27a6… (all of the seat's roots in one cut). By AI agents, Wed Nov 11 2026. No macro, syntax, notation, axiom, sorry.
-/
import Derived.Test.YtlnpiigdjjadiaaChecked
import GoSem.Claim
import GoSem.ClaimJoined
import GoSem.ClaimMapViews
import Derived.JoinedTies
import Derived.KernelRfl
namespace Go.Proofs.Ytlnpiigdjjadiaa
/- THE CELL 'sum', in the pinned program and in every row, IS THE sha256 OF THE DUMP (.gsa) THAT YtlnpiigdjjadiaaProg.lean LOADS. Nothing in Lean hashes anything: it is a label: what it is worth is what the hold of that sum in a sandbox is worth. -/
noncomputable def Try.pinned : Pinned := { name := "ytlnpiigdjjadiaa", sum := "a5ac9b76046f27a644d0fa665ce561a0a009ef6d84c7ca11d70fcca440008e6a", checked := Try.checked }
namespace Rows
def none {H : Type} : Left H := { results := [], args := [] }

/-- 'laws.FnPutSetString': WHATEVER THE INPUT: true; the input reads as it did. -/
def fnPutSetStringSpec : ChangeSpec := { name := "fnPutSetString", fn := fun _ => fun
  | [d1, d2] => { results := [.lit (.bool true)], args := [d1, d2] }
  | _ => none }
def fnPutSetStringRow : OpenClaim := { program := "ytlnpiigdjjadiaa", sum := "a5ac9b76046f27a644d0fa665ce561a0a009ef6d84c7ca11d70fcca440008e6a", func := "given.example/pub-saddlebag/laws.FnPutSetString", spec := "fnPutSetString", recurses := true, apart := false }
def FnPutSetStringSaid : Prop := fnPutSetStringRow.holds Try.pinned (OpenSpec.ofChange fnPutSetStringSpec)

/-- ITS FALSE NEIGHBOUR: 'it returns false'. Refute it at one input. -/
def fnPutSetStringWrong : ChangeSpec := { name := "fnPutSetString", fn := fun _ => fun
  | [d1, d2] => { results := [.lit (.bool false)], args := [d1, d2] }
  | _ => none }
def FnPutSetStringWrongFalsely : Prop := fnPutSetStringRow.holds Try.pinned (OpenSpec.ofChange fnPutSetStringWrong)

/-- 'laws.FnPutSetUint8': WHATEVER THE INPUT: true; the input reads as it did. -/
def fnPutSetUint8Spec : ChangeSpec := { name := "fnPutSetUint8", fn := fun _ => fun
  | [d1, d2] => { results := [.lit (.bool true)], args := [d1, d2] }
  | _ => none }
def fnPutSetUint8Row : OpenClaim := { program := "ytlnpiigdjjadiaa", sum := "a5ac9b76046f27a644d0fa665ce561a0a009ef6d84c7ca11d70fcca440008e6a", func := "given.example/pub-saddlebag/laws.FnPutSetUint8", spec := "fnPutSetUint8", unfollowed := true, recurses := true, apart := false }
def FnPutSetUint8Said : Prop := fnPutSetUint8Row.holds Try.pinned (OpenSpec.ofChange fnPutSetUint8Spec)

/-- ITS FALSE NEIGHBOUR: 'it returns false'. Refute it at one input. -/
def fnPutSetUint8Wrong : ChangeSpec := { name := "fnPutSetUint8", fn := fun _ => fun
  | [d1, d2] => { results := [.lit (.bool false)], args := [d1, d2] }
  | _ => none }
def FnPutSetUint8WrongFalsely : Prop := fnPutSetUint8Row.holds Try.pinned (OpenSpec.ofChange fnPutSetUint8Wrong)

/-- 'laws.FnPutSetInt64': WHATEVER THE INPUT: true; the input reads as it did. -/
def fnPutSetInt64Spec : ChangeSpec := { name := "fnPutSetInt64", fn := fun _ => fun
  | [d1, d2] => { results := [.lit (.bool true)], args := [d1, d2] }
  | _ => none }
def fnPutSetInt64Row : OpenClaim := { program := "ytlnpiigdjjadiaa", sum := "a5ac9b76046f27a644d0fa665ce561a0a009ef6d84c7ca11d70fcca440008e6a", func := "given.example/pub-saddlebag/laws.FnPutSetInt64", spec := "fnPutSetInt64", unfollowed := true, recurses := true, apart := false }
def FnPutSetInt64Said : Prop := fnPutSetInt64Row.holds Try.pinned (OpenSpec.ofChange fnPutSetInt64Spec)

/-- ITS FALSE NEIGHBOUR: 'it returns false'. Refute it at one input. -/
def fnPutSetInt64Wrong : ChangeSpec := { name := "fnPutSetInt64", fn := fun _ => fun
  | [d1, d2] => { results := [.lit (.bool false)], args := [d1, d2] }
  | _ => none }
def FnPutSetInt64WrongFalsely : Prop := fnPutSetInt64Row.holds Try.pinned (OpenSpec.ofChange fnPutSetInt64Wrong)

/- THE SECOND FORM. 'bulk': how many values and letters a reading holds, each counted each time it is reached (what is shared counts as often as it is met; a slice's spare places count too). A statement '..UptoSaid' is the law's where the arguments, and the package variables that the reading takes, are together of bulk at most 1048576: NARROWER than '..Said'. Prove '..Said' where nothing that the law and all that it calls make is longer than what came in: it says more and counts as full. Else prove '..UptoSaid'. A law counts once. -/
mutual
def uptoBulk {H : Type} : DataW H → Nat
  | .lit (.string bytes) => bytes.length + 1
  | .lit _ => 1
  | .nil => 1
  | .ptr d => uptoBulk d + 1
  | .slice elems spare => uptoBulkAll elems + uptoBulkAll spare + 1
  | .agg parts => uptoBulkAll parts + 1
  | .iface _ d => uptoBulk d + 1
  | .map entries => uptoBulkEntries entries + 1
  | .held _ => 1
def uptoBulkAll {H : Type} : List (DataW H) → Nat
  | [] => 0
  | d :: r => uptoBulk d + uptoBulkAll r
def uptoBulkEntries {H : Type} : List (Lit × DataW H) → Nat
  | [] => 0
  | x :: r => uptoBulkEntry x + uptoBulkEntries r
def uptoBulkEntry {H : Type} : Lit × DataW H → Nat
  | (.string bytes, d) => bytes.length + uptoBulk d + 1
  | (_, d) => uptoBulk d + 1
 end
def uptoSmall : (H : Type) → List (DataW H) → Bool := fun _ ds => decide (uptoBulkAll ds ≤ 1048576)
def OpenSpec.upto (s : _root_.Go.ChangeSpec) : _root_.Go.OpenSpec := { _root_.Go.OpenSpec.ofChange s with cond := some uptoSmall }

/-- 'laws.FnPutSetString', WHERE WHAT IT READS IS OF BULK AT MOST 1048576: true; the input reads as it did. -/
def fnPutSetStringUptoRow : OpenClaim := { program := "ytlnpiigdjjadiaa", sum := "a5ac9b76046f27a644d0fa665ce561a0a009ef6d84c7ca11d70fcca440008e6a", func := "given.example/pub-saddlebag/laws.FnPutSetString", spec := "fnPutSetString", recurses := true, apart := false, narrowed := true }
def FnPutSetStringUptoSaid : Prop := fnPutSetStringUptoRow.holds Try.pinned (OpenSpec.upto fnPutSetStringSpec)

/-- 'laws.FnPutSetUint8', WHERE WHAT IT READS IS OF BULK AT MOST 1048576: true; the input reads as it did. -/
def fnPutSetUint8UptoRow : OpenClaim := { program := "ytlnpiigdjjadiaa", sum := "a5ac9b76046f27a644d0fa665ce561a0a009ef6d84c7ca11d70fcca440008e6a", func := "given.example/pub-saddlebag/laws.FnPutSetUint8", spec := "fnPutSetUint8", unfollowed := true, recurses := true, apart := false, narrowed := true }
def FnPutSetUint8UptoSaid : Prop := fnPutSetUint8UptoRow.holds Try.pinned (OpenSpec.upto fnPutSetUint8Spec)

/-- 'laws.FnPutSetInt64', WHERE WHAT IT READS IS OF BULK AT MOST 1048576: true; the input reads as it did. -/
def fnPutSetInt64UptoRow : OpenClaim := { program := "ytlnpiigdjjadiaa", sum := "a5ac9b76046f27a644d0fa665ce561a0a009ef6d84c7ca11d70fcca440008e6a", func := "given.example/pub-saddlebag/laws.FnPutSetInt64", spec := "fnPutSetInt64", unfollowed := true, recurses := true, apart := false, narrowed := true }
def FnPutSetInt64UptoSaid : Prop := fnPutSetInt64UptoRow.holds Try.pinned (OpenSpec.upto fnPutSetInt64Spec)

end Rows
end Go.Proofs.Ytlnpiigdjjadiaa
