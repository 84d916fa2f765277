/-
  No cell of these rows narrows 'for every input' (looked for: loops, veiled, ifaces, maps, wideKeys, modest, calm, conditions, laid).
  DERIVED. THE GIVEN ROWS OF THIS SEAT. 3 by the template 'for every input the law returns true; each argument reads behind the call as it read before'; 0 by the template 'total and deterministic' (their statements: YtapkehellkdkjaaTotals.lean).
  GIVEN WITH THE SEED: the statements are not yours to turn. If you find one false, say at which input.
  Laid BY PROGRAM, IN A SANDBOX (cutbox-rows.mjs): the forced cells as the released guide's own fill.sh prints them over the translation 83832e93efdbfbda… (all of the seat's roots in one cut). By AI agents, Wed Nov 11 2026. No macro, syntax, notation, axiom, sorry.
-/
import Derived.Test.YtapkehellkdkjaaChecked
import GoSem.Claim
import GoSem.ClaimJoined
import GoSem.ClaimMapViews
import Derived.JoinedTies
import Derived.KernelRfl
namespace Go.Proofs.Ytapkehellkdkjaa
/- THE CELL 'sum', in the pinned program and in every row, IS THE sha256 OF THE DUMP (.gsa) THAT YtapkehellkdkjaaProg.lean LOADS. Nothing in Lean hashes anything: it is a label: what it is worth is what the hold of that sum in a sandbox is worth. -/
noncomputable def Try.pinned : Pinned := { name := "ytapkehellkdkjaa", sum := "83832e93efdbfbda1f2102f225765fc01a7312776971d2884667e8d2f1112292", checked := Try.checked }
namespace Rows
def none {H : Type} : Left H := { results := [], args := [] }

/-- 'laws.FnStreamPutTextHead': WHATEVER THE INPUT: true; the input reads as it did. -/
def fnStreamPutTextHeadSpec : ChangeSpec := { name := "fnStreamPutTextHead", fn := fun _ => fun
  | [d1, d2] => { results := [.lit (.bool true)], args := [d1, d2] }
  | _ => none }
def fnStreamPutTextHeadRow : OpenClaim := { program := "ytapkehellkdkjaa", sum := "83832e93efdbfbda1f2102f225765fc01a7312776971d2884667e8d2f1112292", func := "given.example/pub-saddlebag/laws.FnStreamPutTextHead", spec := "fnStreamPutTextHead", unfollowed := true, recurses := true, apart := false }
def FnStreamPutTextHeadSaid : Prop := fnStreamPutTextHeadRow.holds Try.pinned (OpenSpec.ofChange fnStreamPutTextHeadSpec)

/-- ITS FALSE NEIGHBOUR: 'it returns false'. Refute it at one input. -/
def fnStreamPutTextHeadWrong : ChangeSpec := { name := "fnStreamPutTextHead", fn := fun _ => fun
  | [d1, d2] => { results := [.lit (.bool false)], args := [d1, d2] }
  | _ => none }
def FnStreamPutTextHeadWrongFalsely : Prop := fnStreamPutTextHeadRow.holds Try.pinned (OpenSpec.ofChange fnStreamPutTextHeadWrong)

/-- 'laws.FnStreamPutUint32': WHATEVER THE INPUT: true; the input reads as it did. -/
def fnStreamPutUint32Spec : ChangeSpec := { name := "fnStreamPutUint32", fn := fun _ => fun
  | [d1, d2] => { results := [.lit (.bool true)], args := [d1, d2] }
  | _ => none }
def fnStreamPutUint32Row : OpenClaim := { program := "ytapkehellkdkjaa", sum := "83832e93efdbfbda1f2102f225765fc01a7312776971d2884667e8d2f1112292", func := "given.example/pub-saddlebag/laws.FnStreamPutUint32", spec := "fnStreamPutUint32", unfollowed := true, recurses := true, apart := false }
def FnStreamPutUint32Said : Prop := fnStreamPutUint32Row.holds Try.pinned (OpenSpec.ofChange fnStreamPutUint32Spec)

/-- ITS FALSE NEIGHBOUR: 'it returns false'. Refute it at one input. -/
def fnStreamPutUint32Wrong : ChangeSpec := { name := "fnStreamPutUint32", fn := fun _ => fun
  | [d1, d2] => { results := [.lit (.bool false)], args := [d1, d2] }
  | _ => none }
def FnStreamPutUint32WrongFalsely : Prop := fnStreamPutUint32Row.holds Try.pinned (OpenSpec.ofChange fnStreamPutUint32Wrong)

/-- 'laws.FnStreamPutInt32': WHATEVER THE INPUT: true; the input reads as it did. -/
def fnStreamPutInt32Spec : ChangeSpec := { name := "fnStreamPutInt32", fn := fun _ => fun
  | [d1, d2] => { results := [.lit (.bool true)], args := [d1, d2] }
  | _ => none }
def fnStreamPutInt32Row : OpenClaim := { program := "ytapkehellkdkjaa", sum := "83832e93efdbfbda1f2102f225765fc01a7312776971d2884667e8d2f1112292", func := "given.example/pub-saddlebag/laws.FnStreamPutInt32", spec := "fnStreamPutInt32", unfollowed := true, recurses := true, apart := false }
def FnStreamPutInt32Said : Prop := fnStreamPutInt32Row.holds Try.pinned (OpenSpec.ofChange fnStreamPutInt32Spec)

/-- ITS FALSE NEIGHBOUR: 'it returns false'. Refute it at one input. -/
def fnStreamPutInt32Wrong : ChangeSpec := { name := "fnStreamPutInt32", fn := fun _ => fun
  | [d1, d2] => { results := [.lit (.bool false)], args := [d1, d2] }
  | _ => none }
def FnStreamPutInt32WrongFalsely : Prop := fnStreamPutInt32Row.holds Try.pinned (OpenSpec.ofChange fnStreamPutInt32Wrong)

/- THE SECOND FORM. 'bulk': how many values and letters a reading holds, each counted each time it is reached (what is shared counts as often as it is met; a slice's spare places count too). A statement '..UptoSaid' is the law's where the arguments, and the package variables that the reading takes, are together of bulk at most 1048576: NARROWER than '..Said'. Prove '..Said' where nothing that the law and all that it calls make is longer than what came in: it says more and counts as full. Else prove '..UptoSaid'. A law counts once. -/
mutual
def uptoBulk {H : Type} : DataW H → Nat
  | .lit (.string bytes) => bytes.length + 1
  | .lit _ => 1
  | .nil => 1
  | .ptr d => uptoBulk d + 1
  | .slice elems spare => uptoBulkAll elems + uptoBulkAll spare + 1
  | .agg parts => uptoBulkAll parts + 1
  | .iface _ d => uptoBulk d + 1
  | .map entries => uptoBulkEntries entries + 1
  | .held _ => 1
def uptoBulkAll {H : Type} : List (DataW H) → Nat
  | [] => 0
  | d :: r => uptoBulk d + uptoBulkAll r
def uptoBulkEntries {H : Type} : List (Lit × DataW H) → Nat
  | [] => 0
  | x :: r => uptoBulkEntry x + uptoBulkEntries r
def uptoBulkEntry {H : Type} : Lit × DataW H → Nat
  | (.string bytes, d) => bytes.length + uptoBulk d + 1
  | (_, d) => uptoBulk d + 1
 end
def uptoSmall : (H : Type) → List (DataW H) → Bool := fun _ ds => decide (uptoBulkAll ds ≤ 1048576)
def OpenSpec.upto (s : _root_.Go.ChangeSpec) : _root_.Go.OpenSpec := { _root_.Go.OpenSpec.ofChange s with cond := some uptoSmall }

/-- 'laws.FnStreamPutTextHead', WHERE WHAT IT READS IS OF BULK AT MOST 1048576: true; the input reads as it did. -/
def fnStreamPutTextHeadUptoRow : OpenClaim := { program := "ytapkehellkdkjaa", sum := "83832e93efdbfbda1f2102f225765fc01a7312776971d2884667e8d2f1112292", func := "given.example/pub-saddlebag/laws.FnStreamPutTextHead", spec := "fnStreamPutTextHead", unfollowed := true, recurses := true, apart := false, narrowed := true }
def FnStreamPutTextHeadUptoSaid : Prop := fnStreamPutTextHeadUptoRow.holds Try.pinned (OpenSpec.upto fnStreamPutTextHeadSpec)

/-- 'laws.FnStreamPutUint32', WHERE WHAT IT READS IS OF BULK AT MOST 1048576: true; the input reads as it did. -/
def fnStreamPutUint32UptoRow : OpenClaim := { program := "ytapkehellkdkjaa", sum := "83832e93efdbfbda1f2102f225765fc01a7312776971d2884667e8d2f1112292", func := "given.example/pub-saddlebag/laws.FnStreamPutUint32", spec := "fnStreamPutUint32", unfollowed := true, recurses := true, apart := false, narrowed := true }
def FnStreamPutUint32UptoSaid : Prop := fnStreamPutUint32UptoRow.holds Try.pinned (OpenSpec.upto fnStreamPutUint32Spec)

/-- 'laws.FnStreamPutInt32', WHERE WHAT IT READS IS OF BULK AT MOST 1048576: true; the input reads as it did. -/
def fnStreamPutInt32UptoRow : OpenClaim := { program := "ytapkehellkdkjaa", sum := "83832e93efdbfbda1f2102f225765fc01a7312776971d2884667e8d2f1112292", func := "given.example/pub-saddlebag/laws.FnStreamPutInt32", spec := "fnStreamPutInt32", unfollowed := true, recurses := true, apart := false, narrowed := true }
def FnStreamPutInt32UptoSaid : Prop := fnStreamPutInt32UptoRow.holds Try.pinned (OpenSpec.upto fnStreamPutInt32Spec)

end Rows
end Go.Proofs.Ytapkehellkdkjaa
