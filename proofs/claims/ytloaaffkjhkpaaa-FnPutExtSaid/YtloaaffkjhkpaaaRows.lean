/-
  No cell of these rows narrows 'for every input' (looked for: loops, veiled, ifaces, maps, wideKeys, modest, calm, conditions, laid).
  DERIVED. THE GIVEN ROWS OF THIS SEAT. 5 by the template 'for every input the law returns true; each argument reads behind the call as it read before'; 0 by the template 'total and deterministic' (their statements: YtloaaffkjhkpaaaTotals.lean).
  GIVEN WITH THE SEED: the statements are not yours to turn. If you find one false, say at which input.
  Laid BY PROGRAM, IN A SANDBOX (cutbox-rows.mjs): the forced cells as the released guide's own fill.sh prints them over the translation e670f8a98e1fc80f… (all of the seat's roots in one cut). By AI agents, Wed Nov 11 2026. No macro, syntax, notation, axiom, sorry.
-/
import Derived.Test.YtloaaffkjhkpaaaChecked
import GoSem.Claim
import GoSem.ClaimJoined
import GoSem.ClaimMapViews
import Derived.JoinedTies
import Derived.KernelRfl
namespace Go.Proofs.Ytloaaffkjhkpaaa
/- THE CELL 'sum', in the pinned program and in every row, IS THE sha256 OF THE DUMP (.gsa) THAT YtloaaffkjhkpaaaProg.lean LOADS. Nothing in Lean hashes anything: it is a label: what it is worth is what the hold of that sum in a sandbox is worth. -/
noncomputable def Try.pinned : Pinned := { name := "ytloaaffkjhkpaaa", sum := "e670f8a98e1fc80fae4b5663efde132b7fb41198e3f803c0c53a5703457e3bf3", checked := Try.checked }
namespace Rows
def none {H : Type} : Left H := { results := [], args := [] }

/-- 'laws.FnPutFloat32': WHATEVER THE INPUT: true; the input reads as it did. -/
def fnPutFloat32Spec : ChangeSpec := { name := "fnPutFloat32", fn := fun _ => fun
  | [d1, d2] => { results := [.lit (.bool true)], args := [d1, d2] }
  | _ => none }
def fnPutFloat32Row : OpenClaim := { program := "ytloaaffkjhkpaaa", sum := "e670f8a98e1fc80fae4b5663efde132b7fb41198e3f803c0c53a5703457e3bf3", func := "given.example/pub-saddlebag/laws.FnPutFloat32", spec := "fnPutFloat32", inPlace := ["math.Float32frombits", "math.Float32bits"], recurses := true, apart := false }
def FnPutFloat32Said : Prop := fnPutFloat32Row.holds Try.pinned (OpenSpec.ofChange fnPutFloat32Spec)

/-- ITS FALSE NEIGHBOUR: 'it returns false'. Refute it at one input. -/
def fnPutFloat32Wrong : ChangeSpec := { name := "fnPutFloat32", fn := fun _ => fun
  | [d1, d2] => { results := [.lit (.bool false)], args := [d1, d2] }
  | _ => none }
def FnPutFloat32WrongFalsely : Prop := fnPutFloat32Row.holds Try.pinned (OpenSpec.ofChange fnPutFloat32Wrong)

/-- 'laws.FnPutUintN': WHATEVER THE INPUT: true; the input reads as it did. -/
def fnPutUintNSpec : ChangeSpec := { name := "fnPutUintN", fn := fun _ => fun
  | [d1, d2] => { results := [.lit (.bool true)], args := [d1, d2] }
  | _ => none }
def fnPutUintNRow : OpenClaim := { program := "ytloaaffkjhkpaaa", sum := "e670f8a98e1fc80fae4b5663efde132b7fb41198e3f803c0c53a5703457e3bf3", func := "given.example/pub-saddlebag/laws.FnPutUintN", spec := "fnPutUintN", recurses := true, apart := false }
def FnPutUintNSaid : Prop := fnPutUintNRow.holds Try.pinned (OpenSpec.ofChange fnPutUintNSpec)

/-- ITS FALSE NEIGHBOUR: 'it returns false'. Refute it at one input. -/
def fnPutUintNWrong : ChangeSpec := { name := "fnPutUintN", fn := fun _ => fun
  | [d1, d2] => { results := [.lit (.bool false)], args := [d1, d2] }
  | _ => none }
def FnPutUintNWrongFalsely : Prop := fnPutUintNRow.holds Try.pinned (OpenSpec.ofChange fnPutUintNWrong)

/-- 'laws.FnPutExt': WHATEVER THE INPUT: true; the input reads as it did. -/
def fnPutExtSpec : ChangeSpec := { name := "fnPutExt", fn := fun _ => fun
  | [d1, d2, d3] => { results := [.lit (.bool true)], args := [d1, d2, d3] }
  | _ => none }
def fnPutExtRow : OpenClaim := { program := "ytloaaffkjhkpaaa", sum := "e670f8a98e1fc80fae4b5663efde132b7fb41198e3f803c0c53a5703457e3bf3", func := "given.example/pub-saddlebag/laws.FnPutExt", spec := "fnPutExt", unfollowed := true, recurses := true, named := ["encoding/binary.BigEndian"], apart := false }
def FnPutExtSaid : Prop := fnPutExtRow.holds Try.pinned (OpenSpec.ofChange fnPutExtSpec)

/-- ITS FALSE NEIGHBOUR: 'it returns false'. Refute it at one input. -/
def fnPutExtWrong : ChangeSpec := { name := "fnPutExt", fn := fun _ => fun
  | [d1, d2, d3] => { results := [.lit (.bool false)], args := [d1, d2, d3] }
  | _ => none }
def FnPutExtWrongFalsely : Prop := fnPutExtRow.holds Try.pinned (OpenSpec.ofChange fnPutExtWrong)

/-- 'laws.FnPutIntN': WHATEVER THE INPUT: true; the input reads as it did. -/
def fnPutIntNSpec : ChangeSpec := { name := "fnPutIntN", fn := fun _ => fun
  | [d1, d2] => { results := [.lit (.bool true)], args := [d1, d2] }
  | _ => none }
def fnPutIntNRow : OpenClaim := { program := "ytloaaffkjhkpaaa", sum := "e670f8a98e1fc80fae4b5663efde132b7fb41198e3f803c0c53a5703457e3bf3", func := "given.example/pub-saddlebag/laws.FnPutIntN", spec := "fnPutIntN", recurses := true, apart := false }
def FnPutIntNSaid : Prop := fnPutIntNRow.holds Try.pinned (OpenSpec.ofChange fnPutIntNSpec)

/-- ITS FALSE NEIGHBOUR: 'it returns false'. Refute it at one input. -/
def fnPutIntNWrong : ChangeSpec := { name := "fnPutIntN", fn := fun _ => fun
  | [d1, d2] => { results := [.lit (.bool false)], args := [d1, d2] }
  | _ => none }
def FnPutIntNWrongFalsely : Prop := fnPutIntNRow.holds Try.pinned (OpenSpec.ofChange fnPutIntNWrong)

/-- 'laws.FnPutDuration': WHATEVER THE INPUT: true; the input reads as it did. -/
def fnPutDurationSpec : ChangeSpec := { name := "fnPutDuration", fn := fun _ => fun
  | [d1, d2] => { results := [.lit (.bool true)], args := [d1, d2] }
  | _ => none }
def fnPutDurationRow : OpenClaim := { program := "ytloaaffkjhkpaaa", sum := "e670f8a98e1fc80fae4b5663efde132b7fb41198e3f803c0c53a5703457e3bf3", func := "given.example/pub-saddlebag/laws.FnPutDuration", spec := "fnPutDuration", recurses := true, apart := false }
def FnPutDurationSaid : Prop := fnPutDurationRow.holds Try.pinned (OpenSpec.ofChange fnPutDurationSpec)

/-- ITS FALSE NEIGHBOUR: 'it returns false'. Refute it at one input. -/
def fnPutDurationWrong : ChangeSpec := { name := "fnPutDuration", fn := fun _ => fun
  | [d1, d2] => { results := [.lit (.bool false)], args := [d1, d2] }
  | _ => none }
def FnPutDurationWrongFalsely : Prop := fnPutDurationRow.holds Try.pinned (OpenSpec.ofChange fnPutDurationWrong)

/- THE SECOND FORM. 'bulk': how many values and letters a reading holds, each counted each time it is reached (what is shared counts as often as it is met; a slice's spare places count too). A statement '..UptoSaid' is the law's where the arguments, and the package variables that the reading takes, are together of bulk at most 1048576: NARROWER than '..Said'. Prove '..Said' where nothing that the law and all that it calls make is longer than what came in: it says more and counts as full. Else prove '..UptoSaid'. A law counts once. -/
mutual
def uptoBulk {H : Type} : DataW H → Nat
  | .lit (.string bytes) => bytes.length + 1
  | .lit _ => 1
  | .nil => 1
  | .ptr d => uptoBulk d + 1
  | .slice elems spare => uptoBulkAll elems + uptoBulkAll spare + 1
  | .agg parts => uptoBulkAll parts + 1
  | .iface _ d => uptoBulk d + 1
  | .map entries => uptoBulkEntries entries + 1
  | .held _ => 1
def uptoBulkAll {H : Type} : List (DataW H) → Nat
  | [] => 0
  | d :: r => uptoBulk d + uptoBulkAll r
def uptoBulkEntries {H : Type} : List (Lit × DataW H) → Nat
  | [] => 0
  | x :: r => uptoBulkEntry x + uptoBulkEntries r
def uptoBulkEntry {H : Type} : Lit × DataW H → Nat
  | (.string bytes, d) => bytes.length + uptoBulk d + 1
  | (_, d) => uptoBulk d + 1
 end
def uptoSmall : (H : Type) → List (DataW H) → Bool := fun _ ds => decide (uptoBulkAll ds ≤ 1048576)
def OpenSpec.upto (s : _root_.Go.ChangeSpec) : _root_.Go.OpenSpec := { _root_.Go.OpenSpec.ofChange s with cond := some uptoSmall }

/-- 'laws.FnPutFloat32', WHERE WHAT IT READS IS OF BULK AT MOST 1048576: true; the input reads as it did. -/
def fnPutFloat32UptoRow : OpenClaim := { program := "ytloaaffkjhkpaaa", sum := "e670f8a98e1fc80fae4b5663efde132b7fb41198e3f803c0c53a5703457e3bf3", func := "given.example/pub-saddlebag/laws.FnPutFloat32", spec := "fnPutFloat32", inPlace := ["math.Float32frombits", "math.Float32bits"], recurses := true, apart := false, narrowed := true }
def FnPutFloat32UptoSaid : Prop := fnPutFloat32UptoRow.holds Try.pinned (OpenSpec.upto fnPutFloat32Spec)

/-- 'laws.FnPutUintN', WHERE WHAT IT READS IS OF BULK AT MOST 1048576: true; the input reads as it did. -/
def fnPutUintNUptoRow : OpenClaim := { program := "ytloaaffkjhkpaaa", sum := "e670f8a98e1fc80fae4b5663efde132b7fb41198e3f803c0c53a5703457e3bf3", func := "given.example/pub-saddlebag/laws.FnPutUintN", spec := "fnPutUintN", recurses := true, apart := false, narrowed := true }
def FnPutUintNUptoSaid : Prop := fnPutUintNUptoRow.holds Try.pinned (OpenSpec.upto fnPutUintNSpec)

/-- 'laws.FnPutExt', WHERE WHAT IT READS IS OF BULK AT MOST 1048576: true; the input reads as it did. -/
def fnPutExtUptoRow : OpenClaim := { program := "ytloaaffkjhkpaaa", sum := "e670f8a98e1fc80fae4b5663efde132b7fb41198e3f803c0c53a5703457e3bf3", func := "given.example/pub-saddlebag/laws.FnPutExt", spec := "fnPutExt", unfollowed := true, recurses := true, named := ["encoding/binary.BigEndian"], apart := false, narrowed := true }
def FnPutExtUptoSaid : Prop := fnPutExtUptoRow.holds Try.pinned (OpenSpec.upto fnPutExtSpec)

/-- 'laws.FnPutIntN', WHERE WHAT IT READS IS OF BULK AT MOST 1048576: true; the input reads as it did. -/
def fnPutIntNUptoRow : OpenClaim := { program := "ytloaaffkjhkpaaa", sum := "e670f8a98e1fc80fae4b5663efde132b7fb41198e3f803c0c53a5703457e3bf3", func := "given.example/pub-saddlebag/laws.FnPutIntN", spec := "fnPutIntN", recurses := true, apart := false, narrowed := true }
def FnPutIntNUptoSaid : Prop := fnPutIntNUptoRow.holds Try.pinned (OpenSpec.upto fnPutIntNSpec)

/-- 'laws.FnPutDuration', WHERE WHAT IT READS IS OF BULK AT MOST 1048576: true; the input reads as it did. -/
def fnPutDurationUptoRow : OpenClaim := { program := "ytloaaffkjhkpaaa", sum := "e670f8a98e1fc80fae4b5663efde132b7fb41198e3f803c0c53a5703457e3bf3", func := "given.example/pub-saddlebag/laws.FnPutDuration", spec := "fnPutDuration", recurses := true, apart := false, narrowed := true }
def FnPutDurationUptoSaid : Prop := fnPutDurationUptoRow.holds Try.pinned (OpenSpec.upto fnPutDurationSpec)

end Rows
end Go.Proofs.Ytloaaffkjhkpaaa
