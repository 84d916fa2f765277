/-
  What the appending functions of msgp lean on: a copy of bytes (impl.copied), room behind a slice (msgp.ensure).
-/
import Derived.Test.YtapkehellkdkjaaProg
import Derived.Test.YtapkehellkdkjaaOwn
namespace Go.Proofs.Ytapkehellkdkjaa
set_option linter.unusedSimpArgs false
set_option linter.unusedVariables false
open Go.RowKit
theorem info5 : (Try.prog.info? 5).map (fun i => (i.zero, i.size, i.bytes)) = some (some (.int .u8 0), 1, 1) := by kernel_rfl
theorem make5 (c : Nat) (hc : c ≤ 281474976710656) : ∃ Z : List Value, Z.length = c ∧ ∀ W : World, (Instr.makeSlice 23 (.int .i64 (c : Int)) (.int .i64 (c : Int))).run Try.prog W = .ok (.slice (some ⟨W.heap.size, 0, none⟩) c c) (W.alloc (.cells Z.toArray 5)) := by
  obtain ⟨i0, hi0, hz0, hz1, hz2⟩ := info_parts info5
  refine ⟨(madeCells (Value.cells (.int .u8 0)) (c * 1)).toList, by simp [size_madeCells], fun W => ?_⟩
  have := run_make (P := Try.prog) W 23 5 i0 _ Try.underlying23 hi0 hz0 .i64 .i64 c c (by omega) (by omega) (by rw [hz2]; omega) (by omega)
  rw [hz1] at this
  simpa using this
end Go.Proofs.Ytapkehellkdkjaa
