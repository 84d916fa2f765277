/-
  laws.buffers of a buffer's and a piece's size. No condition.
-/
import Derived.Test.YtpadbpmnejgckaaDoorSPut
namespace Go.Proofs.YtpadbpmnejgckaaDoor
set_option linter.unusedSimpArgs false
set_option linter.unusedVariables false
set_option linter.unusedVariables false
open Go.RowKit
theorem infoPk : (Tryd.prog.info? 25).map (fun i => (i.zero, i.size, i.bytes)) = some (some (.agg #[.int .i64 0, .int .u64 0, .string ⟨#[]⟩, .int .i64 0, .slice none 0 0]), 5, 64) := by kernel_rfl
def Asked (b q : Int) : Prop := 18 ≤ b ∧ b ≤ 65536 ∧ 1 ≤ q ∧ q ≤ 65536
theorem buffers2_yes (b q : Int) (h : Asked b q) (w : World) : Calls Tryd.prog 28 #[.int .i64 b, .int .i64 q] w fun e w' => e = .returned (.bool true) ∧ w = w' := by
  obtain ⟨h1, h2, h3, h4⟩ := h
  go_enter Tryd.func28, Tryd.ntmps28
  go_wp2
  go_ret
  exact ⟨rfl, rfl⟩
theorem buffers2_no (b q : Int) (h : ¬ Asked b q) (w : World) : Calls Tryd.prog 28 #[.int .i64 b, .int .i64 q] w fun e w' => e = .returned (.bool false) ∧ w = w' := by
  have hc : ¬ 18 ≤ b ∨ (18 ≤ b ∧ ¬ b ≤ 65536) ∨ (18 ≤ b ∧ b ≤ 65536 ∧ ¬ 1 ≤ q) ∨ (18 ≤ b ∧ b ≤ 65536 ∧ 1 ≤ q ∧ ¬ q ≤ 65536) := by unfold Asked at h; omega
  clear h
  rcases hc with h1 | ⟨h1, h2⟩ | ⟨h1, h2, h3⟩ | ⟨h1, h2, h3, h4⟩
  all_goals (
    go_enter Tryd.func28, Tryd.ntmps28
    go_wp2
    go_ret
    exact ⟨rfl, rfl⟩)
end Go.Proofs.YtpadbpmnejgckaaDoor
