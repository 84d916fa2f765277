/-
  spec.Packs, spec.packFits: a value of MessagePack counted and looked at. Conditions: it reads as a value in memory.
-/
import Derived.Test.YtlnpiigdjjadiaaDoorGGetSetBytep
import Derived.Deep.DeepCutAuto
namespace Go.Proofs.YtlnpiigdjjadiaaDoor
set_option linter.unusedSimpArgs false
set_option linter.unusedVariables false
set_option linter.unusedVariables false
open Go.RowKit
theorem PackC.cells {w : World} {S : Nat → Prop} {p : Pack} {c0 c1 c2 c3 c4 : Value} (h : PackC w S p [c0, c1, c2, c3, c4]) :
    ∃ k n t e K m kc, c0 = .int .i64 k ∧ c1 = .int .u64 n ∧ c2 = .string t ∧ c3 = .int .i64 e ∧ c4 = .slice K m kc := by
  cases p with
  | mk k n t e ps =>
  unfold PackC at h
  obtain ⟨K, kc, xs, hc, _⟩ := h
  simp only [List.cons.injEq, and_true] at hc
  obtain ⟨rfl, rfl, rfl, rfl, rfl⟩ := hc
  exact ⟨_, _, _, _, _, _, _, rfl, rfl, rfl, rfl, rfl⟩
theorem cnts_le : ∀ (ps : List Pack) (k : Nat), cnts (ps.take k) ≤ cnts ps
  | [], k => by simp
  | p :: ps, 0 => by simp [cnts]
  | p :: ps, k + 1 => by
    have := cnts_le ps k
    simp only [List.take_succ_cons, cnts]
    omega
end Go.Proofs.YtlnpiigdjjadiaaDoor
