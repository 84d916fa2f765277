/-
  A table of integers that a row lists behind others. No condition.
-/
import Derived.Test.YtlnpiigdjjadiaaDoorProg
import Derived.Lib.LaidTab
namespace Go.Proofs.YtlnpiigdjjadiaaDoor
set_option linter.unusedSimpArgs false
set_option linter.unusedVariables false
theorem laidMet_tailT {P : Program} {x : String × DataW Unit} {rest : List (String × DataW Unit)} {W : World} (h : laidMet P (x :: rest) W) : laidMet P rest W := by
  obtain ⟨ps, ⟨g, t, cs, fuel, p, q, _, _, _, _, hq, rfl⟩, hnd, hall⟩ := h
  exact ⟨q, hq, (List.nodup_append.1 hnd).2.1, fun b off hm => hall b off (List.mem_append_right _ hm)⟩
end Go.Proofs.YtlnpiigdjjadiaaDoor
