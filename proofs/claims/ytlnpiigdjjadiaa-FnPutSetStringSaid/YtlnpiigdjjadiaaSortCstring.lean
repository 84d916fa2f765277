/-
  sort.Strings as XMarshstring asks for it. Conditions: none.
-/
import Derived.Test.YtlnpiigdjjadiaaMarshstring
import Derived.Test.YtlnpiigdjjadiaaLayStr
import Derived.Sort.OwnSorted
namespace Go.Proofs.Ytlnpiigdjjadiaa
set_option linter.unusedSimpArgs false
set_option linter.unusedVariables false
set_option linter.unusedVariables false
open Go.RowKit Go.Sort Go.Shelf
theorem leS_total (x y : Str) : (decide (x ≤ y) || decide (y ≤ x)) = true := by
  rcases List.le_total x y with h | h <;> simp [h]
theorem leS_trans (x y z : Str) (h1 : decide (x ≤ y) = true) (h2 : decide (y ≤ z) = true) : decide (x ≤ z) = true := by
  simp only [decide_eq_true_eq] at *
  exact List.le_trans h1 h2
theorem sortC_string : SortC_string := by
  intro base m cap ad ks W hown hm
  rcases hown.2 with ⟨hnil, _⟩ | ⟨g, c, cur, hv, hbase, hb, h1, h2, h3, h4⟩
  · cases hnil
  · cases hv
    have hl : ks.length = m := by simpa using hown.1
    subst hl
    have hH : Holds encStr W g 0 ks.toArray := holds_of_block hb (by simpa using h4)
    have hcon := Try.sort_Strings g 0 cap ks W hH (Array.getElem?_eq_some_iff.1 hb).1 (by omega)
    refine hcon.mono ?_
    rintro e w' ⟨rfl, n, os, rfl⟩
    have hperm : (ks.mergeSort fun x y => decide (x ≤ y)).Perm ks := List.mergeSort_perm ks _
    have hs := List.pairwise_mergeSort leS_trans leS_total ks
    refine ⟨rfl, _, hperm, hs.imp (fun h => of_decide_eq_true h), ?_, ?_⟩
    · exact ownsRow_sorted hperm.length_eq hbase hb h1 h2 h3
    · exact grownBy_sorted _
end Go.Proofs.Ytlnpiigdjjadiaa
