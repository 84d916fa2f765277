/-
  slices.SortFunc at []int64 with the comparing closure of setof.Int64Sorted. Conditions: none.
-/
import Derived.Test.YtlnpiigdjjadiaaMarshint64
import Derived.Test.YtlnpiigdjjadiaaSorted
import Derived.Test.YtlnpiigdjjadiaaLaySort
namespace Go.Proofs.Ytlnpiigdjjadiaa
set_option linter.unusedSimpArgs false
set_option linter.unusedVariables false
set_option linter.unusedVariables false
open Go.RowKit Go.Sort Go.Shelf
theorem cmp_int64 (x y : Int) (W : World) : Calls Try.prog 36 #[.int .i64 x, .int .i64 y] W fun e w' => e = .returned (.int .i64 (cmpI x y)) ∧ ∃ q, w' = W.drewN q := by
  by_cases h : x < y
  · have e : cmpI x y = -1 := by simp [cmpI, h]
    rw [e]
    go_enter Try.func36, Try.ntmps36
    go_wp2
    go_ret
    exact ⟨rfl, 0, rfl⟩
  · have e : cmpI x y = 1 := by simp [cmpI, h]
    rw [e]
    go_enter Try.func36, Try.ntmps36
    go_wp2
    go_ret
    exact ⟨rfl, 0, rfl⟩
theorem sortC_int64 : SortC_int64 := by
  intro base m cap ad ks W hown hm
  have eg : ∀ args w, (callFunc 36 args).run Try.prog w = .ok (.enter 36 args) w := enters_of Try.func36 (by kernel_rfl) rfl
  rcases hown.2 with ⟨hnil, _⟩ | ⟨g, c, cur, hv, hbase, hb, h1, h2, h3, h4⟩
  · cases hnil
  · cases hv
    have hl : ks.length = m := by simpa using hown.1
    have hH : Holds (Value.int .i64) W g 0 ks.toArray := holds_ints hb (by rw [hl]; simpa using h4)
    have hcmp : CmpReads Try.prog 36 #[] (Value.int .i64) cmpI g 0 ks.toArray.size W := fun _ _ _ _ x y => cmp_int64 x y _
    have hcon := Any.slices_SortFunc Try.sortI64 (Value.int .i64) (fun _ => rfl) cmpI swo_cmpI 36 #[] g 0 cap ks.toArray W eg hcmp.lays hH (Array.getElem?_eq_some_iff.1 hb).1 (by simp; omega)
    have es : ks.toArray.size = m := by simpa using hl
    rw [es] at hcon
    refine hcon.mono ?_
    rintro e w' ⟨rfl, d', n, os, hp, hs, rfl⟩
    have hp' : d'.toList.Perm ks := perm_of_in (by rw [es]; exact hp)
    have hdl : d'.toList.length = m := by rw [hp'.length_eq, hl]
    have hds : d'.size = m := by simpa using hdl
    refine ⟨rfl, d'.toList, hp', sorted_of_in hds.symm hs, ?_, ?_⟩
    · unfold sortWorld
      have := ownsRow_sortedI (enc := Value.int .i64) (n := n) (os := os) (ts := d'.toList) hdl hbase hb h1 h2 h3
      simpa using this
    · unfold sortWorld
      exact grownBy_sortedI _
end Go.Proofs.Ytlnpiigdjjadiaa
