/-
  Variables of the type error read again behind a call that leaves what was there. No condition.
-/
import Derived.Test.YtpadbpmnejgckaaDoorProg
import Derived.Test.YtpadbpmnejgckaaDoorWords
import Derived.LaidLaws
import Derived.RowKitTokens
import Derived.ChangeVars
import Derived.MakeChecks
import Derived.Below
open Go
namespace Go.Proofs.YtpadbpmnejgckaaDoor
set_option linter.unusedSimpArgs false
set_option linter.unusedVariables false
open Go.ChangeShapes Go.WideShapes Go.RowKit
theorem vars_kept {H : Type} {enc : TypeId × Value → H} {W W' : World} (hb : Below W.heap.size W W') (sp sp' : Nat → Bool) : ∀ (ns : List String) (gs : List (DataW H)) (q : List MemPlace),
    (∀ n ∈ ns, ∃ g, Tryd.prog.globalNamed n = some g ∧ (Tryd.prog.globals[g]?).map (·.type) = some 90) → DataW.TrodVars enc Tryd.prog W sp ns gs q → DataW.TrodVars enc Tryd.prog W' sp' ns gs q
  | [], gs, q, _, h => by
    obtain ⟨rfl, rfl⟩ := trodVars_none h
    exact rfl
  | n :: ns, [], q, _, h => by simp [DataW.TrodVars] at h
  | n :: ns, d :: gs, q, hn, h => by
    obtain ⟨g, t, cs, fuel, p, q', h1, h2, h3, h4, hs, e⟩ := h
    obtain ⟨g', k1, k2⟩ := hn n (by simp)
    obtain rfl := Option.some.inj (h1.symm.trans k1)
    obtain rfl := Option.some.inj (h2.symm.trans k2)
    obtain ⟨x, hcs, hx, he⟩ := held_of_trod_list Tryd.underlying90 h4
    have hlt : g < W.heap.size := by
      rcases Nat.lt_or_ge g W.heap.size with h' | h'
      · exact h'
      · simp [World.var?, h1, Array.getElem?_eq_none h'] at h3
    refine ⟨g, _, cs, 1, p, q', h1, h2, ?_, ?_, vars_kept hb sp sp' ns gs q' (fun n hn' => hn n (by simp [hn'])) hs, e⟩
    · have hblk := hb.block _ hlt
      rw [← h3]
      simp only [World.var?, h1, Option.bind_some, hblk]
    · rw [hcs, he]
      exact trod_held Tryd.underlying90 hx 0
end Go.Proofs.YtpadbpmnejgckaaDoor
