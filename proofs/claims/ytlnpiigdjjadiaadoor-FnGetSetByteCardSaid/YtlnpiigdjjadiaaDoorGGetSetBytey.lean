/-
  What the condition 'msgp.ErrShortBytes is laid' gives a walk (its cell holds an interface value that is not nil), and the variable read again behind a call. The rows' condition.
-/
import Derived.Test.YtlnpiigdjjadiaaDoorRows
import Derived.Test.YtlnpiigdjjadiaaDoorGGetSetBytea
import Derived.LaidLaws
import Derived.RowKitTokens
import Derived.ChangeVars
import Derived.MakeChecks
import Derived.Below
open Go
namespace Go.Proofs.YtlnpiigdjjadiaaDoor
set_option linter.unusedSimpArgs false
set_option linter.unusedVariables false
open Go.ChangeShapes Go.WideShapes Go.RowKit
theorem gShort : Tryd.prog.globalNamed "given.example/pub-saddlebag/pub/msgp/msgp.ErrShortBytes" = some 0 := by kernel_rfl
theorem tShort : (Tryd.prog.globals[0]?).map (·.type) = some 62 := by kernel_rfl
theorem at_of_laidMet {W : World} {l : List (String × DataW Unit)} (h : laidMet Tryd.prog (("given.example/pub-saddlebag/pub/msgp/msgp.ErrShortBytes", Rows.laid_given_example_pub_saddlebag_pub_msgp_msgp_ErrShortBytes) :: l) W) :
    ∃ u v, W.cell? ⟨0, 0, none⟩ = some (.iface u v) ∧ W.var? Tryd.prog "given.example/pub-saddlebag/pub/msgp/msgp.ErrShortBytes" = some #[.iface u v] ∧ 0 < W.heap.size := by
  obtain ⟨ps, ⟨g0, t0, cs0, f0, p0, q0, hg0, ht0, hv0, hd0, _⟩, _⟩ := h
  obtain rfl := Option.some.inj (gShort.symm.trans hg0)
  obtain rfl := Option.some.inj (tShort.symm.trans ht0)
  obtain ⟨l0⟩ := cs0
  obtain ⟨f1, u, v, e, _, _⟩ := iface_of_trod Tryd.underlying62 hd0
  subst e
  refine ⟨u, v, by simpa using World.var?_cell hg0 hv0 0, hv0, ?_⟩
  rcases Nat.lt_or_ge 0 W.heap.size with h' | h'
  · exact h'
  · simp [World.var?, hg0, Array.getElem?_eq_none h'] at hv0
theorem vars_back {H : Type} {enc : TypeId × Value → H} {W : World} {u : TypeId} {v : Value} {sp : Nat → Bool} {gs : List (DataW H)} {q : List MemPlace}
    (hv : W.var? Tryd.prog "given.example/pub-saddlebag/pub/msgp/msgp.ErrShortBytes" = some #[.iface u v]) (hlt : 0 < W.heap.size)
    (hV : DataW.TrodVars enc Tryd.prog W sp ["given.example/pub-saddlebag/pub/msgp/msgp.ErrShortBytes"] gs q) :
    ∃ d, gs = [d] ∧ ∀ (sp' : Nat → Bool) (W' : World), Below W.heap.size W W' → DataW.TrodVars enc Tryd.prog W' sp' ["given.example/pub-saddlebag/pub/msgp/msgp.ErrShortBytes"] [d] q := by
  obtain ⟨g, t, cs, fuel, d, p, rfl, hg, ht, hv', hd, rfl⟩ := trodVars_one hV
  obtain rfl := Option.some.inj (gShort.symm.trans hg)
  obtain rfl := Option.some.inj (tShort.symm.trans ht)
  obtain rfl := Option.some.inj (hv.symm.trans hv')
  obtain ⟨hi, he⟩ := held_of_trod Tryd.underlying62 hd
  refine ⟨d, rfl, fun sp' W' hb => trodVars_mk1 (fuel := 1) hg ht ?_ ?_⟩
  · have hblk := hb.block _ hlt
    rw [← hv]
    simp only [World.var?, hg, Option.bind_some, hblk]
  · rw [he]
    exact trod_held Tryd.underlying62 hi 0
end Go.Proofs.YtlnpiigdjjadiaaDoor
