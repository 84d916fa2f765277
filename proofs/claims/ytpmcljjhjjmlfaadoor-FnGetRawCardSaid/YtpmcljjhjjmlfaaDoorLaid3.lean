/-
  Variables of the type error read again behind a call that leaves what was there. No condition.
-/
import Derived.Test.YtpmcljjhjjmlfaaDoorLaid1
open Go
namespace Go.Proofs.YtpmcljjhjjmlfaaDoor
set_option linter.unusedSimpArgs false
set_option linter.unusedVariables false
open Go.ChangeShapes Go.WideShapes Go.RowKit
theorem gRec : Tryd.prog.globalNamed "given.example/pub-saddlebag/pub/msgp/msgp.ErrRecursion" = some 2 := by kernel_rfl
theorem tRec : (Tryd.prog.globals[2]?).map (·.type) = some 51 := by kernel_rfl
theorem gFatal : Tryd.prog.globalNamed "given.example/pub-saddlebag/pub/msgp/msgp.fatal" = some 3 := by kernel_rfl
theorem tFatal : (Tryd.prog.globals[3]?).map (·.type) = some 51 := by kernel_rfl
theorem vars_keep {H : Type} {enc : TypeId × Value → H} {W W' : World} (hb : Below W.heap.size W W') (sp sp' : Nat → Bool) : ∀ (ns : List String) (gs : List (DataW H)) (q : List MemPlace),
    (∀ n ∈ ns, ∃ g, Tryd.prog.globalNamed n = some g ∧ (Tryd.prog.globals[g]?).map (·.type) = some 51) → DataW.TrodVars enc Tryd.prog W sp ns gs q → DataW.TrodVars enc Tryd.prog W' sp' ns gs q
  | [], gs, q, _, h => by
    obtain ⟨rfl, rfl⟩ := trodVars_none h
    exact rfl
  | n :: ns, [], q, _, h => by simp [DataW.TrodVars] at h
  | n :: ns, d :: gs, q, hn, h => by
    obtain ⟨g, t, cs, fuel, p, q', h1, h2, h3, h4, hs, e⟩ := h
    obtain ⟨g', k1, k2⟩ := hn n (by simp)
    obtain rfl := Option.some.inj (h1.symm.trans k1)
    obtain rfl := Option.some.inj (h2.symm.trans k2)
    obtain ⟨x, hcs, hx, he⟩ := held_of_trod_list Tryd.underlying51 h4
    have hlt : g < W.heap.size := by
      rcases Nat.lt_or_ge g W.heap.size with h' | h'
      · exact h'
      · simp [World.var?, h1, Array.getElem?_eq_none h'] at h3
    refine ⟨g, _, cs, 1, p, q', h1, h2, ?_, ?_, vars_keep hb sp sp' ns gs q' (fun n hn' => hn n (by simp [hn'])) hs, e⟩
    · have hblk := hb.block _ hlt
      rw [← h3]
      simp only [World.var?, h1, Option.bind_some, hblk]
    · rw [hcs, he]
      exact trod_held Tryd.underlying51 hx 0
theorem vars_back3 {H : Type} {enc : TypeId × Value → H} {W : World} {sp : Nat → Bool} {gs : List (DataW H)} {q : List MemPlace}
    (hV : DataW.TrodVars enc Tryd.prog W sp ["given.example/pub-saddlebag/pub/msgp/msgp.ErrRecursion", "given.example/pub-saddlebag/pub/msgp/msgp.ErrShortBytes", "given.example/pub-saddlebag/pub/msgp/msgp.fatal"] gs q) :
    ∃ d0 d1 d2, gs = [d0, d1, d2] ∧ ∀ (sp' : Nat → Bool) (W' : World), Below W.heap.size W W' → DataW.TrodVars enc Tryd.prog W' sp' ["given.example/pub-saddlebag/pub/msgp/msgp.ErrRecursion", "given.example/pub-saddlebag/pub/msgp/msgp.ErrShortBytes", "given.example/pub-saddlebag/pub/msgp/msgp.fatal"] [d0, d1, d2] q := by
  obtain ⟨d0, d1, d2, rfl⟩ : ∃ d0 d1 d2, gs = [d0, d1, d2] := by
    match gs, hV with
    | [d0, d1, d2], _ => exact ⟨_, _, _, rfl⟩
    | [], h => simp [DataW.TrodVars] at h
    | [_], h => simp [DataW.TrodVars] at h
    | [_, _], h => simp [DataW.TrodVars] at h
    | _ :: _ :: _ :: _ :: _, h => simp [DataW.TrodVars] at h
  refine ⟨d0, d1, d2, rfl, fun sp' W' hb => vars_keep hb sp sp' _ _ _ ?_ hV⟩
  intro n hn
  simp only [List.mem_cons, List.not_mem_nil, or_false] at hn
  rcases hn with rfl | rfl | rfl
  · exact ⟨_, gRec, tRec⟩
  · exact ⟨_, gShort, tShort⟩
  · exact ⟨_, gFatal, tFatal⟩
end Go.Proofs.YtpmcljjhjjmlfaaDoor
