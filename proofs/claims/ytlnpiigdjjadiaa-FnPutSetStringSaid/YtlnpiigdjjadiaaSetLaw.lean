/-
  Plain: the values of a list, each once, by their order, are the one list that is in order and has just these values.
-/
import Derived.Test.YtlnpiigdjjadiaaInSetP
namespace Go.Proofs.Ytlnpiigdjjadiaa
set_option linter.unusedSimpArgs false
set_option linter.unusedVariables false
/-- Each less than all behind it. -/
def Asc (l : List Int) : Prop := l.Pairwise (· < ·)
theorem Asc.ext : ∀ (a b : List Int), Asc a → Asc b → (∀ x, x ∈ a ↔ x ∈ b) → a = b
  | [], [], _, _, _ => rfl
  | [], y :: b, _, _, h => by have := (h y).2 (by simp); simp at this
  | x :: a, [], _, _, h => by have := (h x).1 (by simp); simp at this
  | x :: a, y :: b, ha, hb, h => by
    obtain ⟨hx, ha'⟩ := List.pairwise_cons.1 ha
    obtain ⟨hy, hb'⟩ := List.pairwise_cons.1 hb
    have e : x = y := by
      rcases List.mem_cons.1 ((h x).1 (by simp)) with h1 | h1
      · exact h1
      · rcases List.mem_cons.1 ((h y).2 (by simp)) with h2 | h2
        · exact h2.symm
        · have := hy x h1
          have := hx y h2
          omega
    subst e
    congr 1
    refine Asc.ext a b ha' hb' fun z => ⟨fun hz => ?_, fun hz => ?_⟩
    · rcases List.mem_cons.1 ((h z).1 (by simp [hz])) with h1 | h1
      · have := hx z hz
        omega
      · exact h1
    · rcases List.mem_cons.1 ((h z).2 (by simp [hz])) with h1 | h1
      · have := hy z hz
        omega
      · exact h1
theorem insL_nil (x : Int) : insL x [] = [x] := by simp [insL, ahead]
theorem insL_cons (x y : Int) (ys : List Int) : insL x (y :: ys) = if y < x then y :: insL x ys else if y = x then y :: ys else x :: y :: ys := by
  by_cases h : y < x
  · have e : ahead x (y :: ys) = ahead x ys + 1 := by simp [ahead, h]
    unfold insL
    rw [e, if_pos h]
    simp only [List.getElem?_cons_succ, List.take_succ_cons, List.drop_succ_cons]
    split <;> simp
  · have e : ahead x (y :: ys) = 0 := by simp [ahead, h]
    unfold insL
    rw [e, if_neg h]
    simp only [List.getElem?_cons_zero, List.take_zero, List.drop_zero, Option.some.injEq, List.nil_append]
theorem insL_mem (x : Int) : ∀ (ys : List Int) (z : Int), z ∈ insL x ys ↔ z = x ∨ z ∈ ys
  | [], z => by simp [insL_nil]
  | y :: ys, z => by
    rw [insL_cons]
    have ih := insL_mem x ys z
    split
    · rw [List.mem_cons, ih, List.mem_cons]
      constructor
      · rintro (h | h | h) <;> simp [h]
      · rintro (h | h | h) <;> simp [h]
    · split
      · rename_i h
        subst h
        simp
      · simp
theorem insL_asc (x : Int) : ∀ (ys : List Int), Asc ys → Asc (insL x ys)
  | [], _ => by rw [insL_nil]; exact List.pairwise_singleton _ _
  | y :: ys, h => by
    obtain ⟨hy, h'⟩ := List.pairwise_cons.1 h
    rw [insL_cons]
    split
    · rename_i hlt
      refine List.pairwise_cons.2 ⟨fun z hz => ?_, insL_asc x ys h'⟩
      rcases (insL_mem x ys z).1 hz with rfl | hz
      · exact hlt
      · exact hy z hz
    · split
      · exact h
      · refine List.pairwise_cons.2 ⟨fun z hz => ?_, h⟩
        rcases List.mem_cons.1 hz with rfl | hz
        · omega
        · have := hy z hz
          omega
theorem setL_both (zs : List Int) : Asc (setL zs) ∧ ∀ x, x ∈ setL zs ↔ x ∈ zs := by
  have h : ∀ (zs acc : List Int), Asc acc → Asc (zs.foldl (fun ys x => insL x ys) acc) ∧ ∀ x, x ∈ zs.foldl (fun ys x => insL x ys) acc ↔ x ∈ acc ∨ x ∈ zs := by
    intro zs
    induction zs with
    | nil => intro acc ha; exact ⟨ha, fun x => by simp⟩
    | cons z zs ih =>
      intro acc ha
      have h1 := ih (insL z acc) (insL_asc z acc ha)
      refine ⟨h1.1, fun x => ?_⟩
      rw [List.foldl_cons, h1.2 x, insL_mem, List.mem_cons]
      constructor
      · rintro ((h | h) | h) <;> simp [h]
      · rintro (h | h | h) <;> simp [h]
  have h2 := h zs [] List.Pairwise.nil
  exact ⟨h2.1, fun x => by rw [show setL zs = zs.foldl (fun ys x => insL x ys) [] from rfl, h2.2 x]; simp⟩
/-- The one list. -/
theorem setL_eq {zs ks : List Int} (h1 : Asc ks) (h2 : ∀ x, x ∈ ks ↔ x ∈ zs) : ks = setL zs :=
  Asc.ext _ _ h1 (setL_both zs).1 fun x => (h2 x).trans ((setL_both zs).2 x).symm
end Go.Proofs.Ytlnpiigdjjadiaa
