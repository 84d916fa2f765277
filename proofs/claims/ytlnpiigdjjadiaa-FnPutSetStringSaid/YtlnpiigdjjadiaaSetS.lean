/-
  Plain: a list's texts, each once, by their order. No condition.
-/
import Derived.Test.YtlnpiigdjjadiaaOwn
import Derived.Sort.Defs
namespace Go.Proofs.Ytlnpiigdjjadiaa
set_option linter.unusedSimpArgs false
set_option linter.unusedVariables false
set_option linter.unusedVariables false
open Go.RowKit
abbrev Str := List UInt8
/-- A text in a cell. -/
abbrev encS (s : Str) : Value := .string ⟨s.toArray⟩
theorem bytesLessS : ∀ (x y : Str), Op.bytesLess x y = decide (x < y)
  | [], [] => by simp [Op.bytesLess]
  | _ :: _, [] => by simp [Op.bytesLess]
  | [], _ :: _ => by simp [Op.bytesLess]
  | a :: x, b :: y => by
    rw [Op.bytesLess, bytesLessS x y]
    simp only [List.cons_lt_cons_iff]
    by_cases h1 : a < b <;> by_cases h2 : a = b <;> by_cases h3 : x < y <;> simp [h1, h2, h3]
theorem less_yes {x y : Str} (h : x < y) : Op.bytesLess x y = true := by rw [bytesLessS]; simpa using h
theorem less_no {x y : Str} (h : ¬ x < y) : Op.bytesLess x y = false := by rw [bytesLessS]; exact decide_eq_false h
theorem strs_one (xs : List Str) : ∀ u ∈ xs.map encS, u.oneCell' = true := by
  intro u hu
  obtain ⟨x, _, rfl⟩ := List.mem_map.1 hu
  rfl
theorem str_irrefl (x : Str) : ¬ x < x := List.lt_irrefl x
theorem str_tri {x y : Str} (h1 : ¬ x < y) (h2 : ¬ y < x) : x = y := List.le_antisymm (List.not_lt.1 h2) (List.not_lt.1 h1)
/-- How many stand aheadS of x. -/
def aheadS (x : Str) : List Str → Nat
  | [] => 0
  | y :: ys => if y < x then aheadS x ys + 1 else 0
theorem aheadS_le (x : Str) : ∀ ys, aheadS x ys ≤ ys.length
  | [] => Nat.le_refl _
  | y :: ys => by
    unfold aheadS
    split
    · have := aheadS_le x ys
      simp
      omega
    · omega
theorem aheadS_lt (x : Str) : ∀ (ys : List Str) (j : Nat) (h : j < aheadS x ys), ∃ h2 : j < ys.length, ys[j] < x
  | [], j, h => by simp [aheadS] at h
  | y :: ys, j, h => by
    unfold aheadS at h
    split at h
    · rename_i hy
      rcases j with _ | j
      · exact ⟨by simp, hy⟩
      · obtain ⟨h2, h3⟩ := aheadS_lt x ys j (by omega)
        exact ⟨by simp; omega, by simpa using h3⟩
    · omega
theorem aheadS_at (x : Str) : ∀ (ys : List Str) (h : aheadS x ys < ys.length), ¬ ys[aheadS x ys] < x
  | [], h => by simp at h
  | y :: ys, h => by
    by_cases hy : y < x
    · have e : aheadS x (y :: ys) = aheadS x ys + 1 := by simp [aheadS, hy]
      have h2 : aheadS x ys < ys.length := by rw [e] at h; simp at h; omega
      have h3 := aheadS_at x ys h2
      have e2 : (y :: ys)[aheadS x (y :: ys)] = ys[aheadS x ys] := by
        have : (y :: ys)[aheadS x (y :: ys)]? = ys[aheadS x ys]? := by rw [e]; rfl
        rw [List.getElem?_eq_getElem h, List.getElem?_eq_getElem h2] at this
        exact Option.some.inj this
      rw [e2]
      exact h3
    · have e : aheadS x (y :: ys) = 0 := by simp [aheadS, hy]
      have e2 : (y :: ys)[aheadS x (y :: ys)] = y := by
        have : (y :: ys)[aheadS x (y :: ys)]? = some y := by rw [e]; rfl
        rw [List.getElem?_eq_getElem h] at this
        exact Option.some.inj this
      rw [e2]
      exact hy
/-- x laid into a list that is in order, unless it is there. -/
def insS (x : Str) (ys : List Str) : List Str := if ys[aheadS x ys]? = some x then ys else ys.take (aheadS x ys) ++ x :: ys.drop (aheadS x ys)
def setS (zs : List Str) : List Str := zs.foldl (fun ys x => insS x ys) []
theorem setS_snoc (zs : List Str) (x : Str) : setS (zs ++ [x]) = insS x (setS zs) := by simp [setS]
theorem insS_len (x : Str) (ys : List Str) : (insS x ys).length ≤ ys.length + 1 := by
  unfold insS
  split
  · omega
  · rw [List.length_append, List.length_cons, List.length_take, List.length_drop]
    have := aheadS_le x ys
    omega
theorem setS_len (zs : List Str) : (setS zs).length ≤ zs.length := by
  have h : ∀ (zs acc : List Str), (zs.foldl (fun ys x => insS x ys) acc).length ≤ acc.length + zs.length := by
    intro zs
    induction zs with
    | nil => intro acc; simp
    | cons z zs ih =>
      intro acc
      have h1 := ih (insS z acc)
      have h2 := insS_len z acc
      rw [List.foldl_cons, List.length_cons]
      omega
  have := h zs []
  simpa [setS] using this
/-- Each less than all behind it. -/
def AscS (l : List Str) : Prop := l.Pairwise (· < ·)
theorem AscS.ext : ∀ (a b : List Str), AscS a → AscS b → (∀ x, x ∈ a ↔ x ∈ b) → a = b
  | [], [], _, _, _ => rfl
  | [], y :: b, _, _, h => by have := (h y).2 (by simp); simp at this
  | x :: a, [], _, _, h => by have := (h x).1 (by simp); simp at this
  | x :: a, y :: b, ha, hb, h => by
    obtain ⟨hx, ha'⟩ := List.pairwise_cons.1 ha
    obtain ⟨hy, hb'⟩ := List.pairwise_cons.1 hb
    have e : x = y := by
      rcases List.mem_cons.1 ((h x).1 (by simp)) with h1 | h1
      · exact h1
      · rcases List.mem_cons.1 ((h y).2 (by simp)) with h2 | h2
        · exact h2.symm
        · exact absurd (List.lt_trans (hy x h1) (hx y h2)) (str_irrefl y)
    subst e
    congr 1
    refine AscS.ext a b ha' hb' fun z => ⟨fun hz => ?_, fun hz => ?_⟩
    · rcases List.mem_cons.1 ((h z).1 (by simp [hz])) with h1 | h1
      · exact absurd (h1 ▸ hx z hz) (str_irrefl x)
      · exact h1
    · rcases List.mem_cons.1 ((h z).2 (by simp [hz])) with h1 | h1
      · exact absurd (h1 ▸ hy z hz) (str_irrefl x)
      · exact h1
theorem insS_nil (x : Str) : insS x [] = [x] := by simp [insS, aheadS]
theorem insS_cons (x y : Str) (ys : List Str) : insS x (y :: ys) = if y < x then y :: insS x ys else if y = x then y :: ys else x :: y :: ys := by
  by_cases h : y < x
  · have e : aheadS x (y :: ys) = aheadS x ys + 1 := by simp [aheadS, h]
    unfold insS
    rw [e, if_pos h]
    simp only [List.getElem?_cons_succ, List.take_succ_cons, List.drop_succ_cons]
    split <;> simp
  · have e : aheadS x (y :: ys) = 0 := by simp [aheadS, h]
    unfold insS
    rw [e, if_neg h]
    simp only [List.getElem?_cons_zero, List.take_zero, List.drop_zero, Option.some.injEq, List.nil_append]
theorem insS_mem (x : Str) : ∀ (ys : List Str) (z : Str), z ∈ insS x ys ↔ z = x ∨ z ∈ ys
  | [], z => by simp [insS_nil]
  | y :: ys, z => by
    rw [insS_cons]
    have ih := insS_mem x ys z
    split
    · rw [List.mem_cons, ih, List.mem_cons]
      constructor
      · rintro (h | h | h) <;> simp [h]
      · rintro (h | h | h) <;> simp [h]
    · split
      · rename_i h
        subst h
        simp
      · simp
theorem insS_asc (x : Str) : ∀ (ys : List Str), AscS ys → AscS (insS x ys)
  | [], _ => by rw [insS_nil]; exact List.pairwise_singleton _ _
  | y :: ys, h => by
    obtain ⟨hy, h'⟩ := List.pairwise_cons.1 h
    rw [insS_cons]
    split
    · rename_i hlt
      refine List.pairwise_cons.2 ⟨fun z hz => ?_, insS_asc x ys h'⟩
      rcases (insS_mem x ys z).1 hz with rfl | hz
      · exact hlt
      · exact hy z hz
    · split
      · exact h
      · refine List.pairwise_cons.2 ⟨fun z hz => ?_, h⟩
        rename_i hn1 hn2
        have hxy : x < y := Decidable.byContradiction fun h9 => hn2 (str_tri hn1 h9)
        rcases List.mem_cons.1 hz with rfl | hz
        · exact hxy
        · exact List.lt_trans hxy (hy z hz)
theorem setS_both (zs : List Str) : AscS (setS zs) ∧ ∀ x, x ∈ setS zs ↔ x ∈ zs := by
  have h : ∀ (zs acc : List Str), AscS acc → AscS (zs.foldl (fun ys x => insS x ys) acc) ∧ ∀ x, x ∈ zs.foldl (fun ys x => insS x ys) acc ↔ x ∈ acc ∨ x ∈ zs := by
    intro zs
    induction zs with
    | nil => intro acc ha; exact ⟨ha, fun x => by simp⟩
    | cons z zs ih =>
      intro acc ha
      have h1 := ih (insS z acc) (insS_asc z acc ha)
      refine ⟨h1.1, fun x => ?_⟩
      rw [List.foldl_cons, h1.2 x, insS_mem, List.mem_cons]
      constructor
      · rintro ((h | h) | h) <;> simp [h]
      · rintro (h | h | h) <;> simp [h]
  have h2 := h zs [] List.Pairwise.nil
  exact ⟨h2.1, fun x => by rw [show setS zs = zs.foldl (fun ys x => insS x ys) [] from rfl, h2.2 x]; simp⟩
/-- The one list. -/
theorem setS_eq {zs ks : List Str} (h1 : AscS ks) (h2 : ∀ x, x ∈ ks ↔ x ∈ zs) : ks = setS zs :=
  AscS.ext _ _ h1 (setS_both zs).1 fun x => (h2 x).trans ((setS_both zs).2 x).symm
end Go.Proofs.Ytlnpiigdjjadiaa
