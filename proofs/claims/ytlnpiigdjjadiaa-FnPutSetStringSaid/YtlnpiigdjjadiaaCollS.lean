/-
  The keys that a range over a map keyed by strings has met. Conditions: none.
-/
import Derived.Test.YtlnpiigdjjadiaaColl
import Derived.Test.YtlnpiigdjjadiaaSetS
namespace Go.Proofs.Ytlnpiigdjjadiaa
set_option linter.unusedSimpArgs false
set_option linter.unusedVariables false
set_option linter.unusedVariables false
open Go.RowKit Go.Maps
/-- The keys met so far. -/
def CollS (D0 : DataW Unit) (left : Lit → Bool) (ks : List Str) : Prop := ks.Nodup ∧ ∀ x, x ∈ ks ↔ (Maps.has D0 (.string x) = true ∧ left (.string x) = false)
theorem CollS.start (D0 : DataW Unit) : CollS D0 (Maps.has D0) [] := ⟨List.nodup_nil, fun x => by cases Maps.has D0 (.string x) <;> simp⟩
theorem CollS.step {D0 : DataW Unit} {left : Lit → Bool} {ks : List Str} (h : CollS D0 left ks) {x : Str} {y : DataW Unit} (hlk : left (.string x) = true) (hat : ∀ zd, D0.atKey (.string x) zd = y) : CollS D0 (fun z => left z && !z.sameKey (.string x)) (ks ++ [x]) := by
  have hhas : Maps.has D0 (.string x) = true := has_true_of_atKey hat
  have hnew : x ∉ ks := fun hx => by have := ((h.2 x).1 hx).2; rw [hlk] at this; cases this
  refine ⟨List.nodup_append.2 ⟨h.1, by simp, fun a ha b hb => by simp at hb; subst hb; exact fun e => hnew (e ▸ ha)⟩, fun y => ?_⟩
  by_cases hy : y = x
  · subst hy; simp [hhas, Lit.sameKey]
  · simp [h.2 y, hy, Lit.sameKey]
def strL : Lit → Str
  | .string z => z
  | _ => []
theorem CollS.size {D0 : DataW Unit} {left : Lit → Bool} {ks : List Str} (h : CollS D0 left ks) {P : Program} {k : TypeId} {R : Value → Option (DataW Unit × List MemPlace)} {w : World} {b n : Nat} (hown : w.ownsMap P k R b n D0) (K : Keyed P k) (hk : P.underlying k = some .string) (hl : ∀ kl, left kl = false) : ks.length = Maps.size D0 := by
  obtain ⟨es, hD, hpw, _⟩ := hown.entries K
  obtain ⟨es', hD', hko⟩ := hown.keysOf
  obtain rfl : es = es' := by rw [hD] at hD'; simpa using hD'
  subst hD
  have hint : ∀ p ∈ es, ∃ x, p.1 = .string x := fun p hp => by
    obtain ⟨v, hv⟩ := hko p hp
    obtain ⟨x, _, hx, _⟩ := Maps.keyOf_str hk hv
    exact ⟨x, hx⟩
  have hperm : ks.Perm (es.map fun p => strL p.1) := by
    refine (List.perm_ext_iff_of_nodup h.1 ?_).2 fun x => ?_
    · refine List.pairwise_map.2 (hpw.imp_of_mem fun {p r} hp' hq' hne e => hne ?_)
      obtain ⟨a, ha⟩ := hint p hp'
      obtain ⟨c, hc⟩ := hint r hq'
      rw [ha, hc] at e ⊢
      exact congrArg _ e
    · rw [h.2 x, hl, has_eq, List.any_eq_true, List.mem_map]
      constructor
      · rintro ⟨⟨p, hp', hs⟩, _⟩
        obtain ⟨a, ha⟩ := hint p hp'
        rw [ha] at hs
        exact ⟨p, hp', by rw [ha]; simpa [Lit.sameKey, strL] using hs⟩
      · rintro ⟨p, hp', rfl⟩
        obtain ⟨a, ha⟩ := hint p hp'
        exact ⟨⟨p, hp', by rw [ha]; simp [Lit.sameKey, strL]⟩, rfl⟩
  rw [hperm.length_eq, List.length_map]
  rfl
theorem asc_of_sortedS {l : List Str} (h1 : l.Pairwise (· ≤ ·)) (h2 : l.Nodup) : AscS l := by
  refine List.Pairwise.imp₂ (fun a b h h' => ?_) h1 h2
  exact Decidable.byContradiction fun h9 => h' (List.le_antisymm h (List.not_lt.1 h9))
end Go.Proofs.Ytlnpiigdjjadiaa
