/-
  The keys that a range over a map keyed by integers has met. Conditions: none.
-/
import Derived.Test.YtlnpiigdjjadiaaSetLaw
import Derived.Sort.KeysCollected
namespace Go.Proofs.Ytlnpiigdjjadiaa
set_option linter.unusedSimpArgs false
set_option linter.unusedVariables false
set_option linter.unusedVariables false
open Go.RowKit Go.Maps
theorem size_pos {D : DataW Unit} {k : Lit} (h : Maps.has D k = true) : 0 < Maps.size D := by
  cases D <;> simp [Maps.has] at h
  rename_i es
  rcases es with _ | ⟨e, es⟩
  · simp at h
  · simp [Maps.size]
/-- The keys met so far. -/
def Coll (q : IntKind) (D0 : DataW Unit) (left : Lit → Bool) (ks : List Int) : Prop := ks.Nodup ∧ ∀ x, x ∈ ks ↔ (Maps.has D0 (.int q x) = true ∧ left (.int q x) = false)
theorem Coll.start (q : IntKind) (D0 : DataW Unit) : Coll q D0 (Maps.has D0) [] := ⟨List.nodup_nil, fun x => by cases Maps.has D0 (.int q x) <;> simp⟩
theorem Coll.step {q : IntKind} {D0 : DataW Unit} {left : Lit → Bool} {ks : List Int} (h : Coll q D0 left ks) {x : Int} {y : DataW Unit} (hlk : left (.int q x) = true) (hat : ∀ zd, D0.atKey (.int q x) zd = y) : Coll q D0 (fun z => left z && !z.sameKey (.int q x)) (ks ++ [x]) := by
  have hhas : Maps.has D0 (.int q x) = true := has_true_of_atKey hat
  have hnew : x ∉ ks := fun hx => by have := ((h.2 x).1 hx).2; rw [hlk] at this; cases this
  refine ⟨List.nodup_append.2 ⟨h.1, by simp, fun a ha b hb => by simp at hb; subst hb; exact fun e => hnew (e ▸ ha)⟩, fun y => ?_⟩
  by_cases hy : y = x
  · subst hy; simp [hhas, Lit.sameKey]
  · simp [h.2 y, hy, Lit.sameKey]
def intL : Lit → Int
  | .int _ z => z
  | _ => 0
theorem Coll.size {q : IntKind} {D0 : DataW Unit} {left : Lit → Bool} {ks : List Int} (h : Coll q D0 left ks) {P : Program} {k : TypeId} {R : Value → Option (DataW Unit × List MemPlace)} {w : World} {b n : Nat} (hown : w.ownsMap P k R b n D0) (K : Keyed P k) (hk : P.underlying k = some (.int q)) (hl : ∀ kl, left kl = false) : ks.length = Maps.size D0 := by
  obtain ⟨es, hD, hpw, _⟩ := hown.entries K
  obtain ⟨es', hD', hko⟩ := hown.keysOf
  obtain rfl : es = es' := by rw [hD] at hD'; simpa using hD'
  subst hD
  have hint : ∀ p ∈ es, ∃ x, p.1 = .int q x := fun p hp => by
    obtain ⟨v, hv⟩ := hko p hp
    obtain ⟨x, _, hx, _⟩ := Maps.keyOf_int_inv hk hv
    exact ⟨x, hx⟩
  have hperm : ks.Perm (es.map fun p => intL p.1) := by
    refine (List.perm_ext_iff_of_nodup h.1 ?_).2 fun x => ?_
    · refine List.pairwise_map.2 (hpw.imp_of_mem fun {p r} hp' hq' hne e => hne ?_)
      obtain ⟨a, ha⟩ := hint p hp'
      obtain ⟨c, hc⟩ := hint r hq'
      rw [ha, hc] at e ⊢
      exact congrArg _ e
    · rw [h.2 x, hl, has_eq, List.any_eq_true, List.mem_map]
      constructor
      · rintro ⟨⟨p, hp', hs⟩, _⟩
        obtain ⟨a, ha⟩ := hint p hp'
        rw [ha] at hs
        exact ⟨p, hp', by rw [ha]; simpa [Lit.sameKey, intL] using hs⟩
      · rintro ⟨p, hp', rfl⟩
        obtain ⟨a, ha⟩ := hint p hp'
        exact ⟨⟨p, hp', by rw [ha]; simp [Lit.sameKey, intL]⟩, rfl⟩
  rw [hperm.length_eq, List.length_map]
  rfl
theorem asc_of_sorted {l : List Int} (h1 : l.Pairwise (· ≤ ·)) (h2 : l.Nodup) : Asc l := by
  refine List.Pairwise.imp₂ (fun a b h h' => ?_) h1 h2
  omega
/-- A row that is not nil lies in a block of its own. -/
theorem own_at {w : World} {base : Nat} {e : TypeId} {size n : Nat} {v : Value} {xs : List Value} (h : w.ownsRow base e size v n xs) (hv : v ≠ .slice none 0 0) : ∃ (ad : Addr) (cap : Nat), v = .slice (some ad) n cap ∧ base ≤ ad.block ∧ ad.block < w.heap.size ∧ v.ownBlock = some ad.block := by
  rcases h.2 with ⟨hnil, _⟩ | ⟨g, cap, cur, rfl, hbase, hb, _⟩
  · exact absurd hnil hv
  · exact ⟨⟨g, 0, none⟩, cap, rfl, hbase, (Array.getElem?_eq_some_iff.1 hb).1, rfl⟩
theorem row_ne_iterS {P : Program} {k : TypeId} {R : Value → Option (DataW Unit × List MemPlace)} {w : World} {base : Nat} {e : TypeId} {size n b r m cnt : Nat} {v : Value} {xs : List Value} {D : DataW Unit} {left : Lit → Bool} (h : w.ownsRow base e size v n xs) (hr : w.ranges P k R b r m D left cnt) : some r ≠ v.ownBlock := by
  rcases h.2 with ⟨rfl, _⟩ | ⟨g, cap, cur, rfl, hbase, hb, _⟩
  · simp [Value.ownBlock]
  · intro e
    have e : r = g := by simpa [Value.ownBlock] using e
    subst e
    obtain ⟨es, clock, since, seen, c0, _, _, _, _, hr, _⟩ := hr
    rw [hb] at hr
    cases hr
theorem row_ne_mapS {P : Program} {k : TypeId} {R : Value → Option (DataW Unit × List MemPlace)} {w : World} {base : Nat} {e : TypeId} {size n b m : Nat} {v : Value} {xs : List Value} {D : DataW Unit} (h : w.ownsRow base e size v n xs) (hr : w.ownsMap P k R b m D) : some b ≠ v.ownBlock := by
  rcases h.2 with ⟨rfl, _⟩ | ⟨g, cap, cur, rfl, hbase, hb, _⟩
  · simp [Value.ownBlock]
  · intro e
    have e : b = g := by simpa [Value.ownBlock] using e
    subst e
    obtain ⟨es, clock, hm, _⟩ := hr
    rw [hb] at hm
    cases hm
theorem row_ne_lowS {w : World} {base : Nat} {e : TypeId} {size n b : Nat} {v : Value} {xs : List Value} (h : w.ownsRow base e size v n xs) (hb : b < base) : some b ≠ v.ownBlock := by
  intro e
  have := (h.lt b e.symm).1
  omega
theorem own_nn {w : World} {base : Nat} {e : TypeId} {size n : Nat} {v : Value} {xs : List Value} (h : w.ownsRow base e size v (n + 1) xs) : v ≠ .slice none 0 0 := by
  rcases h.2 with ⟨_, h0⟩ | ⟨g, cap, cur, rfl, _⟩
  · omega
  · simp
theorem one_app {xs : List Value} {pb : List UInt8} (h : ∀ u ∈ xs, u.oneCell' = true) : ∀ u ∈ xs ++ pb.map u8, u.oneCell' = true := by
  intro u hu
  rcases List.mem_append.1 hu with h1 | h1
  · exact h u h1
  · obtain ⟨c, _, rfl⟩ := List.mem_map.1 h1
    rfl
end Go.Proofs.Ytlnpiigdjjadiaa
