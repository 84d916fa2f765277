/-
  The appending functions of msgp: what they put behind a byte slice of the call's own. Conditions: the slice is at most 2^40 bytes long.
-/
import Derived.Test.YtloaaffkjhkpaaaDoorPuts
namespace Go.Proofs.YtloaaffkjhkpaaaDoor
set_option linter.unusedSimpArgs false
set_option linter.unusedVariables false
open Go.RowKit
/-- Behind 'append': the bytes enc stand behind what v held; of what was there v's own row alone may have turned. -/
def Appd (B n : Nat) (xs : List Value) (w : World) (v : Value) (enc : List UInt8) (e : Ending) (w' : World) : Prop :=
  ∃ A c, e = .returned (.slice A (n + enc.length) c) ∧ w'.ownsRow B 5 1 (.slice A (n + enc.length) c) (n + enc.length) (xs ++ enc.map u8) ∧ w.grownBy w' v.ownBlock ∧ n + enc.length ≤ c ∧ c ≤ maxLen
theorem ensure_any (B : Nat) (A : Option Addr) (n cap sz : Nat) (sz' : Int) (xs : List Value) (w : World) (hsz : sz' = sz) (hsz0 : 0 < sz) (hown : w.ownsRow B 5 1 (.slice A n cap) n xs) (hone : ∀ u ∈ xs, u.oneCell' = true) (hB : B ≤ w.heap.size) (hlen : n + sz ≤ 35184372088832) :
    Calls Tryd.prog 16 #[.slice A n cap, .int .i64 sz'] w fun e w' => ∃ g c', e = .returned (.tuple #[.slice (some ⟨g, 0, none⟩) (n + sz) c', .int .i64 n]) ∧ n + sz ≤ c' ∧ c' ≤ maxLen ∧ B ≤ g ∧ xs.length = n ∧ Row w' 5 g c' xs ∧ Below w.heap.size w w' ∧ ((Value.slice A n cap).ownBlock = some g ∨ w.heap.size ≤ g) := by
  subst hsz
  have hl : xs.length = n := by simpa using hown.1
  rcases own_row hown with ⟨hv, h0, h1⟩ | ⟨g, c, hv, hBg, hcm, hnc, _, hrow⟩
  · injection hv with hA _ hc
    subst hA h0 hc
    refine (ensure_grow (fun _ => False) none 0 0 sz xs w hl.symm ⟨by simp [h1], fun h => absurd h (by omega)⟩ (fun _ h => h.elim) hone (by omega) (by omega) hlen).mono ?_
    rintro e w' ⟨c', rfl, h2, h3, h4, h5⟩
    exact ⟨w.heap.size, c', rfl, h2, h3, hB, hl, h4, h5, .inr (Nat.le_refl _)⟩
  · injection hv with hA _ hc
    subst hA hc
    by_cases hroom : n + sz ≤ cap
    · refine (ensure_room g n cap sz w hcm hroom).mono ?_
      rintro e w' ⟨rfl, rfl⟩
      exact ⟨g, cap, rfl, hroom, hcm, hBg, hl, hrow, Below.refl _ _, .inl rfl⟩
    · refine (ensure_grow _ (some ⟨g, 0, none⟩) n cap sz xs w hl.symm (Reads.of_own hown) (fun b hb => hb.2.1) hone hnc (by omega) hlen).mono ?_
      rintro e w' ⟨c', rfl, h2, h3, h4, h5⟩
      exact ⟨w.heap.size, c', rfl, h2, h3, hB, hl, h4, h5, .inr (Nat.le_refl _)⟩
theorem append_done {B n g c' s : Nat} {v : Value} {xs : List Value} {enc : List UInt8} {w w1 w2 : World} (hxl : xs.length = n) (hbel : Below w.heap.size w w1) (hat : v.ownBlock = some g ∨ w.heap.size ≤ g) (hBg : B ≤ g) (hcm : c' ≤ maxLen)
    (hrow2 : Row w2 5 g c' (xs ++ enc.map u8)) (hg2 : w1.grownBy w2 (some g)) (hs : s = enc.length) : Appd B n xs w v enc (.returned (.slice (some ⟨g, 0, none⟩) (n + s) c')) w2 := by
  subst hs
  have hle := hrow2.le_
  rw [List.length_append, List.length_map, hxl] at hle
  refine ⟨some ⟨g, 0, none⟩, c', rfl, hrow2.own (by simp [hxl]) hBg hcm, ?_, hle, hcm⟩
  exact grown_trans' (only_of_below hbel v.ownBlock) hg2 (fun k hk => by
    injection hk with hk
    subst hk
    exact hat)
theorem append_one {B n : Nat} {A : Option Addr} {cap : Nat} {xs : List Value} {b : UInt8} {w w1 : World} {v' : Value} {o : Obj} (_hown : w.ownsRow B 5 1 (.slice A n cap) n xs) (h : w1.ownsRow B 5 1 v' (n + 1) (xs ++ [u8 b])) (hg : (w.alloc o).grownBy w1 (Value.slice A n cap).ownBlock) :
    Appd B n xs w (.slice A n cap) [b] (.returned v') w1 := by
  obtain ⟨A', c', rfl, h1, h2, _⟩ := own_slice h
  refine ⟨A', c', rfl, h, ?_, h1, h2⟩
  exact ⟨hg.os, hg.tape, hg.output, by have := hg.size; simp at this; omega, fun k hk hne => (hg.block k (by simp; omega) hne).trans (Below.heap_alloc w o k hk)⟩
theorem one_at (w : World) (t : TypeId) (b : UInt8) (x : Value) (h : x = u8 b) : ∀ j u, [u8 b][j]? = some u → (w.alloc (.cells #[x] t)).cell? ((⟨w.heap.size, 0, none⟩ : Addr).add j) = some u := by
  subst h
  exact World.news_of_block (B := w.heap.size) (cs := #[u8 b]) (t := t) (fr := (0, 0)) (heap_alloc_new w _)
end Go.Proofs.YtloaaffkjhkpaaaDoor
