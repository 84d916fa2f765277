/-
  impl.PutSetString: the map is filled with the values, then MarshalMsg is called (its contract is a parameter). Conditions: at most 100 values.
-/
import Derived.Test.YtlnpiigdjjadiaaInSetP
import Derived.Test.YtlnpiigdjjadiaaSetS
import Derived.Maps.OwnSet
import Derived.Maps.RangeWalk
import Derived.WalkKit
namespace Go.Proofs.Ytlnpiigdjjadiaa
set_option linter.unusedSimpArgs false
set_option linter.unusedVariables false
set_option linter.unusedVariables false
open Go.RowKit Go.Maps
theorem lawK_string : Keyed Try.prog 9 := string_keyed Try.underlying9
theorem only_of_belowS {a b : World} (h : Below a.heap.size a b) (row : Option Nat) : a.grownBy b row := ⟨h.os, h.tape, h.output, h.size, fun k hk _ => h.block k hk⟩
/-- The map in block b has just the values zs for keys. -/
def SetAt_string (w : World) (b n : Nat) (zs : List Str) : Prop := ∃ D : DataW Unit, w.ownsMap Try.prog 9 (unitElem (H := Unit)) b n D ∧ ∀ x, Maps.has D (.string x) = decide (x ∈ zs)
set_option maxRecDepth 100000 in
set_option maxHeartbeats 1600000 in
theorem fill_string (S : Nat → Prop) (A B : Option Addr) (bs : List UInt8) (zs : List Str) (n c nb cb : Nat) (w : World) (R : Value → World → Prop) (hn : n = zs.length) (hn2 : n ≤ 100) (hr : Reads w S 1 A n (zs.map encS)) (hS : Old w S) (hwf : ∀ x ∈ zs, x.length ≤ maxLen)
    (hnb : nb = bs.length) (hrb : RB w S B bs) (hlb : nb ≤ 1099511627776)
    (hMM : ∀ (W : World) (m : Nat) (v : Value), SetAt_string W w.heap.size m zs → m ≤ 100 → W.ownsRow (w.heap.size + 1) 5 1 v bs.length (bs.map u8) → Below w.heap.size w W → w.heap.size < W.heap.size →
      Calls Try.prog 15 #[.map (some w.heap.size), v] W fun e w' => ∃ u, e = .returned (.tuple #[u, .nilIface]) ∧ R u w') :
    Calls Try.prog 7 #[.slice B nb cb, .slice A n c] w fun e w' => ∃ u, e = .returned u ∧ R u w' := by
  have hmm := @run_makeMap Try.prog
  have HN := hide hn
  have HR := hide hr
  have HWF := hide hwf
  have HRB := hide hrb
  have HNB := hide hnb
  have HMM := hide hMM
  clear hn hr hwf hrb hnb hMM
  go_enter Try.func7, Try.ntmps7
  go_wp2
  go_loopw [13] (fun i wr => ∃ k : Nat, k ≤ n ∧ i = .int .i64 k ∧ SetAt_string wr w.heap.size k (zs.take k) ∧ Below w.heap.size w wr ∧ w.heap.size < wr.heap.size) (fun i _ => n - (intOf i).toNat)
  case atStart => exact ⟨0, Nat.zero_le _, rfl, ⟨_, World.ownsMap_made _ _ _ _, fun x => by simp [Maps.has]⟩, (by repeat (first | with_reducible exact Below.refl _ _ | with_reducible exact x | with_reducible refine Below.alloc ?_ (by first | omega | (simp; omega) | (simp; done)) _ | with_reducible refine Below.setCell ?_ (by first | omega | (simp; omega) | (simp; done)) _ | with_reducible refine Below.drew ?_ | with_reducible refine below_drewN ?_ _)), by simp⟩
  case round =>
    obtain ⟨k, hk, rfl, ⟨D, hown, hD⟩, hbel, hsz⟩ := hrel
    have hnx := unhide HN
    by_cases hlt : k < n
    · have hkx : k < zs.length := by omega
      obtain ⟨ad, u, rfl, hSb, hu, hcell0⟩ := (unhide HR).at_ hlt
      rw [List.getElem?_map, List.getElem?_eq_getElem hkx] at hu
      obtain rfl := Option.some.inj hu
      have hcell : wr.cell? (ad.add k) = some (encS zs[k]) := (World.cell?_of_block (hbel.block _ (by rw [block_of_add]; exact hS _ hSb))).trans hcell0
      have hw := unhide HWF zs[k] (List.getElem_mem hkx)
      have hkey : keyOf Try.prog 9 (encS zs[k]) = some (.string zs[k]) := by simpa using WideMaps.keyOf_string_mk (P := Try.prog) Try.underlying9 (s := ⟨zs[k].toArray⟩) (by simpa [ByteArray.size] using hw)
      have hst : zs.take (k + 1) = zs.take k ++ [zs[k]] := List.take_succ_eq_append_getElem hkx
      generalize zs[k] = x at *
      have HST := hide hst
      have HD := hide hD
      have HBEL := hide hbel
      have HSZ := hide hsz
      have HISM := hide hown.isMap
      have hkl : WideAt.IsKeyLit (Lit.string x) := by trivial
      have hk0 : (0 : Int) ≤ (k : Int) := by omega
      have hk1 : (k : Int) < (n : Int) := by omega
      clear hnx hu hcell0 hst hD hbel hsz
      go_wp2_with (at_mapUpdate; refine wpList_mapUpdate_own _ rfl _ _ _ 42 rfl 9 43 lawK_string Try.underlying42 (unitElem (H := Unit)) w.heap.size k D rfl hown (by unfold maxLen; omega) _ _ _ rfl rfl hkey _ [] unitElem_mk ?_; intro w1 hown1 hgrow1)
      go_roundw
      case rel =>
        refine ⟨k + 1, hlt, by go_num, ⟨_, hown1, fun y => ?_⟩, (unhide HBEL).grown hgrow1 (unhide HBEL).size (fun j hj => by cases hj; exact Nat.le_refl _), Nat.lt_of_lt_of_le (unhide HSZ) hgrow1.size⟩
        rw [unhide HST]
        by_cases hyx : y = x
        · subst hyx
          rw [Maps.has_put_same (unhide HISM) hkl]
          simp
        · rw [Maps.has_put_other (fun e => hyx (by injection e)), unhide HD y]
          simp [hyx]
      case measure => simp [intOf]; omega
    · obtain rfl : k = n := by omega
      have hall : zs.take k = zs := List.take_of_length_le (by omega)
      rw [hall] at hD
      have hlt2 : ¬ (k : Int) < (k : Int) := by omega
      have hSb : Old w S := hS
      have HC := hide (copied_any S B bs nb cb wr (unhide HNB) ((unhide HRB).keep (fun b hb => hbel.block b (hS b hb))) (fun b hb => Nat.lt_of_lt_of_le (hS b hb) hbel.size) (by have := unhide HNB; omega))
      have HOWN := hide hown
      have HD := hide hD
      have HBEL := hide hbel
      have HSZ := hide hsz
      clear hnx hown hD hbel hsz hall
      go_wp2_with (first
        | (go_at_call 16; go_loud (refine (unhide HC).mono ?_; rintro e w1 ⟨v, rfl, hown1, hb1⟩; have HC1 := hide (unhide HMM w1 k v ⟨D, (unhide HOWN).kept (only_of_belowS hb1 none) (by simp), unhide HD⟩ hn2 (own_baseS hown1 (unhide HSZ)) ((unhide HBEL).trans (hb1.mono (unhide HBEL).size)) (Nat.lt_of_lt_of_le (unhide HSZ) hb1.size)); clear hown1 hb1))
        | (go_at_call 15; go_loud (refine (unhide HC1).mono ?_; rintro e w2 ⟨u, rfl, hR⟩; have HRR := hide hR; clear hR)))
      go_ret
      exact ⟨u, rfl, unhide HRR⟩
end Go.Proofs.Ytlnpiigdjjadiaa
