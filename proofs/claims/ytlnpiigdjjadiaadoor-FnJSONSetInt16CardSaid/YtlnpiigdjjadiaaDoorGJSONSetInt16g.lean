/-
  setof.Int16Sorted.AsSlice of a map that is a set: its keys by their order. Conditions: at most 100 keys.
-/
import Derived.Test.YtlnpiigdjjadiaaDoorGJSONSetInt16c
import Derived.Test.YtlnpiigdjjadiaaDoorGJSONSetInt16d
import Derived.Test.YtlnpiigdjjadiaaDoorLaySortD
import Derived.Test.YtlnpiigdjjadiaaDoorGJSONSetInt16f
import Derived.Test.YtlnpiigdjjadiaaDoorGJSONSetInt16a
import Derived.Maps.OwnSet
import Derived.Maps.RangeWalk
import Derived.WalkKit
import Derived.Laws.MakeOwn
namespace Go.Proofs.YtlnpiigdjjadiaaDoor
set_option linter.unusedSimpArgs false
set_option linter.unusedVariables false
set_option linter.unusedVariables false
open Go.RowKit Go.Maps Go.Sort Go.Shelf
theorem lawK_Int16 : Keyed Tryd.prog 55 := int_keyed Tryd.underlying55
/-- The map in block b has just the values zs for keys. -/
def SetAt_Int16 (w : World) (b n : Nat) (zs : List Int) : Prop := ∃ D : DataW Unit, w.ownsMap Tryd.prog 55 (unitElem (H := Unit)) b n D ∧ ∀ x, Maps.has D (.int .i16 x) = decide (x ∈ zs)
theorem infoK_Int16 : (Tryd.prog.info? 55).map (fun i => (i.zero, i.size, i.bytes)) = some (some (.int .i16 0), 1, 2) := by kernel_rfl
theorem mapNe_Int16 (b : Nat) (w : World) : (binOp BinOp.eql 86 (.map (some b)) (.map none)).run Tryd.prog w = .ok (.bool false) w := by kernel_rfl
theorem cmpA_Int16 (x y : Int) (W : World) : Calls Tryd.prog 80 #[.int .i16 x, .int .i16 y] W fun e w' => e = .returned (.int .i64 (cmpI x y)) ∧ ∃ q, w' = W.drewN q := by
  by_cases h : x < y
  · have e : cmpI x y = -1 := by simp [cmpI, h]
    rw [e]
    go_enter Tryd.func80, Tryd.ntmps80
    go_wp2
    go_ret
    exact ⟨rfl, 0, rfl⟩
  · have e : cmpI x y = 1 := by simp [cmpI, h]
    rw [e]
    go_enter Tryd.func80, Tryd.ntmps80
    go_wp2
    go_ret
    exact ⟨rfl, 0, rfl⟩
theorem sortA_Int16 (base m cap : Nat) (ad : Addr) (ks : List Int) (W : World) (hown : W.ownsRow base 55 1 (.slice (some ad) m cap) m (ks.map (Value.int .i16))) (hm : m ≤ 100) :
    Calls Tryd.prog 79 #[.slice (some ad) m cap, .func (.func 80) #[] #[]] W fun e w' => e = .returned (.tuple #[]) ∧ ∃ ks' : List Int, ks'.Perm ks ∧ ks'.Pairwise (· ≤ ·) ∧ w'.ownsRow base 55 1 (.slice (some ad) m cap) m (ks'.map (Value.int .i16)) ∧ W.grownBy w' (some ad.block) := by
  have eg : ∀ args w, (callFunc 80 args).run Tryd.prog w = .ok (.enter 80 args) w := enters_of Tryd.func80 (by kernel_rfl) rfl
  rcases hown.2 with ⟨hnil, _⟩ | ⟨g, c, cur, hv, hbase, hb, h1, h2, h3, h4⟩
  · cases hnil
  · cases hv
    have hl : ks.length = m := by simpa using hown.1
    have hH : Holds (Value.int .i16) W g 0 ks.toArray := holds_ints hb (by rw [hl]; simpa using h4)
    have hcmp : CmpReads Tryd.prog 80 #[] (Value.int .i16) cmpI g 0 ks.toArray.size W := fun _ _ _ _ x y => cmpA_Int16 x y _
    have hcon := Any.slices_SortFunc Tryd.sortI16 (Value.int .i16) (fun _ => rfl) cmpI swo_cmpI 80 #[] g 0 cap ks.toArray W eg hcmp.lays hH (Array.getElem?_eq_some_iff.1 hb).1 (by simp; omega)
    have es : ks.toArray.size = m := by simpa using hl
    rw [es] at hcon
    refine hcon.mono ?_
    rintro e w' ⟨rfl, d', n, os, hp, hs, rfl⟩
    have hp' : d'.toList.Perm ks := perm_of_in (by rw [es]; exact hp)
    have hdl : d'.toList.length = m := by rw [hp'.length_eq, hl]
    have hds : d'.size = m := by simpa using hdl
    refine ⟨rfl, d'.toList, hp', sorted_of_in hds.symm hs, ?_, ?_⟩
    · unfold sortWorld
      have := ownsRow_sortedI (enc := Value.int .i16) (n := n) (os := os) (ts := d'.toList) hdl hbase hb h1 h2 h3
      simpa using this
    · unfold sortWorld
      exact grownBy_sortedI _
set_option maxRecDepth 100000 in
set_option maxHeartbeats 6400000 in
theorem asSlice_Int16 (b nb : Nat) (zs : List Int) (w : World) (hset : SetAt_Int16 w b nb zs) (hnb : nb ≤ 100) (hb : b < w.heap.size) :
    Calls Tryd.prog 59 #[.map (some b)] w fun e w' => ∃ (ad : Addr) (cap : Nat) (ks : List Int), e = .returned (.slice (some ad) ks.length cap) ∧ Asc ks ∧ (∀ x, x ∈ ks ↔ x ∈ zs) ∧ ks.length ≤ 100 ∧
      w'.ownsRow w.heap.size 55 1 (.slice (some ad) ks.length cap) ks.length (ks.map (Value.int .i16)) ∧ Below w.heap.size w w' := by
  obtain ⟨D, hmap, hD⟩ := hset
  have hsz : Maps.size D ≤ 100 := Nat.le_trans hmap.size_le hnb
  obtain ⟨q, hq⟩ : ∃ q, q = Maps.size D := ⟨_, rfl⟩
  have hqs := hq.symm
  clear hq
  have hmn := mapNe_Int16 b
  have HMAP := hide hmap
  clear hmap
  go_enter Tryd.func59, Tryd.ntmps59
  obtain ⟨i0, hi, hx0, hx1, hx2⟩ := info_parts infoK_Int16
  go_wp2_with (first
    | (at_len; refine wpList_len_own _ rfl _ 86 rfl 55 77 Tryd.underlying86 (unitElem (H := Unit)) b nb D rfl (unhide HMAP) ?_)
    | (at_make; go_loud (refine wpList_make_own _ rfl _ _ 53 rfl w.heap.size 55 i0 (.int .i16 0) 1 Tryd.underlying53 hi hx0 hx1 _ _ _ q rfl rfl (by simp [hqs]) (by rw [hx2]; omega) (by unfold maxLen; omega) (Nat.le_refl _) ?_; intro w4 hrow4 hg4; have HROW4 := hide hrow4; have HMAP4 := hide ((unhide HMAP).kept hg4 (by simp)); have HG4 := hide hg4; clear hrow4 hg4))
    | (at_range; go_loud (refine wpList_range_own _ rfl _ 86 rfl 55 77 lawK_Int16 Tryd.underlying86 (unitElem (H := Unit)) b nb D rfl (unhide HMAP4) ?_; intro w5 hrg5 hg5 hs5; clear hs5)))
  go_frame
  have hbk : some b ≠ (none : Option Nat) := by simp
  go_loopw [3] (fun v wr => ∃ (left : Lit → Bool) (cnt : Nat) (ks : List Int), wr.ranges Tryd.prog 55 (unitElem (H := Unit)) b w4.heap.size nb D left cnt ∧ ks.length + cnt ≤ q ∧
      wr.ownsRow w.heap.size 55 1 v ks.length (ks.map (Value.int .i16)) ∧ v ≠ .slice none 0 0 ∧ Coll .i16 D left ks ∧ Below w.heap.size w wr)
    (fun _ wr => wr.rangeLeft b w4.heap.size)
  case atStart =>
    exact ⟨_, _, [], hrg5, by simp; omega, (unhide HROW4).kept hg5 (Or.inr (by simp [Value.ownBlock])), by simp, Coll.start .i16 D,
      ((Below.refl _ _).grown (unhide HG4) (Nat.le_refl _) (fun j hj => by cases hj)).grown hg5 (unhide HG4).size (fun j hj => by cases hj)⟩
  case round =>
    obtain ⟨left, cnt, ks, hrg, hcs, hrow, hnn, hC, hnx⟩ := hrel
    have HRG := hide hrg
    have HROW := hide hrow
    have HNN := hide hnn
    have HC := hide hC
    have HNX := hide hnx
    clear hrg hrow hnn hC hnx
    go_wp2_with (at_next; go_loud (refine wpList_next_ranges _ rfl _ rfl 55 lawK_Int16 (unitElem (H := Unit)) (Value.int .i16) (fun _ : Unit => Value.agg #[]) (fun key kl hk => by obtain ⟨x, rfl, _⟩ := Maps.keyOf_int_inv Tryd.underlying55 hk; exact ⟨x, rfl⟩) (fun v y hv => ⟨(), (unitElem_inv hv).1⟩) b w4.heap.size nb _ _ _ rfl (unhide HRG) ?_ ?_))
    · intro hc0 hl0
      have hkl := (unhide HC).size (unhide HRG).owns lawK_Int16 Tryd.underlying55 hl0
      rw [hqs] at hkl
      have hrow := unhide HROW
      rw [hkl] at hrow
      obtain ⟨ad, cap2, rfl, had1, had2, hadb⟩ := own_at hrow (unhide HNN)
      have hrl := hrow.lt
      have HS := hide (sortA_Int16 _ q cap2 ad ks wr hrow (by omega))
      have HKM : Hid (∀ x, x ∈ ks ↔ x ∈ zs) := hide (fun x => by rw [(unhide HC).2 x, hl0, hD x]; simp)
      clear hrow hadb hl0
      go_wp2_with (go_at_call 79; go_loud (refine (unhide HS).mono ?_; rintro e w6 ⟨rfl, ks', hperm, hsort, hown6, hg6⟩; have HPERM := hide hperm; have HSORT := hide hsort; have HROW6 := hide hown6; have HG6 := hide hg6; clear hperm hsort hown6 hg6))
      have hlk : ks'.length = q := by rw [(unhide HPERM).length_eq, hkl]
      have HMEM : Hid (∀ x, x ∈ ks' ↔ x ∈ zs) := hide (fun x => by rw [(unhide HPERM).mem_iff, unhide HKM])
      have HASC := hide (asc_of_sorted (unhide HSORT) ((unhide HPERM).nodup_iff.2 (unhide HC).1))
      go_ret
      refine ⟨ad, cap2, ks', (by first | (rw [hlk]; rfl) | rw [hlk]), unhide HASC, unhide HMEM, by omega, by rw [hlk]; exact unhide HROW6, (unhide HNX).grown (unhide HG6) (unhide HNX).size (fun j hj => by cases hj; exact had1)⟩
    · intro x c kl y w6 cnt6 hkey hlk hv hat hrg6 hlt6 hg6 hs6 hen
      obtain ⟨x', ex, rfl, hwx⟩ := Maps.keyOf_int_inv Tryd.underlying55 hkey
      cases ex
      have HROW6 := hide ((unhide HROW).kept hg6 (Or.inr (row_ne_iterS (unhide HROW) (unhide HRG)).symm))
      have HC6 := hide ((unhide HC).step hlk hat)
      have HRG6 := hide hrg6
      have hnx := (unhide HNX).size
      have HNX6 := hide ((unhide HNX).grown hg6 hnx (fun j hj => by cases hj; exact (unhide HG4).size))
      have hz6 := hg6.size
      clear hs6 hat hlk hrg6 hg6 hkey hv
      go_wp2_with (at_builtin; go_loud (refine wpList_append_atS rfl _ _ _ rfl w.heap.size 55 i0 (.int .i16 0) 1 2 Tryd.underlying53 hi hx0 hx1 hx2 rfl (by decide) _ _ _ rfl ((unhide HROW6).alloc _) ⟨w6.heap.size, 0, none⟩ 1 1 [.int .i16 x] rfl rfl (cell_one_new _ _ _) (by simp [Value.oneCell']) (by unfold maxLen; omega) (by omega) (by simp; omega) ?_; intro v' w7 hown7 hg7 hmv7; have HROW7 := hide hown7; have HG7 := hide hg7; clear hown7 hg7; go_frame))
      go_roundw
      case rel =>
        have hrg7 := ((unhide HRG6).alloc (.cells #[.int .i16 x] 55)).kept (unhide HG7) (row_ne_lowS (unhide HROW6) (by omega)) (row_ne_iterS (unhide HROW6) (unhide HRG6))
        refine ⟨_, cnt6, ks ++ [x], hrg7, by simp; omega, by simpa using unhide HROW7, own_nn (unhide HROW7), unhide HC6, ?_⟩
        exact ((unhide HNX6).alloc (by omega) _).grown (unhide HG7) (by simp; omega) (fun j hj => ((unhide HROW6).lt j hj).1)
      case measure =>
        have hrg7 := ((unhide HRG6).alloc (.cells #[.int .i16 x] 55)).kept (unhide HG7) (row_ne_lowS (unhide HROW6) (by omega)) (row_ne_iterS (unhide HROW6) (unhide HRG6))
        rw [hrg7.left_eq, (unhide HRG).left_eq]
        exact hlt6
end Go.Proofs.YtlnpiigdjjadiaaDoor
