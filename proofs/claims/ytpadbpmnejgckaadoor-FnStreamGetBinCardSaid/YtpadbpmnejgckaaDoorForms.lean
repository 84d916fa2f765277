/-
  What spec's writing of heads leans on: spec.big. Conditions: sizes of 1, 2, 4 or 8 bytes.
-/
import Derived.Test.YtpadbpmnejgckaaDoorProg
import Derived.Test.YtpadbpmnejgckaaDoorOwn
import Derived.BigFrame
namespace Go.Proofs.YtpadbpmnejgckaaDoor
set_option linter.unusedSimpArgs false
set_option linter.unusedVariables false
open Go.RowKit
theorem infoB : (Tryd.prog.info? 5).map (fun i => (i.zero, i.size, i.bytes)) = some (some (.int .u8 0), 1, 1) := by kernel_rfl
/-- A number in so many bytes, the highest first. -/
def beL (u : Nat) : Nat → List UInt8
  | 1 => [UInt8.ofNat u]
  | 2 => [UInt8.ofNat (u / 256), UInt8.ofNat u]
  | 4 => [UInt8.ofNat (u / 16777216), UInt8.ofNat (u / 65536), UInt8.ofNat (u / 256), UInt8.ofNat u]
  | 8 => [UInt8.ofNat (u / 72057594037927936), UInt8.ofNat (u / 281474976710656), UInt8.ofNat (u / 1099511627776), UInt8.ofNat (u / 4294967296), UInt8.ofNat (u / 16777216), UInt8.ofNat (u / 65536), UInt8.ofNat (u / 256), UInt8.ofNat u]
  | _ => []
theorem beL_len (u s : Nat) (h : s = 1 ∨ s = 2 ∨ s = 4 ∨ s = 8) : (beL u s).length = s := by
  rcases h with rfl | rfl | rfl | rfl <;> rfl
theorem own_ge' {w : World} {base n : Nat} {e : TypeId} {size : Nat} {v : Value} {xs : List Value} (h : w.ownsRow base e size v n xs) : ∀ k, v.ownBlock = some k → base ≤ k ∧ k < w.heap.size := by
  intro k hk
  rcases h.2 with ⟨rfl, rfl⟩ | ⟨g, cap, cur, rfl, hb, hg, _⟩
  · simp [Value.ownBlock] at hk
  · simp [Value.ownBlock] at hk
    subst hk
    refine ⟨hb, ?_⟩
    rcases Nat.lt_or_ge g w.heap.size with h | h
    · exact h
    · rw [Array.getElem?_eq_none h] at hg; cases hg
theorem Blk.new2 {w : World} {t : TypeId} {cs : Array Value} {g : Nat} (h : w.heap.size = g) : Blk (w.alloc (.cells cs t)) g t cs := h ▸ Blk.new _ _ _
theorem reads_blk {w : World} {S : Nat → Prop} {g : Nat} {t : TypeId} {cs : Array Value} (h : Blk w g t cs) (hS : S g) (size n : Nat) (hn : cs.size = n * size) : Reads w S size (some ⟨g, 0, none⟩) n cs.toList := by
  refine ⟨by simpa using hn, fun _ => ⟨_, rfl, hS, fun j u hu => ?_⟩⟩
  have := h.cell j
  rw [Array.getElem?_toList] at hu
  rw [hu] at this
  rcases j with _ | j
  · exact this
  · simpa [Addr.add] using this
theorem one_u8 {w : World} {g : Nat} {x : Int} {b : UInt8} (h : Value.int .u8 x = u8 b) (hg : w.heap.size = g) : Reads (w.alloc (.cells #[.int .u8 x] 5)) (fun _ => True) 1 (some ⟨g, 0, none⟩) 1 ([b].map u8) := by
  have := reads_blk (S := fun _ => True) (Blk.new2 (w := w) (t := 5) (cs := #[.int .u8 x]) hg) trivial 1 1 rfl
  rw [← show [Value.int .u8 x] = [b].map u8 from by rw [h]; rfl]
  exact this
theorem cell8 (u p : Nat) : Value.int .u8 ((u : Int) / (p : Int) % 256) = u8 (UInt8.ofNat (u / p)) := by
  simp [u8]
theorem cell8t (u : Nat) (h : u < 18446744073709551616) : Value.int .u8 ((u : Int) / 72057594037927936) = u8 (UInt8.ofNat (u / 72057594037927936)) := by
  simp [u8]
  omega
theorem cell8' (u : Nat) : Value.int .u8 ((u : Int) % 256) = u8 (UInt8.ofNat u) := by
  simp [u8]
set_option maxHeartbeats 1600000 in
theorem big_1 (u : Nat) (hu : u < 18446744073709551616) (w : World) :
    Calls Tryd.prog 131 #[.int .u64 u, .int .i64 1] w fun e w' => ∃ v, e = .returned v ∧ w'.ownsRow w.heap.size 5 1 v 1 ((beL u 1).map u8) ∧ Below w.heap.size w w' := by
  go_enter Tryd.func131, Tryd.ntmps131
  go_wp2
  go_loopw [5, 6] (fun v i wr => ∃ k : Nat, k ≤ 1 ∧ i = .int .i64 (0 - (k : Int)) ∧ wr.ownsRow w.heap.size 5 1 v k (((beL u 1).take k).map u8) ∧ Below w.heap.size w wr) (fun _ i _ => (intOf i + 1).toNat)
  case atStart => exact ⟨0, by omega, rfl, World.ownsRow_nil _ _ _ _, Below.refl _ _⟩
  case round =>
  obtain ⟨k, hk, rfl, hown, hbel⟩ := hrel
  obtain ⟨Av, cv, rfl, hcv1, hcv2, _⟩ := own_slice hown
  have hsz := hbel.size
  have HOWN := hide hown
  have HB := hide hbel
  clear hown hbel
  rcases k with _ | k
  · go_wp2_with (at_builtin; obtain ⟨i0, hi0, hz0, hz1', hz2⟩ := info_parts infoB; go_loud (refine wpList_append_any (S := fun _ => True) _ rfl _ _ _ rfl w.heap.size 5 i0 _ 1 1 Tryd.underlying26 hi0 hz0 hz1' hz2 ?x1 ?x2 (.slice Av 0 cv) 0 (((beL u 1).take 0).map u8) ?x3 ?x8 (some ⟨wr.heap.size, 0, none⟩) 1 1 ([UInt8.ofNat u].map u8) ?x4 ?x5 (u8_one _) ?c3 ?x7 ?c4 ?_; (case x1 => rfl); (case x2 => omega); (case x3 => rfl); (case x4 => rfl); (case x5 => exact one_u8 (cell8' u) rfl); (case x7 => omega); (case x8 => exact own_below (unhide HOWN) (by repeat (first | with_reducible exact Below.refl _ _ | with_reducible exact x | with_reducible refine Below.alloc ?_ (by first | omega | (simp; omega) | (simp; done)) _ | with_reducible refine Below.setCell ?_ (by first | omega | (simp; omega) | (simp; done)) _ | with_reducible refine Below.drew ?_ | with_reducible refine below_drewN ?_ _))); (case c3 => unfold maxLen; omega); (case c4 => simp; omega); clear hi0 hz0 hz1' hz2; intro v1 w1 hown1 hgrow hat; have hB1 : Below w.heap.size w w1 := (((unhide HB).alloc hsz _).grown hgrow (by simp; omega) (fun k hk => (own_ge' (unhide HOWN) _ hk).1)); have HB1 := hide hB1; have HO1 := hide hown1; clear hgrow hown1 hat hB1))
    go_roundw
    case rel => exact ⟨1, by omega, rfl, unhide HO1, unhide HB1⟩
    case measure => simp [intOf]
  obtain rfl : k = 0 := by omega
  go_wp2
  go_ret
  exact ⟨_, rfl, unhide HOWN, unhide HB⟩
set_option maxHeartbeats 1600000 in
theorem big_2 (u : Nat) (hu : u < 18446744073709551616) (w : World) :
    Calls Tryd.prog 131 #[.int .u64 u, .int .i64 2] w fun e w' => ∃ v, e = .returned v ∧ w'.ownsRow w.heap.size 5 1 v 2 ((beL u 2).map u8) ∧ Below w.heap.size w w' := by
  go_enter Tryd.func131, Tryd.ntmps131
  go_wp2
  go_loopw [5, 6] (fun v i wr => ∃ k : Nat, k ≤ 2 ∧ i = .int .i64 (1 - (k : Int)) ∧ wr.ownsRow w.heap.size 5 1 v k (((beL u 2).take k).map u8) ∧ Below w.heap.size w wr) (fun _ i _ => (intOf i + 1).toNat)
  case atStart => exact ⟨0, by omega, rfl, World.ownsRow_nil _ _ _ _, Below.refl _ _⟩
  case round =>
  obtain ⟨k, hk, rfl, hown, hbel⟩ := hrel
  obtain ⟨Av, cv, rfl, hcv1, hcv2, _⟩ := own_slice hown
  have hsz := hbel.size
  have HOWN := hide hown
  have HB := hide hbel
  clear hown hbel
  rcases k with _ | k
  · go_wp2_with (at_builtin; obtain ⟨i0, hi0, hz0, hz1', hz2⟩ := info_parts infoB; go_loud (refine wpList_append_any (S := fun _ => True) _ rfl _ _ _ rfl w.heap.size 5 i0 _ 1 1 Tryd.underlying26 hi0 hz0 hz1' hz2 ?x1 ?x2 (.slice Av 0 cv) 0 (((beL u 2).take 0).map u8) ?x3 ?x8 (some ⟨wr.heap.size, 0, none⟩) 1 1 ([UInt8.ofNat (u / 256)].map u8) ?x4 ?x5 (u8_one _) ?c3 ?x7 ?c4 ?_; (case x1 => rfl); (case x2 => omega); (case x3 => rfl); (case x4 => rfl); (case x5 => exact one_u8 (cell8 u 256) rfl); (case x7 => omega); (case x8 => exact own_below (unhide HOWN) (by repeat (first | with_reducible exact Below.refl _ _ | with_reducible exact x | with_reducible refine Below.alloc ?_ (by first | omega | (simp; omega) | (simp; done)) _ | with_reducible refine Below.setCell ?_ (by first | omega | (simp; omega) | (simp; done)) _ | with_reducible refine Below.drew ?_ | with_reducible refine below_drewN ?_ _))); (case c3 => unfold maxLen; omega); (case c4 => simp; omega); clear hi0 hz0 hz1' hz2; intro v1 w1 hown1 hgrow hat; have hB1 : Below w.heap.size w w1 := (((unhide HB).alloc hsz _).grown hgrow (by simp; omega) (fun k hk => (own_ge' (unhide HOWN) _ hk).1)); have HB1 := hide hB1; have HO1 := hide hown1; clear hgrow hown1 hat hB1))
    go_roundw
    case rel => exact ⟨1, by omega, rfl, unhide HO1, unhide HB1⟩
    case measure => simp [intOf]
  by_cases hk1 : k = 0
  · subst hk1
    go_wp2_with (at_builtin; obtain ⟨i0, hi0, hz0, hz1', hz2⟩ := info_parts infoB; go_loud (refine wpList_append_any (S := fun _ => True) _ rfl _ _ _ rfl w.heap.size 5 i0 _ 1 1 Tryd.underlying26 hi0 hz0 hz1' hz2 ?x1 ?x2 (.slice Av 1 cv) 1 (((beL u 2).take 1).map u8) ?x3 ?x8 (some ⟨wr.heap.size, 0, none⟩) 1 1 ([UInt8.ofNat u].map u8) ?x4 ?x5 (u8_one _) ?c3 ?x7 ?c4 ?_; (case x1 => rfl); (case x2 => omega); (case x3 => rfl); (case x4 => rfl); (case x5 => exact one_u8 (cell8' u) rfl); (case x7 => omega); (case x8 => exact own_below (unhide HOWN) (by repeat (first | with_reducible exact Below.refl _ _ | with_reducible exact x | with_reducible refine Below.alloc ?_ (by first | omega | (simp; omega) | (simp; done)) _ | with_reducible refine Below.setCell ?_ (by first | omega | (simp; omega) | (simp; done)) _ | with_reducible refine Below.drew ?_ | with_reducible refine below_drewN ?_ _))); (case c3 => unfold maxLen; omega); (case c4 => simp; omega); clear hi0 hz0 hz1' hz2; intro v1 w1 hown1 hgrow hat; have hB1 : Below w.heap.size w w1 := (((unhide HB).alloc hsz _).grown hgrow (by simp; omega) (fun k hk => (own_ge' (unhide HOWN) _ hk).1)); have HB1 := hide hB1; have HO1 := hide hown1; clear hgrow hown1 hat hB1))
    go_roundw
    case rel => exact ⟨2, by omega, rfl, unhide HO1, unhide HB1⟩
    case measure => simp [intOf]
  obtain rfl : k = 1 := by omega
  go_wp2
  go_ret
  exact ⟨_, rfl, unhide HOWN, unhide HB⟩
set_option maxHeartbeats 1600000 in
theorem big_4 (u : Nat) (hu : u < 18446744073709551616) (w : World) :
    Calls Tryd.prog 131 #[.int .u64 u, .int .i64 4] w fun e w' => ∃ v, e = .returned v ∧ w'.ownsRow w.heap.size 5 1 v 4 ((beL u 4).map u8) ∧ Below w.heap.size w w' := by
  go_enter Tryd.func131, Tryd.ntmps131
  go_wp2
  go_loopw [5, 6] (fun v i wr => ∃ k : Nat, k ≤ 4 ∧ i = .int .i64 (3 - (k : Int)) ∧ wr.ownsRow w.heap.size 5 1 v k (((beL u 4).take k).map u8) ∧ Below w.heap.size w wr) (fun _ i _ => (intOf i + 1).toNat)
  case atStart => exact ⟨0, by omega, rfl, World.ownsRow_nil _ _ _ _, Below.refl _ _⟩
  case round =>
  obtain ⟨k, hk, rfl, hown, hbel⟩ := hrel
  obtain ⟨Av, cv, rfl, hcv1, hcv2, _⟩ := own_slice hown
  have hsz := hbel.size
  have HOWN := hide hown
  have HB := hide hbel
  clear hown hbel
  rcases k with _ | k
  · go_wp2_with (at_builtin; obtain ⟨i0, hi0, hz0, hz1', hz2⟩ := info_parts infoB; go_loud (refine wpList_append_any (S := fun _ => True) _ rfl _ _ _ rfl w.heap.size 5 i0 _ 1 1 Tryd.underlying26 hi0 hz0 hz1' hz2 ?x1 ?x2 (.slice Av 0 cv) 0 (((beL u 4).take 0).map u8) ?x3 ?x8 (some ⟨wr.heap.size, 0, none⟩) 1 1 ([UInt8.ofNat (u / 16777216)].map u8) ?x4 ?x5 (u8_one _) ?c3 ?x7 ?c4 ?_; (case x1 => rfl); (case x2 => omega); (case x3 => rfl); (case x4 => rfl); (case x5 => exact one_u8 (cell8 u 16777216) rfl); (case x7 => omega); (case x8 => exact own_below (unhide HOWN) (by repeat (first | with_reducible exact Below.refl _ _ | with_reducible exact x | with_reducible refine Below.alloc ?_ (by first | omega | (simp; omega) | (simp; done)) _ | with_reducible refine Below.setCell ?_ (by first | omega | (simp; omega) | (simp; done)) _ | with_reducible refine Below.drew ?_ | with_reducible refine below_drewN ?_ _))); (case c3 => unfold maxLen; omega); (case c4 => simp; omega); clear hi0 hz0 hz1' hz2; intro v1 w1 hown1 hgrow hat; have hB1 : Below w.heap.size w w1 := (((unhide HB).alloc hsz _).grown hgrow (by simp; omega) (fun k hk => (own_ge' (unhide HOWN) _ hk).1)); have HB1 := hide hB1; have HO1 := hide hown1; clear hgrow hown1 hat hB1))
    go_roundw
    case rel => exact ⟨1, by omega, rfl, unhide HO1, unhide HB1⟩
    case measure => simp [intOf]
  by_cases hk1 : k = 0
  · subst hk1
    go_wp2_with (at_builtin; obtain ⟨i0, hi0, hz0, hz1', hz2⟩ := info_parts infoB; go_loud (refine wpList_append_any (S := fun _ => True) _ rfl _ _ _ rfl w.heap.size 5 i0 _ 1 1 Tryd.underlying26 hi0 hz0 hz1' hz2 ?x1 ?x2 (.slice Av 1 cv) 1 (((beL u 4).take 1).map u8) ?x3 ?x8 (some ⟨wr.heap.size, 0, none⟩) 1 1 ([UInt8.ofNat (u / 65536)].map u8) ?x4 ?x5 (u8_one _) ?c3 ?x7 ?c4 ?_; (case x1 => rfl); (case x2 => omega); (case x3 => rfl); (case x4 => rfl); (case x5 => exact one_u8 (cell8 u 65536) rfl); (case x7 => omega); (case x8 => exact own_below (unhide HOWN) (by repeat (first | with_reducible exact Below.refl _ _ | with_reducible exact x | with_reducible refine Below.alloc ?_ (by first | omega | (simp; omega) | (simp; done)) _ | with_reducible refine Below.setCell ?_ (by first | omega | (simp; omega) | (simp; done)) _ | with_reducible refine Below.drew ?_ | with_reducible refine below_drewN ?_ _))); (case c3 => unfold maxLen; omega); (case c4 => simp; omega); clear hi0 hz0 hz1' hz2; intro v1 w1 hown1 hgrow hat; have hB1 : Below w.heap.size w w1 := (((unhide HB).alloc hsz _).grown hgrow (by simp; omega) (fun k hk => (own_ge' (unhide HOWN) _ hk).1)); have HB1 := hide hB1; have HO1 := hide hown1; clear hgrow hown1 hat hB1))
    go_roundw
    case rel => exact ⟨2, by omega, rfl, unhide HO1, unhide HB1⟩
    case measure => simp [intOf]
  by_cases hk2 : k = 1
  · subst hk2
    go_wp2_with (at_builtin; obtain ⟨i0, hi0, hz0, hz1', hz2⟩ := info_parts infoB; go_loud (refine wpList_append_any (S := fun _ => True) _ rfl _ _ _ rfl w.heap.size 5 i0 _ 1 1 Tryd.underlying26 hi0 hz0 hz1' hz2 ?x1 ?x2 (.slice Av 2 cv) 2 (((beL u 4).take 2).map u8) ?x3 ?x8 (some ⟨wr.heap.size, 0, none⟩) 1 1 ([UInt8.ofNat (u / 256)].map u8) ?x4 ?x5 (u8_one _) ?c3 ?x7 ?c4 ?_; (case x1 => rfl); (case x2 => omega); (case x3 => rfl); (case x4 => rfl); (case x5 => exact one_u8 (cell8 u 256) rfl); (case x7 => omega); (case x8 => exact own_below (unhide HOWN) (by repeat (first | with_reducible exact Below.refl _ _ | with_reducible exact x | with_reducible refine Below.alloc ?_ (by first | omega | (simp; omega) | (simp; done)) _ | with_reducible refine Below.setCell ?_ (by first | omega | (simp; omega) | (simp; done)) _ | with_reducible refine Below.drew ?_ | with_reducible refine below_drewN ?_ _))); (case c3 => unfold maxLen; omega); (case c4 => simp; omega); clear hi0 hz0 hz1' hz2; intro v1 w1 hown1 hgrow hat; have hB1 : Below w.heap.size w w1 := (((unhide HB).alloc hsz _).grown hgrow (by simp; omega) (fun k hk => (own_ge' (unhide HOWN) _ hk).1)); have HB1 := hide hB1; have HO1 := hide hown1; clear hgrow hown1 hat hB1))
    go_roundw
    case rel => exact ⟨3, by omega, rfl, unhide HO1, unhide HB1⟩
    case measure => simp [intOf]
  by_cases hk3 : k = 2
  · subst hk3
    go_wp2_with (at_builtin; obtain ⟨i0, hi0, hz0, hz1', hz2⟩ := info_parts infoB; go_loud (refine wpList_append_any (S := fun _ => True) _ rfl _ _ _ rfl w.heap.size 5 i0 _ 1 1 Tryd.underlying26 hi0 hz0 hz1' hz2 ?x1 ?x2 (.slice Av 3 cv) 3 (((beL u 4).take 3).map u8) ?x3 ?x8 (some ⟨wr.heap.size, 0, none⟩) 1 1 ([UInt8.ofNat u].map u8) ?x4 ?x5 (u8_one _) ?c3 ?x7 ?c4 ?_; (case x1 => rfl); (case x2 => omega); (case x3 => rfl); (case x4 => rfl); (case x5 => exact one_u8 (cell8' u) rfl); (case x7 => omega); (case x8 => exact own_below (unhide HOWN) (by repeat (first | with_reducible exact Below.refl _ _ | with_reducible exact x | with_reducible refine Below.alloc ?_ (by first | omega | (simp; omega) | (simp; done)) _ | with_reducible refine Below.setCell ?_ (by first | omega | (simp; omega) | (simp; done)) _ | with_reducible refine Below.drew ?_ | with_reducible refine below_drewN ?_ _))); (case c3 => unfold maxLen; omega); (case c4 => simp; omega); clear hi0 hz0 hz1' hz2; intro v1 w1 hown1 hgrow hat; have hB1 : Below w.heap.size w w1 := (((unhide HB).alloc hsz _).grown hgrow (by simp; omega) (fun k hk => (own_ge' (unhide HOWN) _ hk).1)); have HB1 := hide hB1; have HO1 := hide hown1; clear hgrow hown1 hat hB1))
    go_roundw
    case rel => exact ⟨4, by omega, rfl, unhide HO1, unhide HB1⟩
    case measure => simp [intOf]
  obtain rfl : k = 3 := by omega
  go_wp2
  go_ret
  exact ⟨_, rfl, unhide HOWN, unhide HB⟩
set_option maxHeartbeats 1600000 in
theorem big_8 (u : Nat) (hu : u < 18446744073709551616) (w : World) :
    Calls Tryd.prog 131 #[.int .u64 u, .int .i64 8] w fun e w' => ∃ v, e = .returned v ∧ w'.ownsRow w.heap.size 5 1 v 8 ((beL u 8).map u8) ∧ Below w.heap.size w w' := by
  go_enter Tryd.func131, Tryd.ntmps131
  go_wp2
  go_loopw [5, 6] (fun v i wr => ∃ k : Nat, k ≤ 8 ∧ i = .int .i64 (7 - (k : Int)) ∧ wr.ownsRow w.heap.size 5 1 v k (((beL u 8).take k).map u8) ∧ Below w.heap.size w wr) (fun _ i _ => (intOf i + 1).toNat)
  case atStart => exact ⟨0, by omega, rfl, World.ownsRow_nil _ _ _ _, Below.refl _ _⟩
  case round =>
  obtain ⟨k, hk, rfl, hown, hbel⟩ := hrel
  obtain ⟨Av, cv, rfl, hcv1, hcv2, _⟩ := own_slice hown
  have hsz := hbel.size
  have HOWN := hide hown
  have HB := hide hbel
  clear hown hbel
  rcases k with _ | k
  · go_wp2_with (at_builtin; obtain ⟨i0, hi0, hz0, hz1', hz2⟩ := info_parts infoB; go_loud (refine wpList_append_any (S := fun _ => True) _ rfl _ _ _ rfl w.heap.size 5 i0 _ 1 1 Tryd.underlying26 hi0 hz0 hz1' hz2 ?x1 ?x2 (.slice Av 0 cv) 0 (((beL u 8).take 0).map u8) ?x3 ?x8 (some ⟨wr.heap.size, 0, none⟩) 1 1 ([UInt8.ofNat (u / 72057594037927936)].map u8) ?x4 ?x5 (u8_one _) ?c3 ?x7 ?c4 ?_; (case x1 => rfl); (case x2 => omega); (case x3 => rfl); (case x4 => rfl); (case x5 => exact one_u8 (cell8t u hu) rfl); (case x7 => omega); (case x8 => exact own_below (unhide HOWN) (by repeat (first | with_reducible exact Below.refl _ _ | with_reducible exact x | with_reducible refine Below.alloc ?_ (by first | omega | (simp; omega) | (simp; done)) _ | with_reducible refine Below.setCell ?_ (by first | omega | (simp; omega) | (simp; done)) _ | with_reducible refine Below.drew ?_ | with_reducible refine below_drewN ?_ _))); (case c3 => unfold maxLen; omega); (case c4 => simp; omega); clear hi0 hz0 hz1' hz2; intro v1 w1 hown1 hgrow hat; have hB1 : Below w.heap.size w w1 := (((unhide HB).alloc hsz _).grown hgrow (by simp; omega) (fun k hk => (own_ge' (unhide HOWN) _ hk).1)); have HB1 := hide hB1; have HO1 := hide hown1; clear hgrow hown1 hat hB1))
    go_roundw
    case rel => exact ⟨1, by omega, rfl, unhide HO1, unhide HB1⟩
    case measure => simp [intOf]
  by_cases hk1 : k = 0
  · subst hk1
    go_wp2_with (at_builtin; obtain ⟨i0, hi0, hz0, hz1', hz2⟩ := info_parts infoB; go_loud (refine wpList_append_any (S := fun _ => True) _ rfl _ _ _ rfl w.heap.size 5 i0 _ 1 1 Tryd.underlying26 hi0 hz0 hz1' hz2 ?x1 ?x2 (.slice Av 1 cv) 1 (((beL u 8).take 1).map u8) ?x3 ?x8 (some ⟨wr.heap.size, 0, none⟩) 1 1 ([UInt8.ofNat (u / 281474976710656)].map u8) ?x4 ?x5 (u8_one _) ?c3 ?x7 ?c4 ?_; (case x1 => rfl); (case x2 => omega); (case x3 => rfl); (case x4 => rfl); (case x5 => exact one_u8 (cell8 u 281474976710656) rfl); (case x7 => omega); (case x8 => exact own_below (unhide HOWN) (by repeat (first | with_reducible exact Below.refl _ _ | with_reducible exact x | with_reducible refine Below.alloc ?_ (by first | omega | (simp; omega) | (simp; done)) _ | with_reducible refine Below.setCell ?_ (by first | omega | (simp; omega) | (simp; done)) _ | with_reducible refine Below.drew ?_ | with_reducible refine below_drewN ?_ _))); (case c3 => unfold maxLen; omega); (case c4 => simp; omega); clear hi0 hz0 hz1' hz2; intro v1 w1 hown1 hgrow hat; have hB1 : Below w.heap.size w w1 := (((unhide HB).alloc hsz _).grown hgrow (by simp; omega) (fun k hk => (own_ge' (unhide HOWN) _ hk).1)); have HB1 := hide hB1; have HO1 := hide hown1; clear hgrow hown1 hat hB1))
    go_roundw
    case rel => exact ⟨2, by omega, rfl, unhide HO1, unhide HB1⟩
    case measure => simp [intOf]
  by_cases hk2 : k = 1
  · subst hk2
    go_wp2_with (at_builtin; obtain ⟨i0, hi0, hz0, hz1', hz2⟩ := info_parts infoB; go_loud (refine wpList_append_any (S := fun _ => True) _ rfl _ _ _ rfl w.heap.size 5 i0 _ 1 1 Tryd.underlying26 hi0 hz0 hz1' hz2 ?x1 ?x2 (.slice Av 2 cv) 2 (((beL u 8).take 2).map u8) ?x3 ?x8 (some ⟨wr.heap.size, 0, none⟩) 1 1 ([UInt8.ofNat (u / 1099511627776)].map u8) ?x4 ?x5 (u8_one _) ?c3 ?x7 ?c4 ?_; (case x1 => rfl); (case x2 => omega); (case x3 => rfl); (case x4 => rfl); (case x5 => exact one_u8 (cell8 u 1099511627776) rfl); (case x7 => omega); (case x8 => exact own_below (unhide HOWN) (by repeat (first | with_reducible exact Below.refl _ _ | with_reducible exact x | with_reducible refine Below.alloc ?_ (by first | omega | (simp; omega) | (simp; done)) _ | with_reducible refine Below.setCell ?_ (by first | omega | (simp; omega) | (simp; done)) _ | with_reducible refine Below.drew ?_ | with_reducible refine below_drewN ?_ _))); (case c3 => unfold maxLen; omega); (case c4 => simp; omega); clear hi0 hz0 hz1' hz2; intro v1 w1 hown1 hgrow hat; have hB1 : Below w.heap.size w w1 := (((unhide HB).alloc hsz _).grown hgrow (by simp; omega) (fun k hk => (own_ge' (unhide HOWN) _ hk).1)); have HB1 := hide hB1; have HO1 := hide hown1; clear hgrow hown1 hat hB1))
    go_roundw
    case rel => exact ⟨3, by omega, rfl, unhide HO1, unhide HB1⟩
    case measure => simp [intOf]
  by_cases hk3 : k = 2
  · subst hk3
    go_wp2_with (at_builtin; obtain ⟨i0, hi0, hz0, hz1', hz2⟩ := info_parts infoB; go_loud (refine wpList_append_any (S := fun _ => True) _ rfl _ _ _ rfl w.heap.size 5 i0 _ 1 1 Tryd.underlying26 hi0 hz0 hz1' hz2 ?x1 ?x2 (.slice Av 3 cv) 3 (((beL u 8).take 3).map u8) ?x3 ?x8 (some ⟨wr.heap.size, 0, none⟩) 1 1 ([UInt8.ofNat (u / 4294967296)].map u8) ?x4 ?x5 (u8_one _) ?c3 ?x7 ?c4 ?_; (case x1 => rfl); (case x2 => omega); (case x3 => rfl); (case x4 => rfl); (case x5 => exact one_u8 (cell8 u 4294967296) rfl); (case x7 => omega); (case x8 => exact own_below (unhide HOWN) (by repeat (first | with_reducible exact Below.refl _ _ | with_reducible exact x | with_reducible refine Below.alloc ?_ (by first | omega | (simp; omega) | (simp; done)) _ | with_reducible refine Below.setCell ?_ (by first | omega | (simp; omega) | (simp; done)) _ | with_reducible refine Below.drew ?_ | with_reducible refine below_drewN ?_ _))); (case c3 => unfold maxLen; omega); (case c4 => simp; omega); clear hi0 hz0 hz1' hz2; intro v1 w1 hown1 hgrow hat; have hB1 : Below w.heap.size w w1 := (((unhide HB).alloc hsz _).grown hgrow (by simp; omega) (fun k hk => (own_ge' (unhide HOWN) _ hk).1)); have HB1 := hide hB1; have HO1 := hide hown1; clear hgrow hown1 hat hB1))
    go_roundw
    case rel => exact ⟨4, by omega, rfl, unhide HO1, unhide HB1⟩
    case measure => simp [intOf]
  by_cases hk4 : k = 3
  · subst hk4
    go_wp2_with (at_builtin; obtain ⟨i0, hi0, hz0, hz1', hz2⟩ := info_parts infoB; go_loud (refine wpList_append_any (S := fun _ => True) _ rfl _ _ _ rfl w.heap.size 5 i0 _ 1 1 Tryd.underlying26 hi0 hz0 hz1' hz2 ?x1 ?x2 (.slice Av 4 cv) 4 (((beL u 8).take 4).map u8) ?x3 ?x8 (some ⟨wr.heap.size, 0, none⟩) 1 1 ([UInt8.ofNat (u / 16777216)].map u8) ?x4 ?x5 (u8_one _) ?c3 ?x7 ?c4 ?_; (case x1 => rfl); (case x2 => omega); (case x3 => rfl); (case x4 => rfl); (case x5 => exact one_u8 (cell8 u 16777216) rfl); (case x7 => omega); (case x8 => exact own_below (unhide HOWN) (by repeat (first | with_reducible exact Below.refl _ _ | with_reducible exact x | with_reducible refine Below.alloc ?_ (by first | omega | (simp; omega) | (simp; done)) _ | with_reducible refine Below.setCell ?_ (by first | omega | (simp; omega) | (simp; done)) _ | with_reducible refine Below.drew ?_ | with_reducible refine below_drewN ?_ _))); (case c3 => unfold maxLen; omega); (case c4 => simp; omega); clear hi0 hz0 hz1' hz2; intro v1 w1 hown1 hgrow hat; have hB1 : Below w.heap.size w w1 := (((unhide HB).alloc hsz _).grown hgrow (by simp; omega) (fun k hk => (own_ge' (unhide HOWN) _ hk).1)); have HB1 := hide hB1; have HO1 := hide hown1; clear hgrow hown1 hat hB1))
    go_roundw
    case rel => exact ⟨5, by omega, rfl, unhide HO1, unhide HB1⟩
    case measure => simp [intOf]
  by_cases hk5 : k = 4
  · subst hk5
    go_wp2_with (at_builtin; obtain ⟨i0, hi0, hz0, hz1', hz2⟩ := info_parts infoB; go_loud (refine wpList_append_any (S := fun _ => True) _ rfl _ _ _ rfl w.heap.size 5 i0 _ 1 1 Tryd.underlying26 hi0 hz0 hz1' hz2 ?x1 ?x2 (.slice Av 5 cv) 5 (((beL u 8).take 5).map u8) ?x3 ?x8 (some ⟨wr.heap.size, 0, none⟩) 1 1 ([UInt8.ofNat (u / 65536)].map u8) ?x4 ?x5 (u8_one _) ?c3 ?x7 ?c4 ?_; (case x1 => rfl); (case x2 => omega); (case x3 => rfl); (case x4 => rfl); (case x5 => exact one_u8 (cell8 u 65536) rfl); (case x7 => omega); (case x8 => exact own_below (unhide HOWN) (by repeat (first | with_reducible exact Below.refl _ _ | with_reducible exact x | with_reducible refine Below.alloc ?_ (by first | omega | (simp; omega) | (simp; done)) _ | with_reducible refine Below.setCell ?_ (by first | omega | (simp; omega) | (simp; done)) _ | with_reducible refine Below.drew ?_ | with_reducible refine below_drewN ?_ _))); (case c3 => unfold maxLen; omega); (case c4 => simp; omega); clear hi0 hz0 hz1' hz2; intro v1 w1 hown1 hgrow hat; have hB1 : Below w.heap.size w w1 := (((unhide HB).alloc hsz _).grown hgrow (by simp; omega) (fun k hk => (own_ge' (unhide HOWN) _ hk).1)); have HB1 := hide hB1; have HO1 := hide hown1; clear hgrow hown1 hat hB1))
    go_roundw
    case rel => exact ⟨6, by omega, rfl, unhide HO1, unhide HB1⟩
    case measure => simp [intOf]
  by_cases hk6 : k = 5
  · subst hk6
    go_wp2_with (at_builtin; obtain ⟨i0, hi0, hz0, hz1', hz2⟩ := info_parts infoB; go_loud (refine wpList_append_any (S := fun _ => True) _ rfl _ _ _ rfl w.heap.size 5 i0 _ 1 1 Tryd.underlying26 hi0 hz0 hz1' hz2 ?x1 ?x2 (.slice Av 6 cv) 6 (((beL u 8).take 6).map u8) ?x3 ?x8 (some ⟨wr.heap.size, 0, none⟩) 1 1 ([UInt8.ofNat (u / 256)].map u8) ?x4 ?x5 (u8_one _) ?c3 ?x7 ?c4 ?_; (case x1 => rfl); (case x2 => omega); (case x3 => rfl); (case x4 => rfl); (case x5 => exact one_u8 (cell8 u 256) rfl); (case x7 => omega); (case x8 => exact own_below (unhide HOWN) (by repeat (first | with_reducible exact Below.refl _ _ | with_reducible exact x | with_reducible refine Below.alloc ?_ (by first | omega | (simp; omega) | (simp; done)) _ | with_reducible refine Below.setCell ?_ (by first | omega | (simp; omega) | (simp; done)) _ | with_reducible refine Below.drew ?_ | with_reducible refine below_drewN ?_ _))); (case c3 => unfold maxLen; omega); (case c4 => simp; omega); clear hi0 hz0 hz1' hz2; intro v1 w1 hown1 hgrow hat; have hB1 : Below w.heap.size w w1 := (((unhide HB).alloc hsz _).grown hgrow (by simp; omega) (fun k hk => (own_ge' (unhide HOWN) _ hk).1)); have HB1 := hide hB1; have HO1 := hide hown1; clear hgrow hown1 hat hB1))
    go_roundw
    case rel => exact ⟨7, by omega, rfl, unhide HO1, unhide HB1⟩
    case measure => simp [intOf]
  by_cases hk7 : k = 6
  · subst hk7
    go_wp2_with (at_builtin; obtain ⟨i0, hi0, hz0, hz1', hz2⟩ := info_parts infoB; go_loud (refine wpList_append_any (S := fun _ => True) _ rfl _ _ _ rfl w.heap.size 5 i0 _ 1 1 Tryd.underlying26 hi0 hz0 hz1' hz2 ?x1 ?x2 (.slice Av 7 cv) 7 (((beL u 8).take 7).map u8) ?x3 ?x8 (some ⟨wr.heap.size, 0, none⟩) 1 1 ([UInt8.ofNat u].map u8) ?x4 ?x5 (u8_one _) ?c3 ?x7 ?c4 ?_; (case x1 => rfl); (case x2 => omega); (case x3 => rfl); (case x4 => rfl); (case x5 => exact one_u8 (cell8' u) rfl); (case x7 => omega); (case x8 => exact own_below (unhide HOWN) (by repeat (first | with_reducible exact Below.refl _ _ | with_reducible exact x | with_reducible refine Below.alloc ?_ (by first | omega | (simp; omega) | (simp; done)) _ | with_reducible refine Below.setCell ?_ (by first | omega | (simp; omega) | (simp; done)) _ | with_reducible refine Below.drew ?_ | with_reducible refine below_drewN ?_ _))); (case c3 => unfold maxLen; omega); (case c4 => simp; omega); clear hi0 hz0 hz1' hz2; intro v1 w1 hown1 hgrow hat; have hB1 : Below w.heap.size w w1 := (((unhide HB).alloc hsz _).grown hgrow (by simp; omega) (fun k hk => (own_ge' (unhide HOWN) _ hk).1)); have HB1 := hide hB1; have HO1 := hide hown1; clear hgrow hown1 hat hB1))
    go_roundw
    case rel => exact ⟨8, by omega, rfl, unhide HO1, unhide HB1⟩
    case measure => simp [intOf]
  obtain rfl : k = 7 := by omega
  go_wp2
  go_ret
  exact ⟨_, rfl, unhide HOWN, unhide HB⟩
theorem big_any (u s : Nat) (hs : s = 1 ∨ s = 2 ∨ s = 4 ∨ s = 8) (hu : u < 18446744073709551616) (w : World) :
    Calls Tryd.prog 131 #[.int .u64 u, .int .i64 s] w fun e w' => ∃ v, e = .returned v ∧ w'.ownsRow w.heap.size 5 1 v s ((beL u s).map u8) ∧ Below w.heap.size w w' := by
  rcases hs with rfl | rfl | rfl | rfl
  · exact big_1 u hu w
  · exact big_2 u hu w
  · exact big_4 u hu w
  · exact big_8 u hu w
end Go.Proofs.YtpadbpmnejgckaaDoor
