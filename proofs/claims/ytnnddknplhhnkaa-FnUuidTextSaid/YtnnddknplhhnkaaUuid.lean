/-
  encoding/hex.Encode writes two digits a byte into a row of the call's own; a uuid's text (UUID.String, impl.uuid, impl.UuidText). Conditions: there is room; the source is another block.
-/
import Derived.Test.YtnnddknplhhnkaaProg
import Derived.Test.YtnnddknplhhnkaaWords
import Derived.Laws.CopyOwn
import Derived.Laws.CopyRow
import Derived.Lib.BufferWrite
import Derived.Deep.WholeRow
import Derived.Laws.Tables
import Derived.Deep.RegionWith
import Derived.StillTailTactics
namespace Go.Proofs.Ytnnddknplhhnkaa
open Go.RowKit
/-- A hexadecimal digit. -/
def hexU (i : Nat) : UInt8 := [48, 49, 50, 51, 52, 53, 54, 55, 56, 57, 97, 98, 99, 100, 101, 102].getD i 0
theorem hex_at (i : Nat) (h : i < (⟨#[48, 49, 50, 51, 52, 53, 54, 55, 56, 57, 97, 98, 99, 100, 101, 102]⟩ : ByteArray).size) : (⟨#[48, 49, 50, 51, 52, 53, 54, 55, 56, 57, 97, 98, 99, 100, 101, 102]⟩ : ByteArray)[i] = hexU i := by
  have h' : i < 16 := h
  have : ∀ j : Fin 16, (⟨#[48, 49, 50, 51, 52, 53, 54, 55, 56, 57, 97, 98, 99, 100, 101, 102]⟩ : ByteArray)[j.val] = hexU j.val := by decide
  exact this ⟨i, h'⟩
/-- Cells behind k rounds of hex.Encode. -/
def hexTo (cs : Array Value) (o : Nat) (src : List UInt8) : Nat → Array Value
  | 0 => cs
  | k + 1 => ((hexTo cs o src k).setIfInBounds (o + 2 * k) (u8 (hexU ((src.getD k 0).toNat / 16)))).setIfInBounds (o + (2 * k + 1)) (u8 (hexU ((src.getD k 0).toNat % 16)))
theorem hexTo_size (cs : Array Value) (o : Nat) (src : List UInt8) (k : Nat) : (hexTo cs o src k).size = cs.size := by
  induction k with
  | zero => rfl
  | succ k ih => simp [hexTo, ih]
theorem grown_set {w w' : World} {g : Nat} (h : w.grownBy w' (some g)) (i : Nat) (v : Value) : w.grownBy (w'.setCell ⟨g, i, none⟩ v) (some g) :=
  ⟨h.os, h.tape, h.output, by simpa [World.setCell] using h.size, fun k hk hne => (Below.heap_setCell w' _ v k (fun e => hne (by rw [e]))).trans (h.block k hk hne)⟩
theorem size_set (w : World) (p : Addr) (v : Value) : (w.setCell p v).heap.size = w.heap.size := by simp [World.setCell]
set_option maxHeartbeats 400000 in
theorem encode_any (g o1 n1 c1 h o2 n c2 : Nat) (t : TypeId) (cs0 : Array Value) (src : List UInt8) (w : World) (hn : n = src.length) (hg : Blk w g t cs0) (hne : g ≠ h) (hn1 : 2 * n ≤ n1) (hsz : o1 + 2 * n ≤ cs0.size) (hlen : n ≤ 1000000) (_ho1 : o1 ≤ 1000000)
    (hsrc : ∀ k (hk : k < src.length), w.cell? ⟨h, o2 + k, none⟩ = some (u8 src[k])) :
    Calls Try.prog 7 #[.slice (some ⟨g, o1, none⟩) n1 c1, .slice (some ⟨h, o2, none⟩) n c2] w fun e w' => e = .returned (.int .i64 (n * 2)) ∧ w.grownBy w' (some g) ∧ w'.heap.size = w.heap.size ∧ Blk w' g t (hexTo cs0 o1 src n) := by
  subst hn
  go_enter Try.func7, Try.ntmps7
  go_wp2
  go_loopw [5, 10] (fun j i wr => ∃ k : Nat, k ≤ src.length ∧ i = .int .i64 k ∧ j = .int .i64 ((2 * k : Nat) : Int) ∧ w.grownBy wr (some g) ∧ wr.heap.size = w.heap.size ∧ Blk wr g t (hexTo cs0 o1 src k)) (fun _ i _ => src.length - (intOf i).toNat)
  case atStart => exact ⟨0, Nat.zero_le _, rfl, rfl, World.grownBy.refl _ _, rfl, hg⟩
  case round =>
    obtain ⟨k, hk, rfl, rfl, hgr, hz, hb⟩ := hrel
    by_cases hlt : k < src.length
    · have hgh : ¬ h = g := fun e => hne e.symm
      have hc := hgr.cell (hsrc k hlt) (by simp [hgh])
      unfold u8 at hc
      have hv := UInt8.toNat_lt src[k]
      have hsk := hexTo_size cs0 o1 src k
      obtain ⟨y0, hy0⟩ : ∃ y, wr.cell? ⟨g, o1 + 2 * k, none⟩ = some y := ⟨_, (hb.cell _).trans (Array.getElem?_eq_getElem (by omega))⟩
      obtain ⟨y1, hy1⟩ : ∃ y, wr.cell? ⟨g, o1 + (2 * k + 1), none⟩ = some y := ⟨_, (hb.cell _).trans (Array.getElem?_eq_getElem (by omega))⟩
      have hf0 := hb.frozen (o1 + 2 * k)
      have hf1 := hb.frozen (o1 + (2 * k + 1))
      clear hsk
      go_wp2
      have hgd : src.getD k 0 = src[k] := by simp [hlt]
      refine ⟨⟨k + 1, by omega, by go_num, by go_num, grown_set (grown_set hgr _ _) _ _, by rw [size_set, size_set, hz], ?_⟩, by simp [intOf]; omega⟩
      have := (hb.set_ (o1 + 2 * k) (u8 (hexU ((src.getD k 0).toNat / 16)))).set_ (o1 + (2 * k + 1)) (u8 (hexU ((src.getD k 0).toNat % 16)))
      rw [hex_at, hex_at]
      rw [hgd] at this
      simpa [hexTo, u8, hlt] using this
    · obtain rfl : k = src.length := by omega
      go_wp2
      go_ret
      exact ⟨rfl, hgr, hz, hb⟩
theorem cells_text {P : Program} (src dst e : TypeId) (hs : P.underlying src = some (.slice e)) (he : P.underlying e = some (.int .u8)) (hd : P.underlying dst = some .string) {w : World} {g : Nat} {t : TypeId} {cs : Array Value} (hb : Blk w g t cs) {l : List UInt8} (hc : cs = (l.map u8).toArray) (n : Nat) (hn : l.length = n) :
    ∀ c, (convert src dst (.slice (some ⟨g, 0, none⟩) n c)).run P w = .ok (.string ⟨l.toArray⟩) w := by
  subst hc hn
  refine fun c => run_string_of_bytes (S := fun _ => True) src dst e hs he hd ⟨by simp, fun _ => ⟨_, rfl, trivial, fun j u hu => ?_⟩⟩ c
  have := hb.cell j
  rw [List.getElem?_toArray, hu] at this
  rcases j with _ | j
  · exact this
  · simpa [Addr.add] using this
/-- The text of a uuid. -/
def uuidTxt (bs : List UInt8) : List UInt8 :=
  let x := fun (l : List UInt8) => l.flatMap fun b => [hexU (b.toNat / 16), hexU (b.toNat % 16)]
  x (bs.take 4) ++ 45 :: (x ((bs.drop 4).take 2) ++ 45 :: (x ((bs.drop 6).take 2) ++ 45 :: (x ((bs.drop 8).take 2) ++ 45 :: x (bs.drop 10))))
/-- The cells of a uuid's text. -/
def uuidCells (bs : List UInt8) : Array Value := (hexTo (((hexTo (((hexTo (((hexTo (((hexTo (Array.replicate 36 (.int .u8 0)) 0 ((bs.drop 0).take 4) 4).setIfInBounds 8 (.int .u8 45))) 9 ((bs.drop 4).take 2) 2).setIfInBounds 13 (.int .u8 45))) 14 ((bs.drop 6).take 2) 2).setIfInBounds 18 (.int .u8 45))) 19 ((bs.drop 8).take 2) 2).setIfInBounds 23 (.int .u8 45))) 24 ((bs.drop 10).take 6) 6)
theorem part_at (bs : List UInt8) (o n k : Nat) (hk : k < ((bs.drop o).take n).length) : (bs.map u8).toArray[o + k]? = some (u8 ((bs.drop o).take n)[k]) := by
  have : o + k < bs.length := by simp at hk; omega
  rw [List.getElem?_toArray, List.getElem?_map, List.getElem?_eq_getElem this]
  simp
set_option maxRecDepth 100000 in
theorem uuidCells_core (a0 a1 a2 a3 a4 a5 a6 a7 a8 a9 a10 a11 a12 a13 a14 a15 : UInt8) : uuidCells [a0, a1, a2, a3, a4, a5, a6, a7, a8, a9, a10, a11, a12, a13, a14, a15] = ((uuidTxt [a0, a1, a2, a3, a4, a5, a6, a7, a8, a9, a10, a11, a12, a13, a14, a15]).map u8).toArray := by kernel_rfl
theorem uuidCells_eq (bs : List UInt8) (hl : bs.length = 16) : uuidCells bs = ((uuidTxt bs).map u8).toArray := by
  match bs, hl with
  | [a0, a1, a2, a3, a4, a5, a6, a7, a8, a9, a10, a11, a12, a13, a14, a15], _ => exact uuidCells_core _ _ _ _ _ _ _ _ _ _ _ _ _ _ _ _
theorem uuidTxt_len (bs : List UInt8) (hl : bs.length = 16) : (uuidTxt bs).length = 36 := by
  match bs, hl with
  | [a0, a1, a2, a3, a4, a5, a6, a7, a8, a9, a10, a11, a12, a13, a14, a15], _ => simp [uuidTxt]
set_option maxRecDepth 100000 in
set_option maxHeartbeats 1600000 in
theorem uuidString_any (bs : List UInt8) (hl : bs.length = 16) (w : World) :
    Calls Try.prog 6 #[.agg (bs.map u8).toArray] w fun e w' => e = .returned (.string ⟨(uuidTxt bs).toArray⟩) ∧ Below w.heap.size w w' := by
  have hL := hide hl
  clear hl
  go_enter Try.func6, Try.ntmps6
  go_wp2
  have hb0 : Blk (w.alloc (Obj.cells (List.map u8 bs).toArray 28)) w.heap.size 28 (bs.map u8).toArray := Blk.new _ _ _
  have hbel : Below w.heap.size w (w.alloc (Obj.cells (List.map u8 bs).toArray 28)) := (Below.refl _ _).alloc (Nat.le_refl _) _
  have hz0 : (w.alloc (Obj.cells (List.map u8 bs).toArray 28)).heap.size = w.heap.size + 1 := by simp
  generalize w.alloc (Obj.cells (List.map u8 bs).toArray 28) = W0 at *
  obtain ⟨g, hg⟩ : ∃ g, g = w.heap.size + 1 := ⟨_, rfl⟩
  rw [← hg] at hz0 ⊢
  obtain ⟨h, hh⟩ : ∃ h, h = w.heap.size := ⟨_, rfl⟩
  rw [← hh] at hb0 hbel ⊢
  have hgh : g ≠ h := by omega
  have hhg : h ≤ g := by omega
  have HH := hide hh
  clear hg hh
  generalize hW1 : World.alloc W0 _ = W1
  have hs : Blk W1 h 28 (bs.map u8).toArray := by rw [← hW1]; exact hb0.alloc _
  have hb : Blk W1 g 31 (Array.replicate 36 (.int .u8 0)) := by rw [← hW1]; exact hz0 ▸ Blk.new _ _ _
  have hB : Below h w W1 := by rw [← hW1]; exact hbel.alloc (by omega) _
  clear hW1 hbel hb0 hz0
  obtain ⟨cs, hcs⟩ : ∃ cs, cs = Array.replicate 36 (Value.int .u8 0) := ⟨_, rfl⟩
  have hsz : cs.size = 36 := by rw [hcs]; rfl
  rw [← hcs] at hb
  have HC := hide hcs
  have HZ := hide hsz
  clear hcs hsz
  go_still_tail 2, (by kernel_rfl)
  change wpList _ _ _ _ _ W1.drew
  replace hs : Blk W1.drew h 28 (bs.map u8).toArray := hs
  replace hb : Blk W1.drew g 31 cs := hb
  replace hB : Below h w W1.drew := hB.drew
  generalize W1.drew = W2 at *
  have hsrc : ∀ k (hk : k < ((bs.drop 0).take 4).length), W2.cell? ⟨h, 0 + k, none⟩ = some (u8 ((bs.drop 0).take 4)[k]) := fun k hk => (hs.cell _).trans (part_at bs 0 4 k hk)
  have HS := hide hsrc
  clear hsrc
  go_wp2_with (go_at_call 7; go_loud (refine (encode_any g 0 8 _ h 0 4 _ 31 cs ((bs.drop 0).take 4) _ (by have := unhide hL; simp; omega) hb hgh (by omega) (by have := unhide HZ; omega) (by omega) (by omega) (unhide HS)).mono ?_; rintro e w1 ⟨rfl, hgr, hz, hb1⟩); obtain ⟨y, hc⟩ : ∃ y, w1.cell? ⟨g, 8, none⟩ = some y := ⟨_, (hb1.cell 8).trans (Array.getElem?_eq_getElem (by rw [hexTo_size]; have := unhide HZ; omega))⟩; have hf := hb1.frozen 8)
  clear hc hf
  replace hB := (hB.grown hgr (Nat.le_of_lt hs.lt) (fun k hk => by simp at hk; omega)).setCell (p := ⟨g, 8, none⟩) hhg (.int .u8 45)
  replace hs := (hs.grown hgr (fun e => hgh (Option.some.inj e).symm)).far (p := ⟨g, 8, none⟩) (fun e => hgh e.symm) (.int .u8 45)
  replace hb := hb1.set_ 8 (.int .u8 45)
  generalize hcs' : (hexTo cs 0 ((bs.drop 0).take 4) 4).setIfInBounds 8 (Value.int .u8 45) = cs1 at *
  have hsz : cs1.size = 36 := by rw [← hcs', Array.size_setIfInBounds, hexTo_size, unhide HZ]
  rw [unhide HC] at hcs'
  clear hb1 hgr hz HS HC HZ
  generalize hW : w1.setCell _ _ = W1 at *
  clear hW
  have HC := hide hcs'.symm
  have HZ := hide hsz
  clear hcs' hsz
  go_still_tail 2, (by kernel_rfl)
  change wpList _ _ _ _ _ W1.drew
  replace hs : Blk W1.drew h 28 (bs.map u8).toArray := hs
  replace hb : Blk W1.drew g 31 cs1 := hb
  replace hB : Below h w W1.drew := hB.drew
  generalize W1.drew = W2 at *
  have hsrc : ∀ k (hk : k < ((bs.drop 4).take 2).length), W2.cell? ⟨h, 4 + k, none⟩ = some (u8 ((bs.drop 4).take 2)[k]) := fun k hk => (hs.cell _).trans (part_at bs 4 2 k hk)
  have HS := hide hsrc
  clear hsrc
  go_wp2_with (go_at_call 7; go_loud (refine (encode_any g 9 4 _ h 4 2 _ 31 cs1 ((bs.drop 4).take 2) _ (by have := unhide hL; simp; omega) hb hgh (by omega) (by have := unhide HZ; omega) (by omega) (by omega) (unhide HS)).mono ?_; rintro e w1 ⟨rfl, hgr, hz, hb1⟩); obtain ⟨y, hc⟩ : ∃ y, w1.cell? ⟨g, 13, none⟩ = some y := ⟨_, (hb1.cell 13).trans (Array.getElem?_eq_getElem (by rw [hexTo_size]; have := unhide HZ; omega))⟩; have hf := hb1.frozen 13)
  clear hc hf
  replace hB := (hB.grown hgr (Nat.le_of_lt hs.lt) (fun k hk => by simp at hk; omega)).setCell (p := ⟨g, 13, none⟩) hhg (.int .u8 45)
  replace hs := (hs.grown hgr (fun e => hgh (Option.some.inj e).symm)).far (p := ⟨g, 13, none⟩) (fun e => hgh e.symm) (.int .u8 45)
  replace hb := hb1.set_ 13 (.int .u8 45)
  generalize hcs' : (hexTo cs1 9 ((bs.drop 4).take 2) 2).setIfInBounds 13 (Value.int .u8 45) = cs2 at *
  have hsz : cs2.size = 36 := by rw [← hcs', Array.size_setIfInBounds, hexTo_size, unhide HZ]
  rw [unhide HC] at hcs'
  clear hb1 hgr hz HS HC HZ
  generalize hW : w1.setCell _ _ = W1 at *
  clear hW
  have HC := hide hcs'.symm
  have HZ := hide hsz
  clear hcs' hsz
  go_still_tail 2, (by kernel_rfl)
  change wpList _ _ _ _ _ W1.drew
  replace hs : Blk W1.drew h 28 (bs.map u8).toArray := hs
  replace hb : Blk W1.drew g 31 cs2 := hb
  replace hB : Below h w W1.drew := hB.drew
  generalize W1.drew = W2 at *
  have hsrc : ∀ k (hk : k < ((bs.drop 6).take 2).length), W2.cell? ⟨h, 6 + k, none⟩ = some (u8 ((bs.drop 6).take 2)[k]) := fun k hk => (hs.cell _).trans (part_at bs 6 2 k hk)
  have HS := hide hsrc
  clear hsrc
  go_wp2_with (go_at_call 7; go_loud (refine (encode_any g 14 4 _ h 6 2 _ 31 cs2 ((bs.drop 6).take 2) _ (by have := unhide hL; simp; omega) hb hgh (by omega) (by have := unhide HZ; omega) (by omega) (by omega) (unhide HS)).mono ?_; rintro e w1 ⟨rfl, hgr, hz, hb1⟩); obtain ⟨y, hc⟩ : ∃ y, w1.cell? ⟨g, 18, none⟩ = some y := ⟨_, (hb1.cell 18).trans (Array.getElem?_eq_getElem (by rw [hexTo_size]; have := unhide HZ; omega))⟩; have hf := hb1.frozen 18)
  clear hc hf
  replace hB := (hB.grown hgr (Nat.le_of_lt hs.lt) (fun k hk => by simp at hk; omega)).setCell (p := ⟨g, 18, none⟩) hhg (.int .u8 45)
  replace hs := (hs.grown hgr (fun e => hgh (Option.some.inj e).symm)).far (p := ⟨g, 18, none⟩) (fun e => hgh e.symm) (.int .u8 45)
  replace hb := hb1.set_ 18 (.int .u8 45)
  generalize hcs' : (hexTo cs2 14 ((bs.drop 6).take 2) 2).setIfInBounds 18 (Value.int .u8 45) = cs3 at *
  have hsz : cs3.size = 36 := by rw [← hcs', Array.size_setIfInBounds, hexTo_size, unhide HZ]
  rw [unhide HC] at hcs'
  clear hb1 hgr hz HS HC HZ
  generalize hW : w1.setCell _ _ = W1 at *
  clear hW
  have HC := hide hcs'.symm
  have HZ := hide hsz
  clear hcs' hsz
  go_still_tail 2, (by kernel_rfl)
  change wpList _ _ _ _ _ W1.drew
  replace hs : Blk W1.drew h 28 (bs.map u8).toArray := hs
  replace hb : Blk W1.drew g 31 cs3 := hb
  replace hB : Below h w W1.drew := hB.drew
  generalize W1.drew = W2 at *
  have hsrc : ∀ k (hk : k < ((bs.drop 8).take 2).length), W2.cell? ⟨h, 8 + k, none⟩ = some (u8 ((bs.drop 8).take 2)[k]) := fun k hk => (hs.cell _).trans (part_at bs 8 2 k hk)
  have HS := hide hsrc
  clear hsrc
  go_wp2_with (go_at_call 7; go_loud (refine (encode_any g 19 4 _ h 8 2 _ 31 cs3 ((bs.drop 8).take 2) _ (by have := unhide hL; simp; omega) hb hgh (by omega) (by have := unhide HZ; omega) (by omega) (by omega) (unhide HS)).mono ?_; rintro e w1 ⟨rfl, hgr, hz, hb1⟩); obtain ⟨y, hc⟩ : ∃ y, w1.cell? ⟨g, 23, none⟩ = some y := ⟨_, (hb1.cell 23).trans (Array.getElem?_eq_getElem (by rw [hexTo_size]; have := unhide HZ; omega))⟩; have hf := hb1.frozen 23)
  clear hc hf
  replace hB := (hB.grown hgr (Nat.le_of_lt hs.lt) (fun k hk => by simp at hk; omega)).setCell (p := ⟨g, 23, none⟩) hhg (.int .u8 45)
  replace hs := (hs.grown hgr (fun e => hgh (Option.some.inj e).symm)).far (p := ⟨g, 23, none⟩) (fun e => hgh e.symm) (.int .u8 45)
  replace hb := hb1.set_ 23 (.int .u8 45)
  generalize hcs' : (hexTo cs3 19 ((bs.drop 8).take 2) 2).setIfInBounds 23 (Value.int .u8 45) = cs4 at *
  have hsz : cs4.size = 36 := by rw [← hcs', Array.size_setIfInBounds, hexTo_size, unhide HZ]
  rw [unhide HC] at hcs'
  clear hb1 hgr hz HS HC HZ
  generalize hW : w1.setCell _ _ = W1 at *
  clear hW
  have HC := hide hcs'.symm
  have HZ := hide hsz
  clear hcs' hsz
  go_still_tail 2, (by kernel_rfl)
  change wpList _ _ _ _ _ W1.drew
  replace hs : Blk W1.drew h 28 (bs.map u8).toArray := hs
  replace hb : Blk W1.drew g 31 cs4 := hb
  replace hB : Below h w W1.drew := hB.drew
  generalize W1.drew = W2 at *
  have hsrc : ∀ k (hk : k < ((bs.drop 10).take 6).length), W2.cell? ⟨h, 10 + k, none⟩ = some (u8 ((bs.drop 10).take 6)[k]) := fun k hk => (hs.cell _).trans (part_at bs 10 6 k hk)
  have HS := hide hsrc
  clear hsrc
  go_wp2_with (go_at_call 7; go_loud (refine (encode_any g 24 12 _ h 10 6 _ 31 cs4 ((bs.drop 10).take 6) _ (by have := unhide hL; simp; omega) hb hgh (by omega) (by have := unhide HZ; omega) (by omega) (by omega) (unhide HS)).mono ?_; rintro e w1 ⟨rfl, hgr, hz, hb1⟩); go_loud (have hcv := cells_text (P := Try.prog) 25 9 5 Try.underlying25 Try.underlying5 Try.underlying9 hb1 (l := uuidTxt bs) ?x1 36 (uuidTxt_len bs (unhide hL)); (case x1 => rw [← uuidCells_eq bs (unhide hL), unhide HC]; rfl)))
  go_ret
  exact ⟨rfl, unhide HH ▸ hB.grown hgr (Nat.le_of_lt hs.lt) (fun k hk => by simp at hk; omega)⟩
set_option maxRecDepth 100000 in
set_option maxHeartbeats 800000 in
theorem uuid_any (s : ByteArray) (hl : s.size = 16) (w : World) :
    Calls Try.prog 5 #[.string s] w fun e w' => e = .returned (.agg (s.data.toList.map u8).toArray) ∧ Below w.heap.size w w' := by
  have hcp : ∀ ty, (Builtin.copy_ #[25, 9] ty #[.slice (some ⟨w.heap.size, 0, none⟩) 16 16, .string s]).run Try.prog (w.alloc (.cells #[.int .u8 0, .int .u8 0, .int .u8 0, .int .u8 0, .int .u8 0, .int .u8 0, .int .u8 0, .int .u8 0, .int .u8 0, .int .u8 0, .int .u8 0, .int .u8 0, .int .u8 0, .int .u8 0, .int .u8 0, .int .u8 0] 28)) = .ok (goInt 16) (w.alloc (.cells (s.data.toList.map u8).toArray 28)) := fun ty => by
    rw [Lib.run_copy_row_string (P := Try.prog) _ 25 9 ty 5 w.heap.size 0 16 16 s _ 28 Try.underlying25 (by kernel_rfl) (Blk.new _ _ _) (by omega) (by simp [hl])]
    rw [World.setRow_alloc_new, hl]
    simp
    rfl
  have HH := hide hl
  have hs : ((s.size : Int) != 16) = false := by simp [hl]
  have hsz : (s.data.toList.map u8).toArray.size = 16 := by simp [← hl]
  have hS := hide hsz
  clear hl hsz
  go_enter Try.func5, Try.ntmps5
  go_wp2_with (first | (refine wpList_load_row rfl 28 (.tmp 2) rfl w.heap.size rfl 28 _ (0, 0) _ (Blk.new _ _ _) Try.underlying28 rfl ?x1 ?_; (case x1 => rw [unhide hS]; kernel_rfl)) | (refine wpList_store_row rfl 28 (.tmp 2) (.tmp 10) rfl w.heap.size _ rfl rfl 28 _ (Blk.new _ _ _) ?x2 rfl ?x3 ?_; (case x2 => rw [unhide hS]; kernel_rfl); (case x3 => rw [Array.all_eq_true_iff_forall_mem]; intro x hx; obtain ⟨b, _, rfl⟩ : ∃ b, b ∈ s.data ∧ u8 b = x := (by simpa using hx); rfl); rw [World.setRow_alloc_new]))
  refine bodyPost_ret (v := .agg (s.data.toList.map u8).toArray) (results_cell_row (p := 2) (ty := 28) rfl _ _ w.heap.size 28 _ (0, 0) _ rfl (Blk.new _ _ _) Try.underlying28 rfl (by rw [unhide hS]; kernel_rfl)) rfl ⟨rfl, (Below.refl _ _).alloc (Nat.le_refl _) _⟩
end Go.Proofs.Ytnnddknplhhnkaa
