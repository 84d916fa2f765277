/-
  Ways through spec.constructor.take: bytes, strings, symbols.
-/
import Derived.Test.YtkokeohlbmccpaaGreatDoorTake3
import Derived.Deep.RegionHeld3
import Derived.Deep.RegionWith
namespace Go.Proofs.YtkokeohlbmccpaaGreatDoor
set_option linter.unusedSimpArgs false
set_option linter.unusedVariables false
open Go.RowKit
set_option maxRecDepth 100000 in
set_option maxHeartbeats 4000000 in
theorem take_textS (lv' : Int) (Q S : Nat → Prop) (D : Option Addr) (desc : List AV) (dc : Nat) (ys : List Value) (code : Nat) (A : Option Addr) (bs : List UInt8) (cap : Nat) (w : World) (hdc : desc.length ≤ dc) (hdm : dc ≤ maxLen) (hrD : Reads w Q 6 D desc.length ys) (hcD : AVsC w Q desc ys) (hcode : code < 256)
    (hr : RB w S A bs) (hc : bs.length ≤ cap) (hcap : cap ≤ 9223372036854775807) (h40 : bs.length ≤ 1099511627776) (hS : Old w S) (hQ : Old w Q) (kind size u : Nat) (hk : kRes code = ((kind : Int), (size : Int), true)) (h8 : size ≤ 8) (hl : size ≤ bs.length) (hu : bigA (bs.take size) = u) (hu8 : u < 18446744073709551616) (h18 : 18 ≤ kind) (h20 : kind ≤ 20) (hc69 : code ≠ 69) (hul : bs.length - size < u) :
    Calls Tryz.prog 23 #[.agg #[.slice D desc.length dc, .int .i64 code], .slice A bs.length cap, .int .i64 lv'] w (TookV Q S w (none)) := by
  obtain ⟨T, hT⟩ : ∃ T, T = TookV Q S w (none) := ⟨_, rfl⟩
  rw [← hT]
  have HT := hide hT
  clear hT
  have HRD := hide hrD
  have HCD := hide hcD
  clear hrD hcD
  unfold maxLen at hdm
  go_enter Tryz.func23, Tryz.ntmps23
  go_wp2_with fail
  refine (kindOf_any code hcode _).mono ?_
  rw [hk]
  rintro e w1 ⟨rfl, hb1⟩
  have hw1 : Below w.heap.size w w1 := ((((Below.refl w.heap.size w).alloc (Nat.le_refl _) _).alloc (by first | omega | (simp; omega) | (simp; done)) _).alloc (by first | omega | (simp; omega) | (simp; done)) _).trans (hb1.mono (by simp; omega))
  have hB0 : Blk w1 w.heap.size 65 #[.slice D desc.length dc, .int .i64 code] := (Blk.alloc (Blk.alloc (Blk.new w _ _) _) _).below hb1 (by first | omega | (simp; omega) | (simp; done))
  have hB1 : Blk w1 (w.heap.size + 1) 30 #[.int .i64 0, .int .u64 0, .string ⟨#[]⟩, .slice none 0 0, .int .i64 0, .slice none 0 0] := (Blk.alloc (Blk.new' (by simp)) _).below hb1 (by first | omega | (simp; omega) | (simp; done))
  have hB2 : Blk w1 (w.heap.size + 1 + 1) 30 #[.int .i64 0, .int .u64 0, .string ⟨#[]⟩, .slice none 0 0, .int .i64 0, .slice none 0 0] := (Blk.new' (by simp)).below hb1 (by first | omega | (simp; omega) | (simp; done))
  have hz2 : w.heap.size + 1 + 1 < w1.heap.size := by have := hb1.size; simp at this; omega
  have hz1 : w.heap.size + 1 < w1.heap.size := by omega
  have hz0 : w.heap.size < w1.heap.size := by omega
  have HW1 := hide hw1
  have c0 := hB0.cell 0
  have c1 := hB0.cell 1
  simp only [List.getElem?_toArray, List.getElem?_cons_zero, List.getElem?_cons_succ] at c0 c1
  obtain ⟨⟨r0, r1, r2, r3, r4, r5⟩, ⟨s0, s1, s2, s3, s4, s5⟩⟩ := six_cells hB1
  obtain ⟨⟨n0, n1, n2, n3, n4, n5⟩, _⟩ := six_cells hB2
  have HBK1 := hide hB1
  clear hw1 hb1 hB0 hB1 hB2
  simp only
  have hst1 : Stays S w w1 := stays_below (Stays.refl _ _) (unhide HW1) hS
  have ho1 : Old w1 S := old_below (unhide HW1) hS
  have t69 : ((code : Int) == 69) = false := by simp; omega
  have t0 : ((kind : Int) == 0) = false := by simp; omega
  have t1 : ((kind : Int) == 1) = false := by simp; omega
  have t21 : ¬ (21 : Int) ≤ (kind : Int) := by omega
  have t18 : (18 : Int) ≤ (kind : Int) := by omega
  have hgt : ((bs.length - size : Nat) : Int) < (u : Int) := by omega
  have t16 : ((size : Int) == 16) = false := by simp; omega
  have hcut := hr.cut hl hc
  have hBig := fun (W : World) (h : Stays S w W) => takeBig_ok S A bs cap size W (hr.keep h) hc hcap hl h8
  rw [hu] at hBig
  have HU := hide hu
  clear hu
  go_wp2_with fail
  refine (hBig _ (by go_simp)).mono ?_
  rintro e w3 ⟨rfl, ⟨nq, rfl⟩⟩
  clear hBig
  go_wp2
  rw [unhide HT]
  refine bodyPost_ret (v := .tuple #[avV 0 0 [] none 0 0 0 none 0 0, .slice none 0 0, .bool false]) (by simp [results, Tryz.results23, go_sem, r0, r1, r2, r3, r4, r5, hz0, hz1, hz2]) rfl ?_
  have hw1 := unhide HW1
  exact tookV_none (by repeat (first | with_reducible exact Below.refl _ _ | with_reducible exact hw1 | with_reducible refine Below.alloc ?_ (by first | omega | (simp; omega) | (simp; done)) _ | with_reducible refine Below.setCell ?_ (by first | omega | (simp; omega) | (simp; done)) _ | with_reducible refine Below.drew ?_ | with_reducible refine below_drewN ?_ _))
set_option maxRecDepth 100000 in
set_option maxHeartbeats 4000000 in
theorem take_text18 (lv' : Int) (Q S : Nat → Prop) (D : Option Addr) (desc : List AV) (dc : Nat) (ys : List Value) (code : Nat) (A : Option Addr) (bs : List UInt8) (cap : Nat) (w : World) (hdc : desc.length ≤ dc) (hdm : dc ≤ maxLen) (hrD : Reads w Q 6 D desc.length ys) (hcD : AVsC w Q desc ys) (hcode : code < 256)
    (hr : RB w S A bs) (hc : bs.length ≤ cap) (hcap : cap ≤ 9223372036854775807) (h40 : bs.length ≤ 1099511627776) (hS : Old w S) (hQ : Old w Q) (size u : Nat) (hk : kRes code = (18, (size : Int), true)) (h8 : size ≤ 8) (hl : size ≤ bs.length) (hu : bigA (bs.take size) = u) (hu8 : u < 18446744073709551616) (hc69 : code ≠ 69) (hul : u ≤ bs.length - size) :
    Calls Tryz.prog 23 #[.agg #[.slice D desc.length dc, .int .i64 code], .slice A bs.length cap, .int .i64 lv'] w (TookV Q S w (some (.mk 18 0 ((bs.drop size).take u) [] 0 desc, (bs.drop size).drop u))) := by
  obtain ⟨txt, htxt⟩ : ∃ t, t = (bs.drop size).take u := ⟨_, rfl⟩
  rw [← htxt]
  have htl : txt.length ≤ 1099511627776 := by rw [htxt]; simp; omega
  have HX := hide htxt
  clear htxt
  obtain ⟨T, hT⟩ : ∃ T, T = TookV Q S w (some (.mk 18 0 txt [] 0 desc, (bs.drop size).drop u)) := ⟨_, rfl⟩
  rw [← hT]
  have HT := hide hT
  clear hT
  have HRD := hide hrD
  have HCD := hide hcD
  clear hrD hcD
  unfold maxLen at hdm
  go_enter Tryz.func23, Tryz.ntmps23
  go_wp2_with fail
  refine (kindOf_any code hcode _).mono ?_
  rw [hk]
  rintro e w1 ⟨rfl, hb1⟩
  have hw1 : Below w.heap.size w w1 := ((((Below.refl w.heap.size w).alloc (Nat.le_refl _) _).alloc (by first | omega | (simp; omega) | (simp; done)) _).alloc (by first | omega | (simp; omega) | (simp; done)) _).trans (hb1.mono (by simp; omega))
  have hB0 : Blk w1 w.heap.size 65 #[.slice D desc.length dc, .int .i64 code] := (Blk.alloc (Blk.alloc (Blk.new w _ _) _) _).below hb1 (by first | omega | (simp; omega) | (simp; done))
  have hB1 : Blk w1 (w.heap.size + 1) 30 #[.int .i64 0, .int .u64 0, .string ⟨#[]⟩, .slice none 0 0, .int .i64 0, .slice none 0 0] := (Blk.alloc (Blk.new' (by simp)) _).below hb1 (by first | omega | (simp; omega) | (simp; done))
  have hB2 : Blk w1 (w.heap.size + 1 + 1) 30 #[.int .i64 0, .int .u64 0, .string ⟨#[]⟩, .slice none 0 0, .int .i64 0, .slice none 0 0] := (Blk.new' (by simp)).below hb1 (by first | omega | (simp; omega) | (simp; done))
  have hz2 : w.heap.size + 1 + 1 < w1.heap.size := by have := hb1.size; simp at this; omega
  have hz1 : w.heap.size + 1 < w1.heap.size := by omega
  have hz0 : w.heap.size < w1.heap.size := by omega
  have HW1 := hide hw1
  have c0 := hB0.cell 0
  have c1 := hB0.cell 1
  simp only [List.getElem?_toArray, List.getElem?_cons_zero, List.getElem?_cons_succ] at c0 c1
  obtain ⟨⟨r0, r1, r2, r3, r4, r5⟩, ⟨s0, s1, s2, s3, s4, s5⟩⟩ := six_cells hB1
  obtain ⟨⟨n0, n1, n2, n3, n4, n5⟩, _⟩ := six_cells hB2
  have HBK1 := hide hB1
  clear hw1 hb1 hB0 hB1 hB2
  simp only
  have hst1 : Stays S w w1 := stays_below (Stays.refl _ _) (unhide HW1) hS
  have ho1 : Old w1 S := old_below (unhide HW1) hS
  have t69 : ((code : Int) == 69) = false := by simp; omega
  have hle : ¬ ((bs.length - size : Nat) : Int) < (u : Int) := by omega
  have hle2 : (u : Int) ≤ ((bs.length - size : Nat) : Int) := by omega
  have hle3 : (u : Int) ≤ ((cap - size : Nat) : Int) := by omega
  have hcv : ∀ (W : World) (c : Nat), Stays S w W → (convert 22 9 (.slice (cutA A cap size 1) u c)).run Tryz.prog W = .ok (.string ⟨txt.toArray⟩) W := fun W c hw => by
    have h := run_string_of_bytes (P := Tryz.prog) 22 9 5 Tryz.underlying22 Tryz.underlying5 Tryz.underlying9 (((hr.cut hl hc).keep hw).take (k := u) (by simpa using hul)) c
    rw [unhide HX]
    rwa [List.length_take, Nat.min_eq_left (by simpa using hul)] at h
  have t16 : ((size : Int) == 16) = false := by simp; omega
  have hcut := hr.cut hl hc
  have hBig := fun (W : World) (h : Stays S w W) => takeBig_ok S A bs cap size W (hr.keep h) hc hcap hl h8
  rw [hu] at hBig
  have HU := hide hu
  clear hu
  go_wp2_with fail
  refine (hBig _ (by go_simp)).mono ?_
  rintro e w3 ⟨rfl, ⟨nq, rfl⟩⟩
  clear hBig
  go_wp2
  go_region
  go_wp2
  rw [unhide HT]
  refine bodyPost_ret (v := .tuple #[avV 18 0 txt none 0 0 0 D desc.length dc, .slice (cutA (cutA A cap size 1) (cap - size) u 1) (bs.length - size - u) (cap - size - u), .bool true]) (by simp [results, Tryz.results23, go_sem, r0, r1, r2, r3, r4, r5, hz0, hz1, hz2]) rfl ?_
  have hw1 := unhide HW1
  exact tookV_flat (by repeat (first | with_reducible exact Below.refl _ _ | with_reducible exact hw1 | with_reducible refine Below.alloc ?_ (by first | omega | (simp; omega) | (simp; done)) _ | with_reducible refine Below.setCell ?_ (by first | omega | (simp; omega) | (simp; done)) _ | with_reducible refine Below.drew ?_ | with_reducible refine below_drewN ?_ _)) hS hQ (hcut.cut (k := u) (cap := cap - size) (by simpa using hul) (by simp; omega)) (by simp; omega) (by simp; omega) (by unfold maxLen; omega) hdc hdm (unhide HRD) (unhide HCD)
end Go.Proofs.YtkokeohlbmccpaaGreatDoor
