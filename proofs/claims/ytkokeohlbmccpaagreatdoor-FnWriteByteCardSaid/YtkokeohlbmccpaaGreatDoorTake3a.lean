/-
  Ways through spec.constructor.take: no such code, sixteen bytes, too few bytes, null and the empty list.
-/
import Derived.Test.YtkokeohlbmccpaaGreatDoorTake3
namespace Go.Proofs.YtkokeohlbmccpaaGreatDoor
set_option linter.unusedSimpArgs false
set_option linter.unusedVariables false
open Go.RowKit
set_option maxRecDepth 100000 in
set_option maxHeartbeats 4000000 in
theorem take_none (lv' : Int) (Q S : Nat → Prop) (D : Option Addr) (desc : List AV) (dc : Nat) (ys : List Value) (code : Nat) (A : Option Addr) (bs : List UInt8) (cap : Nat) (w : World) (hdc : desc.length ≤ dc) (hdm : dc ≤ maxLen) (hrD : Reads w Q 6 D desc.length ys) (hcD : AVsC w Q desc ys) (hcode : code < 256)
    (hr : RB w S A bs) (hc : bs.length ≤ cap) (hcap : cap ≤ 9223372036854775807) (h40 : bs.length ≤ 1099511627776) (hS : Old w S) (hQ : Old w Q) (hk : kRes code = (0, 0, false)) :
    Calls Tryz.prog 23 #[.agg #[.slice D desc.length dc, .int .i64 code], .slice A bs.length cap, .int .i64 lv'] w (TookV Q S w (none)) := by
  obtain ⟨T, hT⟩ : ∃ T, T = TookV Q S w (none) := ⟨_, rfl⟩
  rw [← hT]
  have HT := hide hT
  clear hT
  have HRD := hide hrD
  have HCD := hide hcD
  clear hrD hcD
  unfold maxLen at hdm
  go_enter Tryz.func23, Tryz.ntmps23
  go_wp2_with fail
  refine (kindOf_any code hcode _).mono ?_
  rw [hk]
  rintro e w1 ⟨rfl, hb1⟩
  have hw1 : Below w.heap.size w w1 := ((((Below.refl w.heap.size w).alloc (Nat.le_refl _) _).alloc (by first | omega | (simp; omega) | (simp; done)) _).alloc (by first | omega | (simp; omega) | (simp; done)) _).trans (hb1.mono (by simp; omega))
  have hB0 : Blk w1 w.heap.size 65 #[.slice D desc.length dc, .int .i64 code] := (Blk.alloc (Blk.alloc (Blk.new w _ _) _) _).below hb1 (by first | omega | (simp; omega) | (simp; done))
  have hB1 : Blk w1 (w.heap.size + 1) 30 #[.int .i64 0, .int .u64 0, .string ⟨#[]⟩, .slice none 0 0, .int .i64 0, .slice none 0 0] := (Blk.alloc (Blk.new' (by simp)) _).below hb1 (by first | omega | (simp; omega) | (simp; done))
  have hB2 : Blk w1 (w.heap.size + 1 + 1) 30 #[.int .i64 0, .int .u64 0, .string ⟨#[]⟩, .slice none 0 0, .int .i64 0, .slice none 0 0] := (Blk.new' (by simp)).below hb1 (by first | omega | (simp; omega) | (simp; done))
  have hz2 : w.heap.size + 1 + 1 < w1.heap.size := by have := hb1.size; simp at this; omega
  have hz1 : w.heap.size + 1 < w1.heap.size := by omega
  have hz0 : w.heap.size < w1.heap.size := by omega
  have HW1 := hide hw1
  have c0 := hB0.cell 0
  have c1 := hB0.cell 1
  simp only [List.getElem?_toArray, List.getElem?_cons_zero, List.getElem?_cons_succ] at c0 c1
  obtain ⟨⟨r0, r1, r2, r3, r4, r5⟩, ⟨s0, s1, s2, s3, s4, s5⟩⟩ := six_cells hB1
  obtain ⟨⟨n0, n1, n2, n3, n4, n5⟩, _⟩ := six_cells hB2
  have HBK1 := hide hB1
  clear hw1 hb1 hB0 hB1 hB2
  simp only
  have hst1 : Stays S w w1 := stays_below (Stays.refl _ _) (unhide HW1) hS
  have ho1 : Old w1 S := old_below (unhide HW1) hS
  go_wp2
  rw [unhide HT]
  refine bodyPost_ret (v := .tuple #[avV 0 0 [] none 0 0 0 none 0 0, .slice none 0 0, .bool false]) (by simp [results, Tryz.results23, go_sem, r0, r1, r2, r3, r4, r5, hz0, hz1, hz2]) rfl ?_
  have hw1 := unhide HW1
  exact tookV_none (by repeat (first | with_reducible exact Below.refl _ _ | with_reducible exact hw1 | with_reducible refine Below.alloc ?_ (by first | omega | (simp; omega) | (simp; done)) _ | with_reducible refine Below.setCell ?_ (by first | omega | (simp; omega) | (simp; done)) _ | with_reducible refine Below.drew ?_ | with_reducible refine below_drewN ?_ _))
set_option maxRecDepth 100000 in
set_option maxHeartbeats 4000000 in
theorem take_16s (lv' : Int) (Q S : Nat → Prop) (D : Option Addr) (desc : List AV) (dc : Nat) (ys : List Value) (code : Nat) (A : Option Addr) (bs : List UInt8) (cap : Nat) (w : World) (hdc : desc.length ≤ dc) (hdm : dc ≤ maxLen) (hrD : Reads w Q 6 D desc.length ys) (hcD : AVsC w Q desc ys) (hcode : code < 256)
    (hr : RB w S A bs) (hc : bs.length ≤ cap) (hcap : cap ≤ 9223372036854775807) (h40 : bs.length ≤ 1099511627776) (hS : Old w S) (hQ : Old w Q) (kind : Nat) (hk : kRes code = ((kind : Int), 16, true)) (hl : bs.length < 16) :
    Calls Tryz.prog 23 #[.agg #[.slice D desc.length dc, .int .i64 code], .slice A bs.length cap, .int .i64 lv'] w (TookV Q S w (none)) := by
  obtain ⟨T, hT⟩ : ∃ T, T = TookV Q S w (none) := ⟨_, rfl⟩
  rw [← hT]
  have HT := hide hT
  clear hT
  have HRD := hide hrD
  have HCD := hide hcD
  clear hrD hcD
  unfold maxLen at hdm
  go_enter Tryz.func23, Tryz.ntmps23
  go_wp2_with fail
  refine (kindOf_any code hcode _).mono ?_
  rw [hk]
  rintro e w1 ⟨rfl, hb1⟩
  have hw1 : Below w.heap.size w w1 := ((((Below.refl w.heap.size w).alloc (Nat.le_refl _) _).alloc (by first | omega | (simp; omega) | (simp; done)) _).alloc (by first | omega | (simp; omega) | (simp; done)) _).trans (hb1.mono (by simp; omega))
  have hB0 : Blk w1 w.heap.size 65 #[.slice D desc.length dc, .int .i64 code] := (Blk.alloc (Blk.alloc (Blk.new w _ _) _) _).below hb1 (by first | omega | (simp; omega) | (simp; done))
  have hB1 : Blk w1 (w.heap.size + 1) 30 #[.int .i64 0, .int .u64 0, .string ⟨#[]⟩, .slice none 0 0, .int .i64 0, .slice none 0 0] := (Blk.alloc (Blk.new' (by simp)) _).below hb1 (by first | omega | (simp; omega) | (simp; done))
  have hB2 : Blk w1 (w.heap.size + 1 + 1) 30 #[.int .i64 0, .int .u64 0, .string ⟨#[]⟩, .slice none 0 0, .int .i64 0, .slice none 0 0] := (Blk.new' (by simp)).below hb1 (by first | omega | (simp; omega) | (simp; done))
  have hz2 : w.heap.size + 1 + 1 < w1.heap.size := by have := hb1.size; simp at this; omega
  have hz1 : w.heap.size + 1 < w1.heap.size := by omega
  have hz0 : w.heap.size < w1.heap.size := by omega
  have HW1 := hide hw1
  have c0 := hB0.cell 0
  have c1 := hB0.cell 1
  simp only [List.getElem?_toArray, List.getElem?_cons_zero, List.getElem?_cons_succ] at c0 c1
  obtain ⟨⟨r0, r1, r2, r3, r4, r5⟩, ⟨s0, s1, s2, s3, s4, s5⟩⟩ := six_cells hB1
  obtain ⟨⟨n0, n1, n2, n3, n4, n5⟩, _⟩ := six_cells hB2
  have HBK1 := hide hB1
  clear hw1 hb1 hB0 hB1 hB2
  simp only
  have hst1 : Stays S w w1 := stays_below (Stays.refl _ _) (unhide HW1) hS
  have ho1 : Old w1 S := old_below (unhide HW1) hS
  go_wp2
  rw [unhide HT]
  refine bodyPost_ret (v := .tuple #[avV 0 0 [] none 0 0 0 none 0 0, .slice none 0 0, .bool false]) (by simp [results, Tryz.results23, go_sem, r0, r1, r2, r3, r4, r5, hz0, hz1, hz2]) rfl ?_
  have hw1 := unhide HW1
  exact tookV_none (by repeat (first | with_reducible exact Below.refl _ _ | with_reducible exact hw1 | with_reducible refine Below.alloc ?_ (by first | omega | (simp; omega) | (simp; done)) _ | with_reducible refine Below.setCell ?_ (by first | omega | (simp; omega) | (simp; done)) _ | with_reducible refine Below.drew ?_ | with_reducible refine below_drewN ?_ _))
set_option maxRecDepth 100000 in
set_option maxHeartbeats 4000000 in
theorem take_16 (lv' : Int) (Q S : Nat → Prop) (D : Option Addr) (desc : List AV) (dc : Nat) (ys : List Value) (code : Nat) (A : Option Addr) (bs : List UInt8) (cap : Nat) (w : World) (hdc : desc.length ≤ dc) (hdm : dc ≤ maxLen) (hrD : Reads w Q 6 D desc.length ys) (hcD : AVsC w Q desc ys) (hcode : code < 256)
    (hr : RB w S A bs) (hc : bs.length ≤ cap) (hcap : cap ≤ 9223372036854775807) (h40 : bs.length ≤ 1099511627776) (hS : Old w S) (hQ : Old w Q) (kind : Nat) (hk : kRes code = ((kind : Int), 16, true)) (hl16 : 16 ≤ bs.length) :
    Calls Tryz.prog 23 #[.agg #[.slice D desc.length dc, .int .i64 code], .slice A bs.length cap, .int .i64 lv'] w (TookV Q S w (some (.mk kind 0 (bs.take 16) [] 0 desc, bs.drop 16))) := by
  obtain ⟨T, hT⟩ : ∃ T, T = TookV Q S w (some (.mk kind 0 (bs.take 16) [] 0 desc, bs.drop 16)) := ⟨_, rfl⟩
  rw [← hT]
  have HT := hide hT
  clear hT
  have HRD := hide hrD
  have HCD := hide hcD
  clear hrD hcD
  unfold maxLen at hdm
  go_enter Tryz.func23, Tryz.ntmps23
  go_wp2_with fail
  refine (kindOf_any code hcode _).mono ?_
  rw [hk]
  rintro e w1 ⟨rfl, hb1⟩
  have hw1 : Below w.heap.size w w1 := ((((Below.refl w.heap.size w).alloc (Nat.le_refl _) _).alloc (by first | omega | (simp; omega) | (simp; done)) _).alloc (by first | omega | (simp; omega) | (simp; done)) _).trans (hb1.mono (by simp; omega))
  have hB0 : Blk w1 w.heap.size 65 #[.slice D desc.length dc, .int .i64 code] := (Blk.alloc (Blk.alloc (Blk.new w _ _) _) _).below hb1 (by first | omega | (simp; omega) | (simp; done))
  have hB1 : Blk w1 (w.heap.size + 1) 30 #[.int .i64 0, .int .u64 0, .string ⟨#[]⟩, .slice none 0 0, .int .i64 0, .slice none 0 0] := (Blk.alloc (Blk.new' (by simp)) _).below hb1 (by first | omega | (simp; omega) | (simp; done))
  have hB2 : Blk w1 (w.heap.size + 1 + 1) 30 #[.int .i64 0, .int .u64 0, .string ⟨#[]⟩, .slice none 0 0, .int .i64 0, .slice none 0 0] := (Blk.new' (by simp)).below hb1 (by first | omega | (simp; omega) | (simp; done))
  have hz2 : w.heap.size + 1 + 1 < w1.heap.size := by have := hb1.size; simp at this; omega
  have hz1 : w.heap.size + 1 < w1.heap.size := by omega
  have hz0 : w.heap.size < w1.heap.size := by omega
  have HW1 := hide hw1
  have c0 := hB0.cell 0
  have c1 := hB0.cell 1
  simp only [List.getElem?_toArray, List.getElem?_cons_zero, List.getElem?_cons_succ] at c0 c1
  obtain ⟨⟨r0, r1, r2, r3, r4, r5⟩, ⟨s0, s1, s2, s3, s4, s5⟩⟩ := six_cells hB1
  obtain ⟨⟨n0, n1, n2, n3, n4, n5⟩, _⟩ := six_cells hB2
  have HBK1 := hide hB1
  clear hw1 hb1 hB0 hB1 hB2
  simp only
  have hst1 : Stays S w w1 := stays_below (Stays.refl _ _) (unhide HW1) hS
  have ho1 : Old w1 S := old_below (unhide HW1) hS
  have hcv : ∀ (W : World) (c : Nat), Stays S w W → (convert 22 9 (.slice A 16 c)).run Tryz.prog W = .ok (.string ⟨(bs.take 16).toArray⟩) W := fun W c hw => by
    have := run_string_of_bytes (P := Tryz.prog) 22 9 5 Tryz.underlying22 Tryz.underlying5 Tryz.underlying9 ((hr.keep hw).take hl16) c
    rwa [List.length_take, Nat.min_eq_left hl16] at this
  go_wp2
  go_region
  go_wp2
  rw [unhide HT]
  refine bodyPost_ret (v := .tuple #[avV kind 0 (bs.take 16) none 0 0 0 D desc.length dc, .slice (cutA A cap 16 1) (bs.length - 16) (cap - 16), .bool true]) (by simp [results, Tryz.results23, go_sem, r0, r1, r2, r3, r4, r5, hz0, hz1, hz2]) rfl ?_
  have hw1 := unhide HW1
  exact tookV_flat (by repeat (first | with_reducible exact Below.refl _ _ | with_reducible exact hw1 | with_reducible refine Below.alloc ?_ (by first | omega | (simp; omega) | (simp; done)) _ | with_reducible refine Below.setCell ?_ (by first | omega | (simp; omega) | (simp; done)) _ | with_reducible refine Below.drew ?_ | with_reducible refine below_drewN ?_ _)) hS hQ (hr.cut hl16 hc) (by simp) (by simp; omega) (by unfold maxLen; omega) hdc hdm (unhide HRD) (unhide HCD)
set_option maxRecDepth 100000 in
set_option maxHeartbeats 4000000 in
theorem take_short (lv' : Int) (Q S : Nat → Prop) (D : Option Addr) (desc : List AV) (dc : Nat) (ys : List Value) (code : Nat) (A : Option Addr) (bs : List UInt8) (cap : Nat) (w : World) (hdc : desc.length ≤ dc) (hdm : dc ≤ maxLen) (hrD : Reads w Q 6 D desc.length ys) (hcD : AVsC w Q desc ys) (hcode : code < 256)
    (hr : RB w S A bs) (hc : bs.length ≤ cap) (hcap : cap ≤ 9223372036854775807) (h40 : bs.length ≤ 1099511627776) (hS : Old w S) (hQ : Old w Q) (kind size : Nat) (hk : kRes code = ((kind : Int), (size : Int), true)) (h8 : size ≤ 8) (hl : bs.length < size) :
    Calls Tryz.prog 23 #[.agg #[.slice D desc.length dc, .int .i64 code], .slice A bs.length cap, .int .i64 lv'] w (TookV Q S w (none)) := by
  obtain ⟨T, hT⟩ : ∃ T, T = TookV Q S w (none) := ⟨_, rfl⟩
  rw [← hT]
  have HT := hide hT
  clear hT
  have HRD := hide hrD
  have HCD := hide hcD
  clear hrD hcD
  unfold maxLen at hdm
  go_enter Tryz.func23, Tryz.ntmps23
  go_wp2_with fail
  refine (kindOf_any code hcode _).mono ?_
  rw [hk]
  rintro e w1 ⟨rfl, hb1⟩
  have hw1 : Below w.heap.size w w1 := ((((Below.refl w.heap.size w).alloc (Nat.le_refl _) _).alloc (by first | omega | (simp; omega) | (simp; done)) _).alloc (by first | omega | (simp; omega) | (simp; done)) _).trans (hb1.mono (by simp; omega))
  have hB0 : Blk w1 w.heap.size 65 #[.slice D desc.length dc, .int .i64 code] := (Blk.alloc (Blk.alloc (Blk.new w _ _) _) _).below hb1 (by first | omega | (simp; omega) | (simp; done))
  have hB1 : Blk w1 (w.heap.size + 1) 30 #[.int .i64 0, .int .u64 0, .string ⟨#[]⟩, .slice none 0 0, .int .i64 0, .slice none 0 0] := (Blk.alloc (Blk.new' (by simp)) _).below hb1 (by first | omega | (simp; omega) | (simp; done))
  have hB2 : Blk w1 (w.heap.size + 1 + 1) 30 #[.int .i64 0, .int .u64 0, .string ⟨#[]⟩, .slice none 0 0, .int .i64 0, .slice none 0 0] := (Blk.new' (by simp)).below hb1 (by first | omega | (simp; omega) | (simp; done))
  have hz2 : w.heap.size + 1 + 1 < w1.heap.size := by have := hb1.size; simp at this; omega
  have hz1 : w.heap.size + 1 < w1.heap.size := by omega
  have hz0 : w.heap.size < w1.heap.size := by omega
  have HW1 := hide hw1
  have c0 := hB0.cell 0
  have c1 := hB0.cell 1
  simp only [List.getElem?_toArray, List.getElem?_cons_zero, List.getElem?_cons_succ] at c0 c1
  obtain ⟨⟨r0, r1, r2, r3, r4, r5⟩, ⟨s0, s1, s2, s3, s4, s5⟩⟩ := six_cells hB1
  obtain ⟨⟨n0, n1, n2, n3, n4, n5⟩, _⟩ := six_cells hB2
  have HBK1 := hide hB1
  clear hw1 hb1 hB0 hB1 hB2
  simp only
  have hst1 : Stays S w w1 := stays_below (Stays.refl _ _) (unhide HW1) hS
  have ho1 : Old w1 S := old_below (unhide HW1) hS
  have hl' : (bs.length : Int) < (size : Int) := by omega
  have t16 : ((size : Int) == 16) = false := by simp; omega
  go_wp2_with (go_at_call 58; refine (takeBig_short A bs.length cap size _ (by omega) hl').mono ?_; rintro e w3 ⟨rfl, rfl⟩)
  rw [unhide HT]
  refine bodyPost_ret (v := .tuple #[avV 0 0 [] none 0 0 0 none 0 0, .slice none 0 0, .bool false]) (by simp [results, Tryz.results23, go_sem, r0, r1, r2, r3, r4, r5, hz0, hz1, hz2]) rfl ?_
  have hw1 := unhide HW1
  exact tookV_none (by repeat (first | with_reducible exact Below.refl _ _ | with_reducible exact hw1 | with_reducible refine Below.alloc ?_ (by first | omega | (simp; omega) | (simp; done)) _ | with_reducible refine Below.setCell ?_ (by first | omega | (simp; omega) | (simp; done)) _ | with_reducible refine Below.drew ?_ | with_reducible refine below_drewN ?_ _))
set_option maxRecDepth 100000 in
set_option maxHeartbeats 4000000 in
theorem take_null (lv' : Int) (Q S : Nat → Prop) (D : Option Addr) (desc : List AV) (dc : Nat) (ys : List Value) (code : Nat) (A : Option Addr) (bs : List UInt8) (cap : Nat) (w : World) (hdc : desc.length ≤ dc) (hdm : dc ≤ maxLen) (hrD : Reads w Q 6 D desc.length ys) (hcD : AVsC w Q desc ys) (hcode : code < 256)
    (hr : RB w S A bs) (hc : bs.length ≤ cap) (hcap : cap ≤ 9223372036854775807) (h40 : bs.length ≤ 1099511627776) (hS : Old w S) (hQ : Old w Q) (kind size u : Nat) (hk : kRes code = ((kind : Int), (size : Int), true)) (h8 : size ≤ 8) (hl : size ≤ bs.length) (hu : bigA (bs.take size) = u) (hu8 : u < 18446744073709551616) (hD : kind = 0 ∨ code = 69) :
    Calls Tryz.prog 23 #[.agg #[.slice D desc.length dc, .int .i64 code], .slice A bs.length cap, .int .i64 lv'] w (TookV Q S w (some (.mk kind 0 [] [] 0 desc, bs.drop size))) := by
  obtain ⟨T, hT⟩ : ∃ T, T = TookV Q S w (some (.mk kind 0 [] [] 0 desc, bs.drop size)) := ⟨_, rfl⟩
  rw [← hT]
  have HT := hide hT
  clear hT
  have HRD := hide hrD
  have HCD := hide hcD
  clear hrD hcD
  unfold maxLen at hdm
  go_enter Tryz.func23, Tryz.ntmps23
  go_wp2_with fail
  refine (kindOf_any code hcode _).mono ?_
  rw [hk]
  rintro e w1 ⟨rfl, hb1⟩
  have hw1 : Below w.heap.size w w1 := ((((Below.refl w.heap.size w).alloc (Nat.le_refl _) _).alloc (by first | omega | (simp; omega) | (simp; done)) _).alloc (by first | omega | (simp; omega) | (simp; done)) _).trans (hb1.mono (by simp; omega))
  have hB0 : Blk w1 w.heap.size 65 #[.slice D desc.length dc, .int .i64 code] := (Blk.alloc (Blk.alloc (Blk.new w _ _) _) _).below hb1 (by first | omega | (simp; omega) | (simp; done))
  have hB1 : Blk w1 (w.heap.size + 1) 30 #[.int .i64 0, .int .u64 0, .string ⟨#[]⟩, .slice none 0 0, .int .i64 0, .slice none 0 0] := (Blk.alloc (Blk.new' (by simp)) _).below hb1 (by first | omega | (simp; omega) | (simp; done))
  have hB2 : Blk w1 (w.heap.size + 1 + 1) 30 #[.int .i64 0, .int .u64 0, .string ⟨#[]⟩, .slice none 0 0, .int .i64 0, .slice none 0 0] := (Blk.new' (by simp)).below hb1 (by first | omega | (simp; omega) | (simp; done))
  have hz2 : w.heap.size + 1 + 1 < w1.heap.size := by have := hb1.size; simp at this; omega
  have hz1 : w.heap.size + 1 < w1.heap.size := by omega
  have hz0 : w.heap.size < w1.heap.size := by omega
  have HW1 := hide hw1
  have c0 := hB0.cell 0
  have c1 := hB0.cell 1
  simp only [List.getElem?_toArray, List.getElem?_cons_zero, List.getElem?_cons_succ] at c0 c1
  obtain ⟨⟨r0, r1, r2, r3, r4, r5⟩, ⟨s0, s1, s2, s3, s4, s5⟩⟩ := six_cells hB1
  obtain ⟨⟨n0, n1, n2, n3, n4, n5⟩, _⟩ := six_cells hB2
  have HBK1 := hide hB1
  clear hw1 hb1 hB0 hB1 hB2
  simp only
  have hst1 : Stays S w w1 := stays_below (Stays.refl _ _) (unhide HW1) hS
  have ho1 : Old w1 S := old_below (unhide HW1) hS
  have hD' : ((kind : Int) == 0) = true ∨ (((kind : Int) == 0) = false ∧ ((code : Int) == 69) = true) := by simp; omega
  clear hD
  have t16 : ((size : Int) == 16) = false := by simp; omega
  have hcut := hr.cut hl hc
  have hBig := fun (W : World) (h : Stays S w W) => takeBig_ok S A bs cap size W (hr.keep h) hc hcap hl h8
  rw [hu] at hBig
  have HU := hide hu
  clear hu
  go_wp2_with fail
  refine (hBig _ (by go_simp)).mono ?_
  rintro e w3 ⟨rfl, ⟨nq, rfl⟩⟩
  clear hBig
  rcases hD' with t0 | ⟨t0, t69⟩
  all_goals (
    go_wp2
    rw [unhide HT]
    refine bodyPost_ret (v := .tuple #[avV kind 0 [] none 0 0 0 D desc.length dc, .slice (cutA A cap size 1) (bs.length - size) (cap - size), .bool true]) (by simp [results, Tryz.results23, go_sem, r0, r1, r2, r3, r4, r5, hz0, hz1, hz2]) rfl ?_
    have hw1 := unhide HW1
    exact tookV_flat (by repeat (first | with_reducible exact Below.refl _ _ | with_reducible exact hw1 | with_reducible refine Below.alloc ?_ (by first | omega | (simp; omega) | (simp; done)) _ | with_reducible refine Below.setCell ?_ (by first | omega | (simp; omega) | (simp; done)) _ | with_reducible refine Below.drew ?_ | with_reducible refine below_drewN ?_ _)) hS hQ hcut (by simp) (by simp; omega) (by unfold maxLen; omega) hdc hdm (unhide HRD) (unhide HCD))
end Go.Proofs.YtkokeohlbmccpaaGreatDoor
