/-
  Ways through spec.constructor.take: numbers.
-/
import Derived.Test.YtkokeohlbmccpaaGreatDoorTake3
namespace Go.Proofs.YtkokeohlbmccpaaGreatDoor
set_option linter.unusedSimpArgs false
set_option linter.unusedVariables false
open Go.RowKit
theorem u64_mod (x : Int) : IntKind.u64.wrap x = x % 18446744073709551616 := by simp [IntKind.wrap, IntKind.bits, IntKind.signed]
theorem sgn_walk1 (u : Nat) (h : u < 256) : IntKind.u64.wrap (wrap64 ((u : Int) * 72057594037927936) / 72057594037927936) = ((sgn 1 u : Nat) : Int) := by
  rw [u64_mod]
  unfold wrap64 sgn
  simp only [show (256 : Nat) ^ 1 = 256 from rfl]
  split <;> omega
theorem sgn_walk2 (u : Nat) (h : u < 65536) : IntKind.u64.wrap (wrap64 ((u : Int) * 281474976710656) / 281474976710656) = ((sgn 2 u : Nat) : Int) := by
  rw [u64_mod]
  unfold wrap64 sgn
  simp only [show (256 : Nat) ^ 2 = 65536 from rfl]
  split <;> omega
theorem sgn_walk4 (u : Nat) (h : u < 4294967296) : IntKind.u64.wrap (wrap64 ((u : Int) * 4294967296) / 4294967296) = ((sgn 4 u : Nat) : Int) := by
  rw [u64_mod]
  unfold wrap64 sgn
  simp only [show (256 : Nat) ^ 4 = 4294967296 from rfl]
  split <;> omega
theorem sgn_walk8 (u : Nat) (h : u < 18446744073709551616) : IntKind.u64.wrap (wrap64 (u : Int)) = ((sgn 8 u : Nat) : Int) := by
  rw [u64_mod]
  unfold wrap64 sgn
  simp only [show (256 : Nat) ^ 8 = 18446744073709551616 from rfl]
  split <;> omega
set_option maxRecDepth 100000 in
set_option maxHeartbeats 4000000 in
theorem take_numlo (lv' : Int) (Q S : Nat → Prop) (D : Option Addr) (desc : List AV) (dc : Nat) (ys : List Value) (code : Nat) (A : Option Addr) (bs : List UInt8) (cap : Nat) (w : World) (hdc : desc.length ≤ dc) (hdm : dc ≤ maxLen) (hrD : Reads w Q 6 D desc.length ys) (hcD : AVsC w Q desc ys) (hcode : code < 256)
    (hr : RB w S A bs) (hc : bs.length ≤ cap) (hcap : cap ≤ 9223372036854775807) (h40 : bs.length ≤ 1099511627776) (hS : Old w S) (hQ : Old w Q) (kind size u : Nat) (hk : kRes code = ((kind : Int), (size : Int), true)) (h8 : size ≤ 8) (hl : size ≤ bs.length) (hu : bigA (bs.take size) = u) (hu8 : u < 18446744073709551616) (h1 : 2 ≤ kind) (h17 : kind ≤ 17) (hc69 : code ≠ 69) (hkk : kind < 6) :
    Calls Tryz.prog 23 #[.agg #[.slice D desc.length dc, .int .i64 code], .slice A bs.length cap, .int .i64 lv'] w (TookV Q S w (some (.mk kind u [] [] 0 desc, bs.drop size))) := by
  obtain ⟨T, hT⟩ : ∃ T, T = TookV Q S w (some (.mk kind u [] [] 0 desc, bs.drop size)) := ⟨_, rfl⟩
  rw [← hT]
  have HT := hide hT
  clear hT
  have HRD := hide hrD
  have HCD := hide hcD
  clear hrD hcD
  unfold maxLen at hdm
  go_enter Tryz.func23, Tryz.ntmps23
  go_wp2_with fail
  refine (kindOf_any code hcode _).mono ?_
  rw [hk]
  rintro e w1 ⟨rfl, hb1⟩
  have hw1 : Below w.heap.size w w1 := ((((Below.refl w.heap.size w).alloc (Nat.le_refl _) _).alloc (by first | omega | (simp; omega) | (simp; done)) _).alloc (by first | omega | (simp; omega) | (simp; done)) _).trans (hb1.mono (by simp; omega))
  have hB0 : Blk w1 w.heap.size 65 #[.slice D desc.length dc, .int .i64 code] := (Blk.alloc (Blk.alloc (Blk.new w _ _) _) _).below hb1 (by first | omega | (simp; omega) | (simp; done))
  have hB1 : Blk w1 (w.heap.size + 1) 30 #[.int .i64 0, .int .u64 0, .string ⟨#[]⟩, .slice none 0 0, .int .i64 0, .slice none 0 0] := (Blk.alloc (Blk.new' (by simp)) _).below hb1 (by first | omega | (simp; omega) | (simp; done))
  have hB2 : Blk w1 (w.heap.size + 1 + 1) 30 #[.int .i64 0, .int .u64 0, .string ⟨#[]⟩, .slice none 0 0, .int .i64 0, .slice none 0 0] := (Blk.new' (by simp)).below hb1 (by first | omega | (simp; omega) | (simp; done))
  have hz2 : w.heap.size + 1 + 1 < w1.heap.size := by have := hb1.size; simp at this; omega
  have hz1 : w.heap.size + 1 < w1.heap.size := by omega
  have hz0 : w.heap.size < w1.heap.size := by omega
  have HW1 := hide hw1
  have c0 := hB0.cell 0
  have c1 := hB0.cell 1
  simp only [List.getElem?_toArray, List.getElem?_cons_zero, List.getElem?_cons_succ] at c0 c1
  obtain ⟨⟨r0, r1, r2, r3, r4, r5⟩, ⟨s0, s1, s2, s3, s4, s5⟩⟩ := six_cells hB1
  obtain ⟨⟨n0, n1, n2, n3, n4, n5⟩, _⟩ := six_cells hB2
  have HBK1 := hide hB1
  clear hw1 hb1 hB0 hB1 hB2
  simp only
  have hst1 : Stays S w w1 := stays_below (Stays.refl _ _) (unhide HW1) hS
  have ho1 : Old w1 S := old_below (unhide HW1) hS
  have t69 : ((code : Int) == 69) = false := by simp; omega
  have t0 : ((kind : Int) == 0) = false := by simp; omega
  have t1 : ((kind : Int) == 1) = false := by simp; omega
  have t21 : ¬ (21 : Int) ≤ (kind : Int) := by omega
  have t18 : ¬ (18 : Int) ≤ (kind : Int) := by omega
  have tk : ¬ (6 : Int) ≤ (kind : Int) := by omega
  have t16 : ((size : Int) == 16) = false := by simp; omega
  have hcut := hr.cut hl hc
  have hBig := fun (W : World) (h : Stays S w W) => takeBig_ok S A bs cap size W (hr.keep h) hc hcap hl h8
  rw [hu] at hBig
  have HU := hide hu
  clear hu
  go_wp2_with fail
  refine (hBig _ (by go_simp)).mono ?_
  rintro e w3 ⟨rfl, ⟨nq, rfl⟩⟩
  clear hBig
  go_wp2
  rw [unhide HT]
  refine bodyPost_ret (v := .tuple #[avV kind u [] none 0 0 0 D desc.length dc, .slice (cutA A cap size 1) (bs.length - size) (cap - size), .bool true]) (by simp [results, Tryz.results23, go_sem, r0, r1, r2, r3, r4, r5, hz0, hz1, hz2]) rfl ?_
  have hw1 := unhide HW1
  exact tookV_flat (by repeat (first | with_reducible exact Below.refl _ _ | with_reducible exact hw1 | with_reducible refine Below.alloc ?_ (by first | omega | (simp; omega) | (simp; done)) _ | with_reducible refine Below.setCell ?_ (by first | omega | (simp; omega) | (simp; done)) _ | with_reducible refine Below.drew ?_ | with_reducible refine below_drewN ?_ _)) hS hQ hcut (by simp) (by simp; omega) (by unfold maxLen; omega) hdc hdm (unhide HRD) (unhide HCD)
set_option maxRecDepth 100000 in
set_option maxHeartbeats 4000000 in
theorem take_numhi (lv' : Int) (Q S : Nat → Prop) (D : Option Addr) (desc : List AV) (dc : Nat) (ys : List Value) (code : Nat) (A : Option Addr) (bs : List UInt8) (cap : Nat) (w : World) (hdc : desc.length ≤ dc) (hdm : dc ≤ maxLen) (hrD : Reads w Q 6 D desc.length ys) (hcD : AVsC w Q desc ys) (hcode : code < 256)
    (hr : RB w S A bs) (hc : bs.length ≤ cap) (hcap : cap ≤ 9223372036854775807) (h40 : bs.length ≤ 1099511627776) (hS : Old w S) (hQ : Old w Q) (kind size u : Nat) (hk : kRes code = ((kind : Int), (size : Int), true)) (h8 : size ≤ 8) (hl : size ≤ bs.length) (hu : bigA (bs.take size) = u) (hu8 : u < 18446744073709551616) (h1 : 2 ≤ kind) (h17 : kind ≤ 17) (hc69 : code ≠ 69) (hkk : 9 < kind) :
    Calls Tryz.prog 23 #[.agg #[.slice D desc.length dc, .int .i64 code], .slice A bs.length cap, .int .i64 lv'] w (TookV Q S w (some (.mk kind u [] [] 0 desc, bs.drop size))) := by
  obtain ⟨T, hT⟩ : ∃ T, T = TookV Q S w (some (.mk kind u [] [] 0 desc, bs.drop size)) := ⟨_, rfl⟩
  rw [← hT]
  have HT := hide hT
  clear hT
  have HRD := hide hrD
  have HCD := hide hcD
  clear hrD hcD
  unfold maxLen at hdm
  go_enter Tryz.func23, Tryz.ntmps23
  go_wp2_with fail
  refine (kindOf_any code hcode _).mono ?_
  rw [hk]
  rintro e w1 ⟨rfl, hb1⟩
  have hw1 : Below w.heap.size w w1 := ((((Below.refl w.heap.size w).alloc (Nat.le_refl _) _).alloc (by first | omega | (simp; omega) | (simp; done)) _).alloc (by first | omega | (simp; omega) | (simp; done)) _).trans (hb1.mono (by simp; omega))
  have hB0 : Blk w1 w.heap.size 65 #[.slice D desc.length dc, .int .i64 code] := (Blk.alloc (Blk.alloc (Blk.new w _ _) _) _).below hb1 (by first | omega | (simp; omega) | (simp; done))
  have hB1 : Blk w1 (w.heap.size + 1) 30 #[.int .i64 0, .int .u64 0, .string ⟨#[]⟩, .slice none 0 0, .int .i64 0, .slice none 0 0] := (Blk.alloc (Blk.new' (by simp)) _).below hb1 (by first | omega | (simp; omega) | (simp; done))
  have hB2 : Blk w1 (w.heap.size + 1 + 1) 30 #[.int .i64 0, .int .u64 0, .string ⟨#[]⟩, .slice none 0 0, .int .i64 0, .slice none 0 0] := (Blk.new' (by simp)).below hb1 (by first | omega | (simp; omega) | (simp; done))
  have hz2 : w.heap.size + 1 + 1 < w1.heap.size := by have := hb1.size; simp at this; omega
  have hz1 : w.heap.size + 1 < w1.heap.size := by omega
  have hz0 : w.heap.size < w1.heap.size := by omega
  have HW1 := hide hw1
  have c0 := hB0.cell 0
  have c1 := hB0.cell 1
  simp only [List.getElem?_toArray, List.getElem?_cons_zero, List.getElem?_cons_succ] at c0 c1
  obtain ⟨⟨r0, r1, r2, r3, r4, r5⟩, ⟨s0, s1, s2, s3, s4, s5⟩⟩ := six_cells hB1
  obtain ⟨⟨n0, n1, n2, n3, n4, n5⟩, _⟩ := six_cells hB2
  have HBK1 := hide hB1
  clear hw1 hb1 hB0 hB1 hB2
  simp only
  have hst1 : Stays S w w1 := stays_below (Stays.refl _ _) (unhide HW1) hS
  have ho1 : Old w1 S := old_below (unhide HW1) hS
  have t69 : ((code : Int) == 69) = false := by simp; omega
  have t0 : ((kind : Int) == 0) = false := by simp; omega
  have t1 : ((kind : Int) == 1) = false := by simp; omega
  have t21 : ¬ (21 : Int) ≤ (kind : Int) := by omega
  have t18 : ¬ (18 : Int) ≤ (kind : Int) := by omega
  have tk : (6 : Int) ≤ (kind : Int) := by omega
  have tk9 : ¬ (kind : Int) ≤ 9 := by omega
  have t16 : ((size : Int) == 16) = false := by simp; omega
  have hcut := hr.cut hl hc
  have hBig := fun (W : World) (h : Stays S w W) => takeBig_ok S A bs cap size W (hr.keep h) hc hcap hl h8
  rw [hu] at hBig
  have HU := hide hu
  clear hu
  go_wp2_with fail
  refine (hBig _ (by go_simp)).mono ?_
  rintro e w3 ⟨rfl, ⟨nq, rfl⟩⟩
  clear hBig
  go_wp2
  rw [unhide HT]
  refine bodyPost_ret (v := .tuple #[avV kind u [] none 0 0 0 D desc.length dc, .slice (cutA A cap size 1) (bs.length - size) (cap - size), .bool true]) (by simp [results, Tryz.results23, go_sem, r0, r1, r2, r3, r4, r5, hz0, hz1, hz2]) rfl ?_
  have hw1 := unhide HW1
  exact tookV_flat (by repeat (first | with_reducible exact Below.refl _ _ | with_reducible exact hw1 | with_reducible refine Below.alloc ?_ (by first | omega | (simp; omega) | (simp; done)) _ | with_reducible refine Below.setCell ?_ (by first | omega | (simp; omega) | (simp; done)) _ | with_reducible refine Below.drew ?_ | with_reducible refine below_drewN ?_ _)) hS hQ hcut (by simp) (by simp; omega) (by unfold maxLen; omega) hdc hdm (unhide HRD) (unhide HCD)
set_option maxRecDepth 100000 in
set_option maxHeartbeats 4000000 in
theorem take_sgn1 (lv' : Int) (Q S : Nat → Prop) (D : Option Addr) (desc : List AV) (dc : Nat) (ys : List Value) (code : Nat) (A : Option Addr) (bs : List UInt8) (cap : Nat) (w : World) (hdc : desc.length ≤ dc) (hdm : dc ≤ maxLen) (hrD : Reads w Q 6 D desc.length ys) (hcD : AVsC w Q desc ys) (hcode : code < 256)
    (hr : RB w S A bs) (hc : bs.length ≤ cap) (hcap : cap ≤ 9223372036854775807) (h40 : bs.length ≤ 1099511627776) (hS : Old w S) (hQ : Old w Q) (kind u : Nat) (hk : kRes code = ((kind : Int), 1, true)) (hl : 1 ≤ bs.length) (hu : bigA (bs.take 1) = u) (hu8 : u < 18446744073709551616) (h6 : 6 ≤ kind) (h9 : kind ≤ 9) (hc69 : code ≠ 69) (hub : u < 256) :
    Calls Tryz.prog 23 #[.agg #[.slice D desc.length dc, .int .i64 code], .slice A bs.length cap, .int .i64 lv'] w (TookV Q S w (some (.mk kind (sgn 1 u) [] [] 0 desc, bs.drop 1))) := by
  obtain ⟨T, hT⟩ : ∃ T, T = TookV Q S w (some (.mk kind (sgn 1 u) [] [] 0 desc, bs.drop 1)) := ⟨_, rfl⟩
  rw [← hT]
  have HT := hide hT
  clear hT
  have HRD := hide hrD
  have HCD := hide hcD
  clear hrD hcD
  unfold maxLen at hdm
  go_enter Tryz.func23, Tryz.ntmps23
  go_wp2_with fail
  refine (kindOf_any code hcode _).mono ?_
  rw [hk]
  rintro e w1 ⟨rfl, hb1⟩
  have hw1 : Below w.heap.size w w1 := ((((Below.refl w.heap.size w).alloc (Nat.le_refl _) _).alloc (by first | omega | (simp; omega) | (simp; done)) _).alloc (by first | omega | (simp; omega) | (simp; done)) _).trans (hb1.mono (by simp; omega))
  have hB0 : Blk w1 w.heap.size 65 #[.slice D desc.length dc, .int .i64 code] := (Blk.alloc (Blk.alloc (Blk.new w _ _) _) _).below hb1 (by first | omega | (simp; omega) | (simp; done))
  have hB1 : Blk w1 (w.heap.size + 1) 30 #[.int .i64 0, .int .u64 0, .string ⟨#[]⟩, .slice none 0 0, .int .i64 0, .slice none 0 0] := (Blk.alloc (Blk.new' (by simp)) _).below hb1 (by first | omega | (simp; omega) | (simp; done))
  have hB2 : Blk w1 (w.heap.size + 1 + 1) 30 #[.int .i64 0, .int .u64 0, .string ⟨#[]⟩, .slice none 0 0, .int .i64 0, .slice none 0 0] := (Blk.new' (by simp)).below hb1 (by first | omega | (simp; omega) | (simp; done))
  have hz2 : w.heap.size + 1 + 1 < w1.heap.size := by have := hb1.size; simp at this; omega
  have hz1 : w.heap.size + 1 < w1.heap.size := by omega
  have hz0 : w.heap.size < w1.heap.size := by omega
  have HW1 := hide hw1
  have c0 := hB0.cell 0
  have c1 := hB0.cell 1
  simp only [List.getElem?_toArray, List.getElem?_cons_zero, List.getElem?_cons_succ] at c0 c1
  obtain ⟨⟨r0, r1, r2, r3, r4, r5⟩, ⟨s0, s1, s2, s3, s4, s5⟩⟩ := six_cells hB1
  obtain ⟨⟨n0, n1, n2, n3, n4, n5⟩, _⟩ := six_cells hB2
  have HBK1 := hide hB1
  clear hw1 hb1 hB0 hB1 hB2
  simp only
  have hst1 : Stays S w w1 := stays_below (Stays.refl _ _) (unhide HW1) hS
  have ho1 : Old w1 S := old_below (unhide HW1) hS
  have t69 : ((code : Int) == 69) = false := by simp; omega
  have t0 : ((kind : Int) == 0) = false := by simp; omega
  have t1 : ((kind : Int) == 1) = false := by simp; omega
  have t21 : ¬ (21 : Int) ≤ (kind : Int) := by omega
  have t18 : ¬ (18 : Int) ≤ (kind : Int) := by omega
  have tk : (6 : Int) ≤ (kind : Int) := by omega
  have tk9 : (kind : Int) ≤ 9 := by omega
  have hcut := hr.cut hl hc
  have hBig := fun (W : World) (h : Stays S w W) => takeBig_ok S A bs cap 1 W (hr.keep h) hc hcap hl (by omega)
  rw [hu] at hBig
  simp only [Int.cast_ofNat_Int] at hBig
  have HU := hide hu
  clear hu
  have hsg := sgn_walk1 u hub
  go_wp2_with fail
  refine (hBig _ (by go_simp)).mono ?_
  rintro e w3 ⟨rfl, ⟨nq, rfl⟩⟩
  clear hBig
  go_wp2

  rw [unhide HT]
  refine bodyPost_ret (v := .tuple #[avV kind (sgn 1 u) [] none 0 0 0 D desc.length dc, .slice (cutA A cap 1 1) (bs.length - 1) (cap - 1), .bool true]) (by simp [results, Tryz.results23, go_sem, r0, r1, r2, r3, r4, r5, hz0, hz1, hz2]) rfl ?_
  have hw1 := unhide HW1
  exact tookV_flat (by repeat (first | with_reducible exact Below.refl _ _ | with_reducible exact hw1 | with_reducible refine Below.alloc ?_ (by first | omega | (simp; omega) | (simp; done)) _ | with_reducible refine Below.setCell ?_ (by first | omega | (simp; omega) | (simp; done)) _ | with_reducible refine Below.drew ?_ | with_reducible refine below_drewN ?_ _)) hS hQ hcut (by simp) (by simp; omega) (by unfold maxLen; omega) hdc hdm (unhide HRD) (unhide HCD)
set_option maxRecDepth 100000 in
set_option maxHeartbeats 4000000 in
theorem take_sgn2 (lv' : Int) (Q S : Nat → Prop) (D : Option Addr) (desc : List AV) (dc : Nat) (ys : List Value) (code : Nat) (A : Option Addr) (bs : List UInt8) (cap : Nat) (w : World) (hdc : desc.length ≤ dc) (hdm : dc ≤ maxLen) (hrD : Reads w Q 6 D desc.length ys) (hcD : AVsC w Q desc ys) (hcode : code < 256)
    (hr : RB w S A bs) (hc : bs.length ≤ cap) (hcap : cap ≤ 9223372036854775807) (h40 : bs.length ≤ 1099511627776) (hS : Old w S) (hQ : Old w Q) (kind u : Nat) (hk : kRes code = ((kind : Int), 2, true)) (hl : 2 ≤ bs.length) (hu : bigA (bs.take 2) = u) (hu8 : u < 18446744073709551616) (h6 : 6 ≤ kind) (h9 : kind ≤ 9) (hc69 : code ≠ 69) (hub : u < 65536) :
    Calls Tryz.prog 23 #[.agg #[.slice D desc.length dc, .int .i64 code], .slice A bs.length cap, .int .i64 lv'] w (TookV Q S w (some (.mk kind (sgn 2 u) [] [] 0 desc, bs.drop 2))) := by
  obtain ⟨T, hT⟩ : ∃ T, T = TookV Q S w (some (.mk kind (sgn 2 u) [] [] 0 desc, bs.drop 2)) := ⟨_, rfl⟩
  rw [← hT]
  have HT := hide hT
  clear hT
  have HRD := hide hrD
  have HCD := hide hcD
  clear hrD hcD
  unfold maxLen at hdm
  go_enter Tryz.func23, Tryz.ntmps23
  go_wp2_with fail
  refine (kindOf_any code hcode _).mono ?_
  rw [hk]
  rintro e w1 ⟨rfl, hb1⟩
  have hw1 : Below w.heap.size w w1 := ((((Below.refl w.heap.size w).alloc (Nat.le_refl _) _).alloc (by first | omega | (simp; omega) | (simp; done)) _).alloc (by first | omega | (simp; omega) | (simp; done)) _).trans (hb1.mono (by simp; omega))
  have hB0 : Blk w1 w.heap.size 65 #[.slice D desc.length dc, .int .i64 code] := (Blk.alloc (Blk.alloc (Blk.new w _ _) _) _).below hb1 (by first | omega | (simp; omega) | (simp; done))
  have hB1 : Blk w1 (w.heap.size + 1) 30 #[.int .i64 0, .int .u64 0, .string ⟨#[]⟩, .slice none 0 0, .int .i64 0, .slice none 0 0] := (Blk.alloc (Blk.new' (by simp)) _).below hb1 (by first | omega | (simp; omega) | (simp; done))
  have hB2 : Blk w1 (w.heap.size + 1 + 1) 30 #[.int .i64 0, .int .u64 0, .string ⟨#[]⟩, .slice none 0 0, .int .i64 0, .slice none 0 0] := (Blk.new' (by simp)).below hb1 (by first | omega | (simp; omega) | (simp; done))
  have hz2 : w.heap.size + 1 + 1 < w1.heap.size := by have := hb1.size; simp at this; omega
  have hz1 : w.heap.size + 1 < w1.heap.size := by omega
  have hz0 : w.heap.size < w1.heap.size := by omega
  have HW1 := hide hw1
  have c0 := hB0.cell 0
  have c1 := hB0.cell 1
  simp only [List.getElem?_toArray, List.getElem?_cons_zero, List.getElem?_cons_succ] at c0 c1
  obtain ⟨⟨r0, r1, r2, r3, r4, r5⟩, ⟨s0, s1, s2, s3, s4, s5⟩⟩ := six_cells hB1
  obtain ⟨⟨n0, n1, n2, n3, n4, n5⟩, _⟩ := six_cells hB2
  have HBK1 := hide hB1
  clear hw1 hb1 hB0 hB1 hB2
  simp only
  have hst1 : Stays S w w1 := stays_below (Stays.refl _ _) (unhide HW1) hS
  have ho1 : Old w1 S := old_below (unhide HW1) hS
  have t69 : ((code : Int) == 69) = false := by simp; omega
  have t0 : ((kind : Int) == 0) = false := by simp; omega
  have t1 : ((kind : Int) == 1) = false := by simp; omega
  have t21 : ¬ (21 : Int) ≤ (kind : Int) := by omega
  have t18 : ¬ (18 : Int) ≤ (kind : Int) := by omega
  have tk : (6 : Int) ≤ (kind : Int) := by omega
  have tk9 : (kind : Int) ≤ 9 := by omega
  have hcut := hr.cut hl hc
  have hBig := fun (W : World) (h : Stays S w W) => takeBig_ok S A bs cap 2 W (hr.keep h) hc hcap hl (by omega)
  rw [hu] at hBig
  simp only [Int.cast_ofNat_Int] at hBig
  have HU := hide hu
  clear hu
  have hsg := sgn_walk2 u hub
  go_wp2_with fail
  refine (hBig _ (by go_simp)).mono ?_
  rintro e w3 ⟨rfl, ⟨nq, rfl⟩⟩
  clear hBig
  go_wp2

  rw [unhide HT]
  refine bodyPost_ret (v := .tuple #[avV kind (sgn 2 u) [] none 0 0 0 D desc.length dc, .slice (cutA A cap 2 1) (bs.length - 2) (cap - 2), .bool true]) (by simp [results, Tryz.results23, go_sem, r0, r1, r2, r3, r4, r5, hz0, hz1, hz2]) rfl ?_
  have hw1 := unhide HW1
  exact tookV_flat (by repeat (first | with_reducible exact Below.refl _ _ | with_reducible exact hw1 | with_reducible refine Below.alloc ?_ (by first | omega | (simp; omega) | (simp; done)) _ | with_reducible refine Below.setCell ?_ (by first | omega | (simp; omega) | (simp; done)) _ | with_reducible refine Below.drew ?_ | with_reducible refine below_drewN ?_ _)) hS hQ hcut (by simp) (by simp; omega) (by unfold maxLen; omega) hdc hdm (unhide HRD) (unhide HCD)
set_option maxRecDepth 100000 in
set_option maxHeartbeats 4000000 in
theorem take_sgn4 (lv' : Int) (Q S : Nat → Prop) (D : Option Addr) (desc : List AV) (dc : Nat) (ys : List Value) (code : Nat) (A : Option Addr) (bs : List UInt8) (cap : Nat) (w : World) (hdc : desc.length ≤ dc) (hdm : dc ≤ maxLen) (hrD : Reads w Q 6 D desc.length ys) (hcD : AVsC w Q desc ys) (hcode : code < 256)
    (hr : RB w S A bs) (hc : bs.length ≤ cap) (hcap : cap ≤ 9223372036854775807) (h40 : bs.length ≤ 1099511627776) (hS : Old w S) (hQ : Old w Q) (kind u : Nat) (hk : kRes code = ((kind : Int), 4, true)) (hl : 4 ≤ bs.length) (hu : bigA (bs.take 4) = u) (hu8 : u < 18446744073709551616) (h6 : 6 ≤ kind) (h9 : kind ≤ 9) (hc69 : code ≠ 69) (hub : u < 4294967296) :
    Calls Tryz.prog 23 #[.agg #[.slice D desc.length dc, .int .i64 code], .slice A bs.length cap, .int .i64 lv'] w (TookV Q S w (some (.mk kind (sgn 4 u) [] [] 0 desc, bs.drop 4))) := by
  obtain ⟨T, hT⟩ : ∃ T, T = TookV Q S w (some (.mk kind (sgn 4 u) [] [] 0 desc, bs.drop 4)) := ⟨_, rfl⟩
  rw [← hT]
  have HT := hide hT
  clear hT
  have HRD := hide hrD
  have HCD := hide hcD
  clear hrD hcD
  unfold maxLen at hdm
  go_enter Tryz.func23, Tryz.ntmps23
  go_wp2_with fail
  refine (kindOf_any code hcode _).mono ?_
  rw [hk]
  rintro e w1 ⟨rfl, hb1⟩
  have hw1 : Below w.heap.size w w1 := ((((Below.refl w.heap.size w).alloc (Nat.le_refl _) _).alloc (by first | omega | (simp; omega) | (simp; done)) _).alloc (by first | omega | (simp; omega) | (simp; done)) _).trans (hb1.mono (by simp; omega))
  have hB0 : Blk w1 w.heap.size 65 #[.slice D desc.length dc, .int .i64 code] := (Blk.alloc (Blk.alloc (Blk.new w _ _) _) _).below hb1 (by first | omega | (simp; omega) | (simp; done))
  have hB1 : Blk w1 (w.heap.size + 1) 30 #[.int .i64 0, .int .u64 0, .string ⟨#[]⟩, .slice none 0 0, .int .i64 0, .slice none 0 0] := (Blk.alloc (Blk.new' (by simp)) _).below hb1 (by first | omega | (simp; omega) | (simp; done))
  have hB2 : Blk w1 (w.heap.size + 1 + 1) 30 #[.int .i64 0, .int .u64 0, .string ⟨#[]⟩, .slice none 0 0, .int .i64 0, .slice none 0 0] := (Blk.new' (by simp)).below hb1 (by first | omega | (simp; omega) | (simp; done))
  have hz2 : w.heap.size + 1 + 1 < w1.heap.size := by have := hb1.size; simp at this; omega
  have hz1 : w.heap.size + 1 < w1.heap.size := by omega
  have hz0 : w.heap.size < w1.heap.size := by omega
  have HW1 := hide hw1
  have c0 := hB0.cell 0
  have c1 := hB0.cell 1
  simp only [List.getElem?_toArray, List.getElem?_cons_zero, List.getElem?_cons_succ] at c0 c1
  obtain ⟨⟨r0, r1, r2, r3, r4, r5⟩, ⟨s0, s1, s2, s3, s4, s5⟩⟩ := six_cells hB1
  obtain ⟨⟨n0, n1, n2, n3, n4, n5⟩, _⟩ := six_cells hB2
  have HBK1 := hide hB1
  clear hw1 hb1 hB0 hB1 hB2
  simp only
  have hst1 : Stays S w w1 := stays_below (Stays.refl _ _) (unhide HW1) hS
  have ho1 : Old w1 S := old_below (unhide HW1) hS
  have t69 : ((code : Int) == 69) = false := by simp; omega
  have t0 : ((kind : Int) == 0) = false := by simp; omega
  have t1 : ((kind : Int) == 1) = false := by simp; omega
  have t21 : ¬ (21 : Int) ≤ (kind : Int) := by omega
  have t18 : ¬ (18 : Int) ≤ (kind : Int) := by omega
  have tk : (6 : Int) ≤ (kind : Int) := by omega
  have tk9 : (kind : Int) ≤ 9 := by omega
  have hcut := hr.cut hl hc
  have hBig := fun (W : World) (h : Stays S w W) => takeBig_ok S A bs cap 4 W (hr.keep h) hc hcap hl (by omega)
  rw [hu] at hBig
  simp only [Int.cast_ofNat_Int] at hBig
  have HU := hide hu
  clear hu
  have hsg := sgn_walk4 u hub
  go_wp2_with fail
  refine (hBig _ (by go_simp)).mono ?_
  rintro e w3 ⟨rfl, ⟨nq, rfl⟩⟩
  clear hBig
  go_wp2

  rw [unhide HT]
  refine bodyPost_ret (v := .tuple #[avV kind (sgn 4 u) [] none 0 0 0 D desc.length dc, .slice (cutA A cap 4 1) (bs.length - 4) (cap - 4), .bool true]) (by simp [results, Tryz.results23, go_sem, r0, r1, r2, r3, r4, r5, hz0, hz1, hz2]) rfl ?_
  have hw1 := unhide HW1
  exact tookV_flat (by repeat (first | with_reducible exact Below.refl _ _ | with_reducible exact hw1 | with_reducible refine Below.alloc ?_ (by first | omega | (simp; omega) | (simp; done)) _ | with_reducible refine Below.setCell ?_ (by first | omega | (simp; omega) | (simp; done)) _ | with_reducible refine Below.drew ?_ | with_reducible refine below_drewN ?_ _)) hS hQ hcut (by simp) (by simp; omega) (by unfold maxLen; omega) hdc hdm (unhide HRD) (unhide HCD)
set_option maxRecDepth 100000 in
set_option maxHeartbeats 4000000 in
theorem take_sgn8 (lv' : Int) (Q S : Nat → Prop) (D : Option Addr) (desc : List AV) (dc : Nat) (ys : List Value) (code : Nat) (A : Option Addr) (bs : List UInt8) (cap : Nat) (w : World) (hdc : desc.length ≤ dc) (hdm : dc ≤ maxLen) (hrD : Reads w Q 6 D desc.length ys) (hcD : AVsC w Q desc ys) (hcode : code < 256)
    (hr : RB w S A bs) (hc : bs.length ≤ cap) (hcap : cap ≤ 9223372036854775807) (h40 : bs.length ≤ 1099511627776) (hS : Old w S) (hQ : Old w Q) (kind u : Nat) (hk : kRes code = ((kind : Int), 8, true)) (hl : 8 ≤ bs.length) (hu : bigA (bs.take 8) = u) (hu8 : u < 18446744073709551616) (h6 : 6 ≤ kind) (h9 : kind ≤ 9) (hc69 : code ≠ 69) (hub : u < 18446744073709551616) :
    Calls Tryz.prog 23 #[.agg #[.slice D desc.length dc, .int .i64 code], .slice A bs.length cap, .int .i64 lv'] w (TookV Q S w (some (.mk kind (sgn 8 u) [] [] 0 desc, bs.drop 8))) := by
  obtain ⟨T, hT⟩ : ∃ T, T = TookV Q S w (some (.mk kind (sgn 8 u) [] [] 0 desc, bs.drop 8)) := ⟨_, rfl⟩
  rw [← hT]
  have HT := hide hT
  clear hT
  have HRD := hide hrD
  have HCD := hide hcD
  clear hrD hcD
  unfold maxLen at hdm
  go_enter Tryz.func23, Tryz.ntmps23
  go_wp2_with fail
  refine (kindOf_any code hcode _).mono ?_
  rw [hk]
  rintro e w1 ⟨rfl, hb1⟩
  have hw1 : Below w.heap.size w w1 := ((((Below.refl w.heap.size w).alloc (Nat.le_refl _) _).alloc (by first | omega | (simp; omega) | (simp; done)) _).alloc (by first | omega | (simp; omega) | (simp; done)) _).trans (hb1.mono (by simp; omega))
  have hB0 : Blk w1 w.heap.size 65 #[.slice D desc.length dc, .int .i64 code] := (Blk.alloc (Blk.alloc (Blk.new w _ _) _) _).below hb1 (by first | omega | (simp; omega) | (simp; done))
  have hB1 : Blk w1 (w.heap.size + 1) 30 #[.int .i64 0, .int .u64 0, .string ⟨#[]⟩, .slice none 0 0, .int .i64 0, .slice none 0 0] := (Blk.alloc (Blk.new' (by simp)) _).below hb1 (by first | omega | (simp; omega) | (simp; done))
  have hB2 : Blk w1 (w.heap.size + 1 + 1) 30 #[.int .i64 0, .int .u64 0, .string ⟨#[]⟩, .slice none 0 0, .int .i64 0, .slice none 0 0] := (Blk.new' (by simp)).below hb1 (by first | omega | (simp; omega) | (simp; done))
  have hz2 : w.heap.size + 1 + 1 < w1.heap.size := by have := hb1.size; simp at this; omega
  have hz1 : w.heap.size + 1 < w1.heap.size := by omega
  have hz0 : w.heap.size < w1.heap.size := by omega
  have HW1 := hide hw1
  have c0 := hB0.cell 0
  have c1 := hB0.cell 1
  simp only [List.getElem?_toArray, List.getElem?_cons_zero, List.getElem?_cons_succ] at c0 c1
  obtain ⟨⟨r0, r1, r2, r3, r4, r5⟩, ⟨s0, s1, s2, s3, s4, s5⟩⟩ := six_cells hB1
  obtain ⟨⟨n0, n1, n2, n3, n4, n5⟩, _⟩ := six_cells hB2
  have HBK1 := hide hB1
  clear hw1 hb1 hB0 hB1 hB2
  simp only
  have hst1 : Stays S w w1 := stays_below (Stays.refl _ _) (unhide HW1) hS
  have ho1 : Old w1 S := old_below (unhide HW1) hS
  have t69 : ((code : Int) == 69) = false := by simp; omega
  have t0 : ((kind : Int) == 0) = false := by simp; omega
  have t1 : ((kind : Int) == 1) = false := by simp; omega
  have t21 : ¬ (21 : Int) ≤ (kind : Int) := by omega
  have t18 : ¬ (18 : Int) ≤ (kind : Int) := by omega
  have tk : (6 : Int) ≤ (kind : Int) := by omega
  have tk9 : (kind : Int) ≤ 9 := by omega
  have hcut := hr.cut hl hc
  have hBig := fun (W : World) (h : Stays S w W) => takeBig_ok S A bs cap 8 W (hr.keep h) hc hcap hl (by omega)
  rw [hu] at hBig
  simp only [Int.cast_ofNat_Int] at hBig
  have HU := hide hu
  clear hu
  have hsg := sgn_walk8 u hub
  go_wp2_with fail
  refine (hBig _ (by go_simp)).mono ?_
  rintro e w3 ⟨rfl, ⟨nq, rfl⟩⟩
  clear hBig
  go_wp2

  rw [unhide HT]
  refine bodyPost_ret (v := .tuple #[avV kind (sgn 8 u) [] none 0 0 0 D desc.length dc, .slice (cutA A cap 8 1) (bs.length - 8) (cap - 8), .bool true]) (by simp [results, Tryz.results23, go_sem, r0, r1, r2, r3, r4, r5, hz0, hz1, hz2]) rfl ?_
  have hw1 := unhide HW1
  exact tookV_flat (by repeat (first | with_reducible exact Below.refl _ _ | with_reducible exact hw1 | with_reducible refine Below.alloc ?_ (by first | omega | (simp; omega) | (simp; done)) _ | with_reducible refine Below.setCell ?_ (by first | omega | (simp; omega) | (simp; done)) _ | with_reducible refine Below.drew ?_ | with_reducible refine below_drewN ?_ _)) hS hQ hcut (by simp) (by simp; omega) (by unfold maxLen; omega) hdc hdm (unhide HRD) (unhide HCD)
end Go.Proofs.YtkokeohlbmccpaaGreatDoor
