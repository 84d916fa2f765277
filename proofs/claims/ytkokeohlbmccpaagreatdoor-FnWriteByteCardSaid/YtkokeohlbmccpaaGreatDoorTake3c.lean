/-
  A way through spec.constructor.take: lists, maps, arrays.
-/
import Derived.Test.YtkokeohlbmccpaaGreatDoorTake3
namespace Go.Proofs.YtkokeohlbmccpaaGreatDoor
set_option linter.unusedSimpArgs false
set_option linter.unusedVariables false
open Go.RowKit
set_option maxRecDepth 100000 in
set_option maxHeartbeats 4000000 in
theorem take_within (lv : Nat) (_hlvb : lv ≤ 1000) (lv' : Int) (Q S : Nat → Prop) (D : Option Addr) (desc : List AV) (dc : Nat) (ys : List Value) (code : Nat) (A : Option Addr) (bs : List UInt8) (cap : Nat) (w : World) (hdc : desc.length ≤ dc) (hdm : dc ≤ maxLen) (hrD : Reads w Q 6 D desc.length ys) (hcD : AVsC w Q desc ys) (hcode : code < 256)
    (hr : RB w S A bs) (hc : bs.length ≤ cap) (hcap : cap ≤ 9223372036854775807) (h40 : bs.length ≤ 1099511627776) (hS : Old w S) (hQ : Old w Q) (kind size u : Nat) (hk : kRes code = ((kind : Int), (size : Int), true)) (h8 : size ≤ 8) (hl : size ≤ bs.length) (hu : bigA (bs.take size) = u) (hu8 : u < 18446744073709551616) (hW : Withins lv) (res : VRes) (hres : withinW (lvl lv).cons (lvl lv).val (lvl lv).take desc kind u size (bs.drop size) = some res) (hlv : lv' = (lv : Int) + 1) (hF : 21 ≤ kind) (hk23 : kind ≤ 23) (hc69 : code ≠ 69) (hs1 : 1 ≤ size) (hs4 : size ≤ 4) :
    Calls Tryz.prog 23 #[.agg #[.slice D desc.length dc, .int .i64 code], .slice A bs.length cap, .int .i64 lv'] w (TookV Q S w (res)) := by
  have HL := hide hlv
  clear hlv
  have HRS := hide hres
  clear hres
  obtain ⟨T, hT⟩ : ∃ T, T = TookV Q S w (res) := ⟨_, rfl⟩
  rw [← hT]
  have HT := hide hT
  clear hT
  have HRD := hide hrD
  have HCD := hide hcD
  clear hrD hcD
  unfold maxLen at hdm
  go_enter Tryz.func23, Tryz.ntmps23
  go_wp2_with fail
  refine (kindOf_any code hcode _).mono ?_
  rw [hk]
  rintro e w1 ⟨rfl, hb1⟩
  have hw1 : Below w.heap.size w w1 := ((((Below.refl w.heap.size w).alloc (Nat.le_refl _) _).alloc (by first | omega | (simp; omega) | (simp; done)) _).alloc (by first | omega | (simp; omega) | (simp; done)) _).trans (hb1.mono (by simp; omega))
  have hB0 : Blk w1 w.heap.size 65 #[.slice D desc.length dc, .int .i64 code] := (Blk.alloc (Blk.alloc (Blk.new w _ _) _) _).below hb1 (by first | omega | (simp; omega) | (simp; done))
  have hB1 : Blk w1 (w.heap.size + 1) 30 #[.int .i64 0, .int .u64 0, .string ⟨#[]⟩, .slice none 0 0, .int .i64 0, .slice none 0 0] := (Blk.alloc (Blk.new' (by simp)) _).below hb1 (by first | omega | (simp; omega) | (simp; done))
  have hB2 : Blk w1 (w.heap.size + 1 + 1) 30 #[.int .i64 0, .int .u64 0, .string ⟨#[]⟩, .slice none 0 0, .int .i64 0, .slice none 0 0] := (Blk.new' (by simp)).below hb1 (by first | omega | (simp; omega) | (simp; done))
  have hz2 : w.heap.size + 1 + 1 < w1.heap.size := by have := hb1.size; simp at this; omega
  have hz1 : w.heap.size + 1 < w1.heap.size := by omega
  have hz0 : w.heap.size < w1.heap.size := by omega
  have HW1 := hide hw1
  have c0 := hB0.cell 0
  have c1 := hB0.cell 1
  simp only [List.getElem?_toArray, List.getElem?_cons_zero, List.getElem?_cons_succ] at c0 c1
  obtain ⟨⟨r0, r1, r2, r3, r4, r5⟩, ⟨s0, s1, s2, s3, s4, s5⟩⟩ := six_cells hB1
  obtain ⟨⟨n0, n1, n2, n3, n4, n5⟩, _⟩ := six_cells hB2
  have HBK1 := hide hB1
  clear hw1 hb1 hB0 hB1 hB2
  simp only
  have hst1 : Stays S w w1 := stays_below (Stays.refl _ _) (unhide HW1) hS
  have ho1 : Old w1 S := old_below (unhide HW1) hS
  have t69 : ((code : Int) == 69) = false := by simp; omega
  have t0 : ((kind : Int) == 0) = false := by simp; omega
  have t1 : ((kind : Int) == 1) = false := by simp; omega
  have hFi : (21 : Int) ≤ (kind : Int) := by omega
  have t16 : ((size : Int) == 16) = false := by simp; omega
  have hcut := hr.cut hl hc
  have hBig := fun (W : World) (h : Stays S w W) => takeBig_ok S A bs cap size W (hr.keep h) hc hcap hl h8
  rw [hu] at hBig
  have HU := hide hu
  clear hu
  go_wp2_with fail
  refine (hBig _ (by go_simp)).mono ?_
  rintro e w3 ⟨rfl, ⟨nq, rfl⟩⟩
  clear hBig
  go_wp2_with fail
  have hw1 := unhide HW1
  refine (hW lv' Q S D desc desc.length dc ys kind u size (cutA A cap size 1) (bs.drop size) (bs.length - size) (cap - size) _ (unhide HL) rfl hdc hdm ?x2 ?x3 hF hk23 hs1 hs4 hu8 (by simp) ?x4 (by simp; omega) (by omega) (by simp; omega) ?x5 ?x6 res (unhide HRS)).mono ?_
  case x2 => exact (unhide HRD).keep (stays_below (Stays.refl _ _) (by repeat (first | with_reducible exact Below.refl _ _ | with_reducible exact hw1 | with_reducible refine Below.alloc ?_ (by first | omega | (simp; omega) | (simp; done)) _ | with_reducible refine Below.setCell ?_ (by first | omega | (simp; omega) | (simp; done)) _ | with_reducible refine Below.drew ?_ | with_reducible refine below_drewN ?_ _)) hQ)
  case x3 => exact (unhide HCD).keep (stays_below (Stays.refl _ _) (by repeat (first | with_reducible exact Below.refl _ _ | with_reducible exact hw1 | with_reducible refine Below.alloc ?_ (by first | omega | (simp; omega) | (simp; done)) _ | with_reducible refine Below.setCell ?_ (by first | omega | (simp; omega) | (simp; done)) _ | with_reducible refine Below.drew ?_ | with_reducible refine below_drewN ?_ _)) hQ)
  case x4 => exact hcut.keep (stays_below (Stays.refl _ _) (by repeat (first | with_reducible exact Below.refl _ _ | with_reducible exact hw1 | with_reducible refine Below.alloc ?_ (by first | omega | (simp; omega) | (simp; done)) _ | with_reducible refine Below.setCell ?_ (by first | omega | (simp; omega) | (simp; done)) _ | with_reducible refine Below.drew ?_ | with_reducible refine below_drewN ?_ _)) hS)
  case x5 => exact old_below (B := w.heap.size) (by repeat (first | with_reducible exact Below.refl _ _ | with_reducible exact hw1 | with_reducible refine Below.alloc ?_ (by first | omega | (simp; omega) | (simp; done)) _ | with_reducible refine Below.setCell ?_ (by first | omega | (simp; omega) | (simp; done)) _ | with_reducible refine Below.drew ?_ | with_reducible refine below_drewN ?_ _)) hS
  case x6 => exact old_below (B := w.heap.size) (by repeat (first | with_reducible exact Below.refl _ _ | with_reducible exact hw1 | with_reducible refine Below.alloc ?_ (by first | omega | (simp; omega) | (simp; done)) _ | with_reducible refine Below.setCell ?_ (by first | omega | (simp; omega) | (simp; done)) _ | with_reducible refine Below.drew ?_ | with_reducible refine below_drewN ?_ _)) hQ
  clear hw1
  rintro e w4 ⟨kd, num, text, K, kn, kc, of, D4, dn4, dc4, A4, n4, c4, b4, rfl, hb4, hr4⟩
  obtain ⟨hc4, hf4⟩ := bcell hb4
  have HB4 := hide hb4
  have HR4 := hide hr4
  clear hb4 hr4
  go_wp2
  rw [unhide HT]
  refine bodyPost_ret (v := .tuple #[avV kd num text K kn kc of D4 dn4 dc4, .slice A4 n4 c4, .bool b4]) (by simp [results, Tryz.results23, go_sem, r0, r1, r2, r3, r4, r5, hz0, hz1, hz2, hc4]) rfl ?_
  have hw1 := unhide HW1
  have hb4 := unhide HB4
  have hr4 := unhide HR4
  have hW0 : Below w.heap.size w ((w1.alloc (Obj.cells #[.int .i64 kind, .int .u64 0, .string ⟨#[]⟩, .slice none 0 0, .int .i64 0, .slice D desc.length dc] 30)).drewN nq) := (by repeat (first | with_reducible exact Below.refl _ _ | with_reducible exact hw1 | with_reducible refine Below.alloc ?_ (by first | omega | (simp; omega) | (simp; done)) _ | with_reducible refine Below.setCell ?_ (by first | omega | (simp; omega) | (simp; done)) _ | with_reducible refine Below.drew ?_ | with_reducible refine below_drewN ?_ _))
  have hzW : w.heap.size + 1 < ((w1.alloc (Obj.cells #[.int .i64 kind, .int .u64 0, .string ⟨#[]⟩, .slice none 0 0, .int .i64 0, .slice D desc.length dc] 30)).drewN nq).heap.size := by simp; omega
  clear HW1 HB4 HR4 HT hc4 hf4
  generalize (w1.alloc (Obj.cells #[.int .i64 kind, .int .u64 0, .string ⟨#[]⟩, .slice none 0 0, .int .i64 0, .slice D desc.length dc] 30)).drewN nq = W at *
  have hw4 : Below w.heap.size w w4 := hW0.trans (hb4.mono (by omega))
  have hn : ∀ {R : Nat → Prop}, Old w R → ¬ R (w.heap.size + 1) := fun hR h => by have := hR _ h; omega
  refine tookV_on hr4 (by omega) (by repeat (first | with_reducible exact Below.refl _ _ | with_reducible exact hw4 | with_reducible refine Below.alloc ?_ (by first | omega | (simp; omega) | (simp; done)) _ | with_reducible refine Below.setCell ?_ (by first | omega | (simp; omega) | (simp; done)) _ | with_reducible refine Below.drew ?_ | with_reducible refine below_drewN ?_ _)) (by simp) ?_ ?_
  · repeat (first | with_reducible exact Stays.refl _ _ | refine stays_setCell (hn hS) ?_ _)
  · have hn' := hn hQ
    have hnM : ¬ (fun x => Q x ∨ Made W w4 x) (w.heap.size + 1) := by
      rintro (h | h)
      · exact hn' h
      · exact absurd h.1 (by omega)
    repeat (first | with_reducible exact Stays.refl _ _ | refine stays_setCell hnM ?_ _)
end Go.Proofs.YtkokeohlbmccpaaGreatDoor
