/-
  Ways through spec.within over an array: no constructor, no element.
-/
import Derived.Test.YtkokeohlbmccpaaGreatDoorWithin0
import Derived.Test.YtkokeohlbmccpaaGreatDoorOwn
namespace Go.Proofs.YtkokeohlbmccpaaGreatDoor
set_option linter.unusedSimpArgs false
set_option linter.unusedVariables false
open Go.RowKit
set_option maxRecDepth 100000 in
set_option maxHeartbeats 4000000 in
theorem within_arrno (lv : Nat) (hlvb : lv ≤ 1000) (lv' : Int) (Q S : Nat → Prop) (D : Option Addr) (desc : List AV) (dc : Nat) (ys : List Value) (kind u size : Nat) (A : Option Addr) (bs : List UInt8) (cap : Nat) (w : World) (hdc : desc.length ≤ dc) (hdm : dc ≤ maxLen) (hrD : Reads w Q 6 D desc.length ys) (hcD : AVsC w Q desc ys) (hk1 : 21 ≤ kind) (hk2 : kind ≤ 23) (hs1 : 1 ≤ size) (hs2 : size ≤ 4) (hu : u < 18446744073709551616)
    (hr : RB w S A bs) (hc : bs.length ≤ cap) (hcap : cap ≤ 9223372036854775807) (h40 : bs.length ≤ 1099511627776) (hS : Old w S) (hQ : Old w Q) (hu1 : u ≤ bs.length) (hu2 : size ≤ u) (hlv : lv' = (lv : Int) + 1) (cnt : Nat) (hcnt : bigA ((bs.take u).take size) = cnt) (h23 : kind = 23) (hok3 : cnt ≤ 1048576) (hVC : TakesCons lv) (q0 : CRes) (hq0 : (lvl lv).cons ((bs.take u).drop size) = some q0) (hq : q0 = none) :
    Calls Tryz.prog 59 #[avV kind 0 [] none 0 0 0 D desc.length dc, .int .u64 u, .int .i64 size, .slice A bs.length cap, .int .i64 lv'] w (TookV Q S w (none)) := by
  have HVC := hide hVC
  have HL := hide hlv
  have hlo : lv' ≤ 1001 := by omega
  have hlo1 : 0 < lv' := by omega
  have hbodl : ((bs.take u).drop size).length ≤ 1099511627776 := by simp; omega
  have HQ0 := hide hq0
  clear hlv hVC hq0
  subst hq
  obtain ⟨T, hT⟩ : ∃ T, T = TookV Q S w (none) := ⟨_, rfl⟩
  rw [← hT]
  have HT := hide hT
  clear hT
  have HRD := hide hrD
  have HCD := hide hcD
  clear hrD hcD
  unfold maxLen at hdm
  have t22 : ((kind : Int) == 22) = false := by simp; omega
  have tb : ¬ (1048576 : Int) < (cnt : Int) := by omega
  have t23 : ((kind : Int) == 23) = true := by simp; omega
  clear h23
  have hub : u ≤ bs.length := by omega
  have h1' : ¬ (bs.length : Int) < (u : Int) := by omega
  have h2' : ¬ (u : Int) < (size : Int) := by omega
  have h3' : (u : Int) ≤ (cap : Int) := by omega
  have hrt := hr.take hub
  have hlt : (bs.take u).length = u := by rw [List.length_take]; omega
  have hsu : size ≤ (bs.take u).length := by omega
  have hBig := fun (W : World) (h : Stays S w W) => takeBig_ok S A (bs.take u) cap size W (hrt.keep h) (by omega) hcap hsu (by omega)
  rw [hlt] at hBig
  have hcb := bigA_lt_take (bs.take u) size
  have hcm : bigA ((bs.take u).take size) < 4294967296 := Nat.lt_of_lt_of_le hcb (Nat.pow_le_pow_right (n := 256) (by omega) hs2)
  clear hcb
  have hbody : RB w S (cutA A cap size 1) ((bs.take u).drop size) := hrt.cut hsu (by omega)
  have hbl : ((bs.take u).drop size).length = u - size := by rw [List.length_drop, hlt]
  have hrest : RB w S (cutA A cap u 1) (bs.drop u) := hr.cut hub hc
  rw [hcnt] at hBig hcm
  have HCNT := hide hcnt
  clear hcnt
  generalize (bs.take u).drop size = body at *
  have HBL := hide hbl
  have HLT := hide hlt
  clear hbl hlt hrt hsu
  go_enter Tryz.func59, Tryz.ntmps59
  go_wp2
  go_region
  go_wp2_with fail
  refine (hBig _ (by go_simp)).mono ?_
  rintro e w3 ⟨rfl, ⟨nq, rfl⟩⟩
  clear hBig
  go_wp2_with fail
  generalize hW1 : World.alloc _ (Obj.cells #[Value.slice none 0 0, Value.int IntKind.i64 0] 65) = W1
  have hB5 : Blk W1 w.heap.size 30 (boxC kind (.slice none 0 0) D desc.length dc) := by
    rw [← hW1]
    ((try unfold boxC); (try unfold zeroC); repeat (first | with_reducible exact Blk.new' (by first | rfl | (simp; done) | (simp; omega)) | with_reducible refine Blk.alloc ?_ _ | with_reducible refine Blk.drew ?_ | with_reducible refine Blk.drewN ?_ _))
  have hB10 : Blk W1 (w.heap.size + 1) 30 zeroC := by
    rw [← hW1]
    ((try unfold boxC); (try unfold zeroC); repeat (first | with_reducible exact Blk.new' (by first | rfl | (simp; done) | (simp; omega)) | with_reducible refine Blk.alloc ?_ _ | with_reducible refine Blk.drew ?_ | with_reducible refine Blk.drewN ?_ _))
  have hB13 : Blk W1 (w.heap.size + 1 + 1) 30 zeroC := by
    rw [← hW1]
    ((try unfold boxC); (try unfold zeroC); repeat (first | with_reducible exact Blk.new' (by first | rfl | (simp; done) | (simp; omega)) | with_reducible refine Blk.alloc ?_ _ | with_reducible refine Blk.drew ?_ | with_reducible refine Blk.drewN ?_ _))
  have hB18 : Blk W1 (w.heap.size + 1 + 1 + 1) 65 #[.slice none 0 0, .int .i64 0] := by
    rw [← hW1]
    ((try unfold boxC); (try unfold zeroC); repeat (first | with_reducible exact Blk.new' (by first | rfl | (simp; done) | (simp; omega)) | with_reducible refine Blk.alloc ?_ _ | with_reducible refine Blk.drew ?_ | with_reducible refine Blk.drewN ?_ _))
  have hWB : Below w.heap.size w W1 := by
    rw [← hW1]
    exact (by repeat (first | with_reducible exact Below.refl _ _ | with_reducible exact (Below.refl _ _) | with_reducible refine Below.alloc ?_ (by first | omega | (simp; omega) | (simp; done)) _ | with_reducible refine Below.setCell ?_ (by first | omega | (simp; omega) | (simp; done)) _ | with_reducible refine Below.drew ?_ | with_reducible refine below_drewN ?_ _))
  have hWz : w.heap.size + 1 + 1 + 1 + 1 = W1.heap.size := by
    rw [← hW1]
    simp
  clear hW1
  unfold boxC at hB5
  unfold zeroC at hB10 hB13
  obtain ⟨⟨b0, b1, b2', b3, b4, b5⟩, ⟨e0, e1, e2, e3, e4, e5⟩⟩ := six_cells hB5
  obtain ⟨⟨r0, r1, r2, r3, r4, r5⟩, ⟨s0, s1, s2, s3, s4, s5⟩⟩ := six_cells hB10
  obtain ⟨⟨n0, n1, n2, n3, n4, n5⟩, _⟩ := six_cells hB13
  have c0 := hB18.cell 0
  have c1 := hB18.cell 1
  have f0 := hB18.frozen 0
  have f1 := hB18.frozen 1
  simp only [List.getElem?_toArray, List.getElem?_cons_zero, List.getElem?_cons_succ] at c0 c1
  refine ((unhide HVC) (lv' - 1) S _ body _ (cap - size) W1 (by have := unhide HL; omega) (unhide HBL).symm (hbody.keep (stays_below (Stays.refl _ _) hWB hS)) (by have := unhide HBL; omega) (by omega) hbodl (old_below hWB hS) _ (unhide HQ0)).mono ?_
  rintro e w4 ⟨D4, dn4, dc4, code, A4, n4, c4, b4', rfl, hb4, hr4⟩
  obtain ⟨hc4, hf4⟩ := bcell hb4
  have HW1B := hide hWB
  have HB4 := hide hb4
  have hz4 : W1.heap.size ≤ w4.heap.size := hb4.size
  have hz3 : w.heap.size + 1 + 1 + 1 < W1.heap.size := by omega
  have hz2 : w.heap.size + 1 + 1 < W1.heap.size := by omega
  have hz1 : w.heap.size + 1 < W1.heap.size := by omega
  have hz0 : w.heap.size < W1.heap.size := by omega
  have HK5 := hide hB5
  have HK10 := hide hB10
  have HK13 := hide hB13
  have HK18 := hide hB18
  have HWZ := hide hWz
  clear hWB hb4 hB5 hB10 hB13 hB18 hWz
  simp only [TookCR] at hr4
  subst hr4
  go_wp2
  rw [unhide HT]
  refine bodyPost_ret (v := .tuple #[avV 0 0 [] none 0 0 0 none 0 0, .slice none 0 0, .bool false]) (by simp [results, Tryz.results59, go_sem, r0, r1, r2, r3, r4, r5, hz0, hz1, hz2, hz3, hc4]) rfl ?_
  have hw4 : Below w.heap.size w w4 := (unhide HW1B).trans ((unhide HB4).mono (by omega))
  exact tookV_none (by repeat (first | with_reducible exact Below.refl _ _ | with_reducible exact hw4 | with_reducible refine Below.alloc ?_ (by first | omega | (simp; omega) | (simp; done)) _ | with_reducible refine Below.setCell ?_ (by first | omega | (simp; omega) | (simp; done)) _ | with_reducible refine Below.drew ?_ | with_reducible refine below_drewN ?_ _))
set_option maxRecDepth 100000 in
set_option maxHeartbeats 4000000 in
theorem within_arr0 (lv : Nat) (hlvb : lv ≤ 1000) (lv' : Int) (Q S : Nat → Prop) (D : Option Addr) (desc : List AV) (dc : Nat) (ys : List Value) (kind u size : Nat) (A : Option Addr) (bs : List UInt8) (cap : Nat) (w : World) (hdc : desc.length ≤ dc) (hdm : dc ≤ maxLen) (hrD : Reads w Q 6 D desc.length ys) (hcD : AVsC w Q desc ys) (hk1 : 21 ≤ kind) (hk2 : kind ≤ 23) (hs1 : 1 ≤ size) (hs2 : size ≤ 4) (hu : u < 18446744073709551616)
    (hr : RB w S A bs) (hc : bs.length ≤ cap) (hcap : cap ≤ 9223372036854775807) (h40 : bs.length ≤ 1099511627776) (hS : Old w S) (hQ : Old w Q) (hu1 : u ≤ bs.length) (hu2 : size ≤ u) (hlv : lv' = (lv : Int) + 1) (cnt : Nat) (hcnt : bigA ((bs.take u).take size) = cnt) (h23 : kind = 23) (hok3 : cnt ≤ 1048576) (hVC : TakesCons lv) (q0 : CRes) (hq0 : (lvl lv).cons ((bs.take u).drop size) = some q0) (d : List AV) (c : Nat) (b2 : List UInt8) (hq : q0 = some (d, c, b2)) (h0 : cnt = 0) (res : VRes) (hres : res = (match kOf c with | none => none | some (k, _) => if b2 = [] then some (.mk kind 0 [] [] k desc, bs.drop u) else none)) :
    Calls Tryz.prog 59 #[avV kind 0 [] none 0 0 0 D desc.length dc, .int .u64 u, .int .i64 size, .slice A bs.length cap, .int .i64 lv'] w (TookV Q S w (res)) := by
  have HVC := hide hVC
  have HL := hide hlv
  have hlo : lv' ≤ 1001 := by omega
  have hlo1 : 0 < lv' := by omega
  have hbodl : ((bs.take u).drop size).length ≤ 1099511627776 := by simp; omega
  have HQ0 := hide hq0
  clear hlv hVC hq0
  subst hq
  have HRES := hide hres
  clear hres
  obtain ⟨T, hT⟩ : ∃ T, T = TookV Q S w (res) := ⟨_, rfl⟩
  rw [← hT]
  have HT := hide hT
  clear hT
  have HRD := hide hrD
  have HCD := hide hcD
  clear hrD hcD
  unfold maxLen at hdm
  have t22 : ((kind : Int) == 22) = false := by simp; omega
  have tb : ¬ (1048576 : Int) < (cnt : Int) := by omega
  have t23 : ((kind : Int) == 23) = true := by simp; omega
  clear h23
  have hub : u ≤ bs.length := by omega
  have h1' : ¬ (bs.length : Int) < (u : Int) := by omega
  have h2' : ¬ (u : Int) < (size : Int) := by omega
  have h3' : (u : Int) ≤ (cap : Int) := by omega
  have hrt := hr.take hub
  have hlt : (bs.take u).length = u := by rw [List.length_take]; omega
  have hsu : size ≤ (bs.take u).length := by omega
  have hBig := fun (W : World) (h : Stays S w W) => takeBig_ok S A (bs.take u) cap size W (hrt.keep h) (by omega) hcap hsu (by omega)
  rw [hlt] at hBig
  have hcb := bigA_lt_take (bs.take u) size
  have hcm : bigA ((bs.take u).take size) < 4294967296 := Nat.lt_of_lt_of_le hcb (Nat.pow_le_pow_right (n := 256) (by omega) hs2)
  clear hcb
  have hbody : RB w S (cutA A cap size 1) ((bs.take u).drop size) := hrt.cut hsu (by omega)
  have hbl : ((bs.take u).drop size).length = u - size := by rw [List.length_drop, hlt]
  have hrest : RB w S (cutA A cap u 1) (bs.drop u) := hr.cut hub hc
  rw [hcnt] at hBig hcm
  have HCNT := hide hcnt
  clear hcnt
  generalize (bs.take u).drop size = body at *
  have HBL := hide hbl
  have HLT := hide hlt
  clear hbl hlt hrt hsu
  go_enter Tryz.func59, Tryz.ntmps59
  go_wp2
  go_region
  go_wp2_with fail
  refine (hBig _ (by go_simp)).mono ?_
  rintro e w3 ⟨rfl, ⟨nq, rfl⟩⟩
  clear hBig
  go_wp2_with fail
  generalize hW1 : World.alloc _ (Obj.cells #[Value.slice none 0 0, Value.int IntKind.i64 0] 65) = W1
  have hB5 : Blk W1 w.heap.size 30 (boxC kind (.slice none 0 0) D desc.length dc) := by
    rw [← hW1]
    ((try unfold boxC); (try unfold zeroC); repeat (first | with_reducible exact Blk.new' (by first | rfl | (simp; done) | (simp; omega)) | with_reducible refine Blk.alloc ?_ _ | with_reducible refine Blk.drew ?_ | with_reducible refine Blk.drewN ?_ _))
  have hB10 : Blk W1 (w.heap.size + 1) 30 zeroC := by
    rw [← hW1]
    ((try unfold boxC); (try unfold zeroC); repeat (first | with_reducible exact Blk.new' (by first | rfl | (simp; done) | (simp; omega)) | with_reducible refine Blk.alloc ?_ _ | with_reducible refine Blk.drew ?_ | with_reducible refine Blk.drewN ?_ _))
  have hB13 : Blk W1 (w.heap.size + 1 + 1) 30 zeroC := by
    rw [← hW1]
    ((try unfold boxC); (try unfold zeroC); repeat (first | with_reducible exact Blk.new' (by first | rfl | (simp; done) | (simp; omega)) | with_reducible refine Blk.alloc ?_ _ | with_reducible refine Blk.drew ?_ | with_reducible refine Blk.drewN ?_ _))
  have hB18 : Blk W1 (w.heap.size + 1 + 1 + 1) 65 #[.slice none 0 0, .int .i64 0] := by
    rw [← hW1]
    ((try unfold boxC); (try unfold zeroC); repeat (first | with_reducible exact Blk.new' (by first | rfl | (simp; done) | (simp; omega)) | with_reducible refine Blk.alloc ?_ _ | with_reducible refine Blk.drew ?_ | with_reducible refine Blk.drewN ?_ _))
  have hWB : Below w.heap.size w W1 := by
    rw [← hW1]
    exact (by repeat (first | with_reducible exact Below.refl _ _ | with_reducible exact (Below.refl _ _) | with_reducible refine Below.alloc ?_ (by first | omega | (simp; omega) | (simp; done)) _ | with_reducible refine Below.setCell ?_ (by first | omega | (simp; omega) | (simp; done)) _ | with_reducible refine Below.drew ?_ | with_reducible refine below_drewN ?_ _))
  have hWz : w.heap.size + 1 + 1 + 1 + 1 = W1.heap.size := by
    rw [← hW1]
    simp
  clear hW1
  unfold boxC at hB5
  unfold zeroC at hB10 hB13
  obtain ⟨⟨b0, b1, b2', b3, b4, b5⟩, ⟨e0, e1, e2, e3, e4, e5⟩⟩ := six_cells hB5
  obtain ⟨⟨r0, r1, r2, r3, r4, r5⟩, ⟨s0, s1, s2, s3, s4, s5⟩⟩ := six_cells hB10
  obtain ⟨⟨n0, n1, n2, n3, n4, n5⟩, _⟩ := six_cells hB13
  have c0 := hB18.cell 0
  have c1 := hB18.cell 1
  have f0 := hB18.frozen 0
  have f1 := hB18.frozen 1
  simp only [List.getElem?_toArray, List.getElem?_cons_zero, List.getElem?_cons_succ] at c0 c1
  refine ((unhide HVC) (lv' - 1) S _ body _ (cap - size) W1 (by have := unhide HL; omega) (unhide HBL).symm (hbody.keep (stays_below (Stays.refl _ _) hWB hS)) (by have := unhide HBL; omega) (by omega) hbodl (old_below hWB hS) _ (unhide HQ0)).mono ?_
  rintro e w4 ⟨D4, dn4, dc4, code, A4, n4, c4, b4', rfl, hb4, hr4⟩
  obtain ⟨hc4, hf4⟩ := bcell hb4
  have HW1B := hide hWB
  have HB4 := hide hb4
  have hz4 : W1.heap.size ≤ w4.heap.size := hb4.size
  have hz3 : w.heap.size + 1 + 1 + 1 < W1.heap.size := by omega
  have hz2 : w.heap.size + 1 + 1 < W1.heap.size := by omega
  have hz1 : w.heap.size + 1 < W1.heap.size := by omega
  have hz0 : w.heap.size < W1.heap.size := by omega
  have HK5 := hide hB5
  have HK10 := hide hB10
  have HK13 := hide hB13
  have HK18 := hide hB18
  have HWZ := hide hWz
  clear hWB hb4 hB5 hB10 hB13 hB18 hWz
  have tc0 : ((cnt : Int) == 0) = true := by simp; omega
  clear h0
  simp only [TookCR] at hr4
  obtain ⟨rfl, rfl, hc256, rfl, hdc4, hdm4, hrd4, rfl, hr5, hc5, hm5⟩ := hr4
  have HRD4 := hide hrd4
  have HR5 := hide hr5
  clear hrd4 hr5
  go_wp2_with fail
  refine (kindOf_any c hc256 _).mono ?_
  rintro e w6 ⟨rfl, hb6⟩
  obtain ⟨hc6, hf6⟩ := bcell hb6
  have HB6 := hide hb6
  clear hb6
  have hy0 : w.heap.size < w4.heap.size := by omega
  have hy1 : w.heap.size + 1 < w4.heap.size := by omega
  have hy2 : w.heap.size + 1 + 1 < w4.heap.size := by omega
  have hb4w : Below w.heap.size w w4 := (unhide HW1B).trans ((unhide HB4).mono (by omega))
  have HB4W := hide hb4w
  clear hb4w
  rcases hk : kOf c with _ | ⟨kk, ks⟩
  · have hr : res = none := by rw [unhide HRES, hk]
    rw [hr] at HT
    rw [show kRes c = (0, 0, false) from by simp [kRes, hk]]
    simp only
    clear hr hk
    go_wp2
    rw [unhide HT]
    refine bodyPost_ret (v := .tuple #[avV kind 0 [] none 0 0 0 D desc.length dc, .slice (cutA A cap u 1) (bs.length - u) (cap - u), .bool false]) (by simp [results, Tryz.results59, go_sem, r0, r1, r2, r3, r4, r5, hz0, hz1, hz2, hz3, hc4, hc6, hy0, hy1, hy2, b0, b1, b2', b3, b4, b5]) rfl ?_
    have hb4w := unhide HB4W
    have hw6 : Below w.heap.size w w6 := ((by repeat (first | with_reducible exact Below.refl _ _ | with_reducible exact hb4w | with_reducible refine Below.alloc ?_ (by first | omega | (simp; omega) | (simp; done)) _ | with_reducible refine Below.setCell ?_ (by first | omega | (simp; omega) | (simp; done)) _ | with_reducible refine Below.drew ?_ | with_reducible refine below_drewN ?_ _)) : Below w.heap.size w (World.setCell (World.setCell w4 _ _) _ _)).trans ((unhide HB6).mono (by simp; omega))
    exact tookV_none (by repeat (first | with_reducible exact Below.refl _ _ | with_reducible exact hw6 | with_reducible refine Below.alloc ?_ (by first | omega | (simp; omega) | (simp; done)) _ | with_reducible refine Below.setCell ?_ (by first | omega | (simp; omega) | (simp; done)) _ | with_reducible refine Below.drew ?_ | with_reducible refine below_drewN ?_ _))
  · rw [show kRes c = ((kk : Int), (ks : Int), true) from by simp [kRes, hk]]
    simp only
    rcases b2 with _ | ⟨x2, b2⟩
    · have hr : res = some (.mk kind 0 [] [] kk desc, bs.drop u) := by rw [unhide HRES, hk]; simp
      rw [hr] at HT
      simp only [List.length_nil]
      clear hr hk
      go_wp2
      rw [unhide HT]
      refine bodyPost_ret (v := .tuple #[avV kind 0 [] none 0 0 kk D desc.length dc, .slice (cutA A cap u 1) (bs.length - u) (cap - u), .bool true]) (by simp [results, Tryz.results59, go_sem, r0, r1, r2, r3, r4, r5, hz0, hz1, hz2, hz3, hc4, hc6, hy0, hy1, hy2, b0, b1, b2', b3, b4, b5]) rfl ?_
      have hb4w := unhide HB4W
      have hw6 : Below w.heap.size w w6 := ((by repeat (first | with_reducible exact Below.refl _ _ | with_reducible exact hb4w | with_reducible refine Below.alloc ?_ (by first | omega | (simp; omega) | (simp; done)) _ | with_reducible refine Below.setCell ?_ (by first | omega | (simp; omega) | (simp; done)) _ | with_reducible refine Below.drew ?_ | with_reducible refine below_drewN ?_ _)) : Below w.heap.size w (World.setCell (World.setCell w4 _ _) _ _)).trans ((unhide HB6).mono (by simp; omega))
      exact tookV_of (by repeat (first | with_reducible exact Below.refl _ _ | with_reducible exact hw6 | with_reducible refine Below.alloc ?_ (by first | omega | (simp; omega) | (simp; done)) _ | with_reducible refine Below.setCell ?_ (by first | omega | (simp; omega) | (simp; done)) _ | with_reducible refine Below.drew ?_ | with_reducible refine below_drewN ?_ _)) hS hQ hrest (by simp) (by simp; omega) (by unfold maxLen; omega) hdc (by unfold maxLen; omega) (unhide HRD) (unhide HCD)
    · have hr : res = none := by rw [unhide HRES, hk]; simp
      rw [hr] at HT
      have hln2 : ¬ (b2.length : Int) + 1 = 0 := by omega
      have hln : (((x2 :: b2).length : Int) == 0) = false := by simp; omega
      simp only [List.length_cons] at hln ⊢
      clear hr hk
      go_wp2
      rw [unhide HT]
      refine bodyPost_ret (v := .tuple #[avV kind 0 [] none 0 0 kk D desc.length dc, .slice (cutA A cap u 1) (bs.length - u) (cap - u), .bool false]) (by simp [results, Tryz.results59, go_sem, r0, r1, r2, r3, r4, r5, hz0, hz1, hz2, hz3, hc4, hc6, hy0, hy1, hy2, b0, b1, b2', b3, b4, b5, hln2]) rfl ?_
      have hb4w := unhide HB4W
      have hw6 : Below w.heap.size w w6 := ((by repeat (first | with_reducible exact Below.refl _ _ | with_reducible exact hb4w | with_reducible refine Below.alloc ?_ (by first | omega | (simp; omega) | (simp; done)) _ | with_reducible refine Below.setCell ?_ (by first | omega | (simp; omega) | (simp; done)) _ | with_reducible refine Below.drew ?_ | with_reducible refine below_drewN ?_ _)) : Below w.heap.size w (World.setCell (World.setCell w4 _ _) _ _)).trans ((unhide HB6).mono (by simp; omega))
      exact tookV_none (by repeat (first | with_reducible exact Below.refl _ _ | with_reducible exact hw6 | with_reducible refine Below.alloc ?_ (by first | omega | (simp; omega) | (simp; done)) _ | with_reducible refine Below.setCell ?_ (by first | omega | (simp; omega) | (simp; done)) _ | with_reducible refine Below.drew ?_ | with_reducible refine below_drewN ?_ _))
end Go.Proofs.YtkokeohlbmccpaaGreatDoor
