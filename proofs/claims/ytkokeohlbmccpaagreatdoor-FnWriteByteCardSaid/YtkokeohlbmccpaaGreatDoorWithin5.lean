/-
  The loop of spec.within over an array.
-/
import Derived.Test.YtkokeohlbmccpaaGreatDoorWithin0
import Derived.Test.YtkokeohlbmccpaaGreatDoorOwn
namespace Go.Proofs.YtkokeohlbmccpaaGreatDoor
set_option linter.unusedSimpArgs false
set_option linter.unusedVariables false
open Go.RowKit
set_option maxRecDepth 100000 in
set_option maxHeartbeats 4000000 in
theorem within_arr (lv : Nat) (hlvb : lv ≤ 1000) (lv' : Int) (Q S : Nat → Prop) (D : Option Addr) (desc : List AV) (dc : Nat) (ys : List Value) (kind u size : Nat) (A : Option Addr) (bs : List UInt8) (cap : Nat) (w : World) (hdc : desc.length ≤ dc) (hdm : dc ≤ maxLen) (hrD : Reads w Q 6 D desc.length ys) (hcD : AVsC w Q desc ys) (hk1 : 21 ≤ kind) (hk2 : kind ≤ 23) (hs1 : 1 ≤ size) (hs2 : size ≤ 4) (hu : u < 18446744073709551616)
    (hr : RB w S A bs) (hc : bs.length ≤ cap) (hcap : cap ≤ 9223372036854775807) (h40 : bs.length ≤ 1099511627776) (hS : Old w S) (hQ : Old w Q) (hu1 : u ≤ bs.length) (hu2 : size ≤ u) (hlv : lv' = (lv : Int) + 1) (cnt : Nat) (hcnt : bigA ((bs.take u).take size) = cnt) (h23 : kind = 23) (hok3 : cnt ≤ 1048576) (hVC : TakesCons lv) (q0 : CRes) (hq0 : (lvl lv).cons ((bs.take u).drop size) = some q0) (d : List AV) (c : Nat) (b2 : List UInt8) (hq : q0 = some (d, c, b2)) (h0 : cnt ≠ 0) (hV : TakesTake lv) (res : VRes) (hres : listW kind desc (bs.drop u) (loopA ((lvl lv).take d c) cnt b2) = some res) :
    Calls Tryz.prog 59 #[avV kind 0 [] none 0 0 0 D desc.length dc, .int .u64 u, .int .i64 size, .slice A bs.length cap, .int .i64 lv'] w (TookV Q S w (res)) := by
  have HVC := hide hVC
  have HL := hide hlv
  have hlo : lv' ≤ 1001 := by omega
  have hlo1 : 0 < lv' := by omega
  have hbodl : ((bs.take u).drop size).length ≤ 1099511627776 := by simp; omega
  have HQ0 := hide hq0
  clear hlv hVC hq0
  subst hq
  have HRES := hide hres
  have HV := hide hV
  clear hres hV
  obtain ⟨T, hT⟩ : ∃ T, T = TookV Q S w (res) := ⟨_, rfl⟩
  rw [← hT]
  have HT := hide hT
  clear hT
  have HRD := hide hrD
  have HCD := hide hcD
  clear hrD hcD
  unfold maxLen at hdm
  have t22 : ((kind : Int) == 22) = false := by simp; omega
  have tb : ¬ (1048576 : Int) < (cnt : Int) := by omega
  have t23 : ((kind : Int) == 23) = true := by simp; omega
  clear h23
  have hub : u ≤ bs.length := by omega
  have h1' : ¬ (bs.length : Int) < (u : Int) := by omega
  have h2' : ¬ (u : Int) < (size : Int) := by omega
  have h3' : (u : Int) ≤ (cap : Int) := by omega
  have hrt := hr.take hub
  have hlt : (bs.take u).length = u := by rw [List.length_take]; omega
  have hsu : size ≤ (bs.take u).length := by omega
  have hBig := fun (W : World) (h : Stays S w W) => takeBig_ok S A (bs.take u) cap size W (hrt.keep h) (by omega) hcap hsu (by omega)
  rw [hlt] at hBig
  have hcb := bigA_lt_take (bs.take u) size
  have hcm : bigA ((bs.take u).take size) < 4294967296 := Nat.lt_of_lt_of_le hcb (Nat.pow_le_pow_right (n := 256) (by omega) hs2)
  clear hcb
  have hbody : RB w S (cutA A cap size 1) ((bs.take u).drop size) := hrt.cut hsu (by omega)
  have hbl : ((bs.take u).drop size).length = u - size := by rw [List.length_drop, hlt]
  have hrest : RB w S (cutA A cap u 1) (bs.drop u) := hr.cut hub hc
  rw [hcnt] at hBig hcm
  have HCNT := hide hcnt
  clear hcnt
  generalize (bs.take u).drop size = body at *
  have HBL := hide hbl
  have HLT := hide hlt
  clear hbl hlt hrt hsu
  go_enter Tryz.func59, Tryz.ntmps59
  go_wp2
  go_region
  go_wp2_with fail
  refine (hBig _ (by go_simp)).mono ?_
  rintro e w3 ⟨rfl, ⟨nq, rfl⟩⟩
  clear hBig
  go_wp2_with fail
  generalize hW1 : World.alloc _ (Obj.cells #[Value.slice none 0 0, Value.int IntKind.i64 0] 65) = W1
  have hB5 : Blk W1 w.heap.size 30 (boxC kind (.slice none 0 0) D desc.length dc) := by
    rw [← hW1]
    ((try unfold boxC); (try unfold zeroC); repeat (first | with_reducible exact Blk.new' (by first | rfl | (simp; done) | (simp; omega)) | with_reducible refine Blk.alloc ?_ _ | with_reducible refine Blk.drew ?_ | with_reducible refine Blk.drewN ?_ _))
  have hB10 : Blk W1 (w.heap.size + 1) 30 zeroC := by
    rw [← hW1]
    ((try unfold boxC); (try unfold zeroC); repeat (first | with_reducible exact Blk.new' (by first | rfl | (simp; done) | (simp; omega)) | with_reducible refine Blk.alloc ?_ _ | with_reducible refine Blk.drew ?_ | with_reducible refine Blk.drewN ?_ _))
  have hB13 : Blk W1 (w.heap.size + 1 + 1) 30 zeroC := by
    rw [← hW1]
    ((try unfold boxC); (try unfold zeroC); repeat (first | with_reducible exact Blk.new' (by first | rfl | (simp; done) | (simp; omega)) | with_reducible refine Blk.alloc ?_ _ | with_reducible refine Blk.drew ?_ | with_reducible refine Blk.drewN ?_ _))
  have hB18 : Blk W1 (w.heap.size + 1 + 1 + 1) 65 #[.slice none 0 0, .int .i64 0] := by
    rw [← hW1]
    ((try unfold boxC); (try unfold zeroC); repeat (first | with_reducible exact Blk.new' (by first | rfl | (simp; done) | (simp; omega)) | with_reducible refine Blk.alloc ?_ _ | with_reducible refine Blk.drew ?_ | with_reducible refine Blk.drewN ?_ _))
  have hWB : Below w.heap.size w W1 := by
    rw [← hW1]
    exact (by repeat (first | with_reducible exact Below.refl _ _ | with_reducible exact (Below.refl _ _) | with_reducible refine Below.alloc ?_ (by first | omega | (simp; omega) | (simp; done)) _ | with_reducible refine Below.setCell ?_ (by first | omega | (simp; omega) | (simp; done)) _ | with_reducible refine Below.drew ?_ | with_reducible refine below_drewN ?_ _))
  have hWz : w.heap.size + 1 + 1 + 1 + 1 = W1.heap.size := by
    rw [← hW1]
    simp
  clear hW1
  unfold boxC at hB5
  unfold zeroC at hB10 hB13
  obtain ⟨⟨b0, b1, b2', b3, b4, b5⟩, ⟨e0, e1, e2, e3, e4, e5⟩⟩ := six_cells hB5
  obtain ⟨⟨r0, r1, r2, r3, r4, r5⟩, ⟨s0, s1, s2, s3, s4, s5⟩⟩ := six_cells hB10
  obtain ⟨⟨n0, n1, n2, n3, n4, n5⟩, _⟩ := six_cells hB13
  have c0 := hB18.cell 0
  have c1 := hB18.cell 1
  have f0 := hB18.frozen 0
  have f1 := hB18.frozen 1
  simp only [List.getElem?_toArray, List.getElem?_cons_zero, List.getElem?_cons_succ] at c0 c1
  refine ((unhide HVC) (lv' - 1) S _ body _ (cap - size) W1 (by have := unhide HL; omega) (unhide HBL).symm (hbody.keep (stays_below (Stays.refl _ _) hWB hS)) (by have := unhide HBL; omega) (by omega) hbodl (old_below hWB hS) _ (unhide HQ0)).mono ?_
  rintro e w4 ⟨D4, dn4, dc4, code, A4, n4, c4, b4', rfl, hb4, hr4⟩
  obtain ⟨hc4, hf4⟩ := bcell hb4
  have HW1B := hide hWB
  have HB4 := hide hb4
  have hz4 : W1.heap.size ≤ w4.heap.size := hb4.size
  have hz3 : w.heap.size + 1 + 1 + 1 < W1.heap.size := by omega
  have hz2 : w.heap.size + 1 + 1 < W1.heap.size := by omega
  have hz1 : w.heap.size + 1 < W1.heap.size := by omega
  have hz0 : w.heap.size < W1.heap.size := by omega
  have HK5 := hide hB5
  have HK10 := hide hB10
  have HK13 := hide hB13
  have HK18 := hide hB18
  have HWZ := hide hWz
  clear hWB hb4 hB5 hB10 hB13 hB18 hWz
  simp only [TookCR] at hr4
  obtain ⟨rfl, rfl, hc256, rfl, hdc4, hdm4, ⟨y4, hrd4, hcd4⟩, rfl, hr5, hc5, hm5⟩ := hr4
  have HRD4 := hide hrd4
  have HCD4 := hide hcd4
  have HR5 := hide hr5
  have hb2l : b2.length ≤ 1099511627776 := Nat.le_trans (lvl_cons_len lv _ _ _ _ (unhide HQ0)) hbodl
  clear hrd4 hr5 hcd4
  have tc0 : ((cnt : Int) == 0) = false := by simp; omega
  clear h0
  unfold maxLen at hm5
  go_wp2
  generalize hW2 : World.setCell (World.setCell w4 _ _) _ _ = W2
  have hz42 : W2.heap.size = w4.heap.size := by rw [← hW2]; simp
  have hst42 : ∀ b, b ≠ w.heap.size + 1 + 1 + 1 → W2.heap[b]? = w4.heap[b]? := fun b hb => by
    rw [← hW2]
    exact (Below.heap_setCell _ _ _ _ hb).trans (Below.heap_setCell _ _ _ _ hb)
  have hb18 : Blk W2 (w.heap.size + 1 + 1 + 1) 65 #[.slice D4 d.length dc4, .int .i64 c] := by
    rw [← hW2]
    exact (((unhide HK18).below (unhide HB4) hz3).set_ 0 _).set_ 1 _
  have hw4 : Below w.heap.size w w4 := (unhide HW1B).trans ((unhide HB4).mono (by omega))
  have hWB : Below w.heap.size w W2 := by
    rw [← hW2]
    exact (by repeat (first | with_reducible exact Below.refl _ _ | with_reducible exact hw4 | with_reducible refine Below.alloc ?_ (by first | omega | (simp; omega) | (simp; done)) _ | with_reducible refine Below.setCell ?_ (by first | omega | (simp; omega) | (simp; done)) _ | with_reducible refine Below.drew ?_ | with_reducible refine below_drewN ?_ _))
  clear hW2
  have hW42 : Stays (Made W1 w4) w4 W2 := fun b hb => hst42 b (by have := hb.1; omega)
  have hB5 : Blk W2 w.heap.size 30 (boxC kind (.slice none 0 0) D desc.length dc) := (hst42 _ (by omega)).trans ((unhide HK5).below (unhide HB4) hz0)
  have hB10 : Blk W2 (w.heap.size + 1) 30 zeroC := (hst42 _ (by omega)).trans ((unhide HK10).below (unhide HB4) hz1)
  have hB13 : Blk W2 (w.heap.size + 1 + 1) 30 zeroC := (hst42 _ (by omega)).trans ((unhide HK13).below (unhide HB4) hz2)
  have hB18 := hb18
  have hr5w : RB W2 S A4 b2 := (unhide HR5).keep (fun b hb => hst42 b (by have := hS b hb; omega))
  have hWz := unhide HWZ
  clear b0 b1 b2' b3 b4 b5 e0 e1 e2 e3 e4 e5 r0 r1 r2 r3 r4 r5 s0 s1 s2 s3 s4 s5 n0 n1 n2 n3 n4 n5 c0 c1 f0 f1 HK5 HK10 HK13 HK18 hz0 hz1 hz2 hz3 hc4 hf4 hb18 hw4
  obtain ⟨full, hfull⟩ : ∃ x, x = loopA ((lvl lv).take d c) cnt b2 := ⟨_, rfl⟩
  rw [← hfull] at HRES
  have hstart : full = comb [] (loopA ((lvl lv).take d c) (cnt - 0) b2) := by rw [comb_nil]; exact hfull
  clear hfull
  have hlenf : ∀ b v r, ((lvl lv).take d c) b = some (some (v, r)) → b.length ≤ 1099511627776 → r.length ≤ 1099511627776 := fun b v r h h' => Nat.le_trans ((lvl_take_len lv d c) b v r h) h'
  have HLF := hide hlenf
  clear hlenf
  go_loopw [14, 22] (fun s14 s22 wr => LoopR ((lvl lv).take d c) S w W2 w.heap.size kind D desc.length dc cnt full #[.slice D4 d.length dc4, .int .i64 c] s14 s22 wr) (fun _ s22 _ => cnt - (intOf s22).toNat)
  case atStart => exact ⟨0, A4, b2, _, [], [], .slice none 0 0, rfl, rfl, Nat.zero_le _, hr5w, hc5, hm5, hb2l, hstart, rfl, ⟨rfl, .inl ⟨rfl, rfl⟩⟩, by unfold AVsC; rfl, hB5, hB10, hB13, hB18, hWB, Nat.le_refl _, Stays.refl _ _⟩
  case round =>
    obtain ⟨k, A1, bs1, cp, acc, xs, v, rfl, rfl, hk, hr1, hc1, hcp1, h401, hcomb, hacc, hown, hav, hC5, hC10, hC13, hC18, hBr, hzr, hmid⟩ := hrel
    clear hB5 hB10 hB13 hB18
    obtain ⟨Kv, kc, rfl, hkc, hkm, _⟩ := own_slice hown
    unfold boxC at hC5
    unfold zeroC at hC10 hC13
    obtain ⟨⟨b0, b1, b2, b3, b4, b5⟩, ⟨e0, e1, e2, e3, e4, e5⟩⟩ := six_cells hC5
    obtain ⟨⟨r0, r1, r2, r3, r4, r5⟩, ⟨s0, s1, s2, s3, s4, s5⟩⟩ := six_cells hC10
    obtain ⟨⟨n0, n1, n2, n3, n4, n5⟩, _⟩ := six_cells hC13
    have hz3 : w.heap.size + 1 + 1 + 1 < wr.heap.size := hC18.lt
    have hz2 : w.heap.size + 1 + 1 < wr.heap.size := hC13.lt
    have hz1 : w.heap.size + 1 < wr.heap.size := hC10.lt
    have hz0 : w.heap.size < wr.heap.size := hC5.lt
    have HK5 := hide hC5
    have HK10 := hide hC10
    have HK13 := hide hC13
    have k0 := hC18.cell 0
    have k1 := hC18.cell 1
    simp only [List.getElem?_toArray, List.getElem?_cons_zero, List.getElem?_cons_succ] at k0 k1
    have HK18 := hide hC18
    have HOWN := hide hown
    have HAV := hide hav
    have HACC := hide hacc
    have HBR := hide hBr
    have HR1 := hide hr1
    have HCB := hide hcomb
    have HOS := hide (old_below hBr hS)
    clear hC5 hC10 hC13 hC18 hown hav hacc hBr hr1 hcomb
    by_cases hlt : k < cnt
    · have hlt' : (k : Int) < (cnt : Int) := by omega
      rcases hq : ((lvl lv).take d c) bs1 with _ | q
      · exfalso
        have h := unhide HRES
        rw [unhide HCB, show cnt - k = (cnt - k - 1) + 1 from by omega, comb_skip _ _ _ _ hq] at h
        cases h
      have HQ := hide hq
      go_wp2_with fail
      have ho4 : Old wr (Made W1 w4) := fun x hx => Nat.lt_of_lt_of_le hx.2 (by omega)
      have hst4 : Stays (Made W1 w4) w4 (wr.alloc (Obj.cells #[.int .i64 0, .int .u64 0, .string ⟨#[]⟩, .slice none 0 0, .int .i64 0, .slice none 0 0] 30)) := stays_alloc ho4 (fun x hx => (hmid x ⟨by have := hx.1; omega, by have := hx.2; omega⟩).trans (hW42 x hx)) _
      refine ((unhide HV) (lv' - 1) (Made W1 w4) S D4 d d.length dc4 y4 c A1 bs1 bs1.length cp _ (by have := unhide HL; omega) rfl hdc4 hdm4 ((unhide HRD4).keep hst4) ((unhide HCD4).keep hst4) hc256 rfl ((unhide HR1).keep (stays_alloc (unhide HOS) (Stays.refl _ _) _)) hc1 hcp1 h401 (old_alloc (unhide HOS) _) (old_alloc ho4 _) q hq).mono ?_
      rintro e w5 ⟨kd, num, text, K2, kn2, kc2, of2, D2, dn2, dc2, A2, n2, cp2, bb, rfl, hb5, hr5⟩
      obtain ⟨hc5, hf5⟩ := bcell hb5
      have hz5 : wr.heap.size < w5.heap.size := by have := hb5.size; simp at this; omega
      have hg23 : Blk w5 wr.heap.size 30 zeroC := (Blk.new' rfl).below hb5 (by simp)
      unfold zeroC at hg23
      obtain ⟨⟨y0, y1, y2, y3, y4, y5⟩, ⟨x0, x1, x2, x3, x4, x5⟩⟩ := six_cells hg23
      clear hg23
      have HB5 := hide hb5
      clear hb5
      rcases q with _ | ⟨val, r⟩
      · simp only [TookVR] at hr5
        subst hr5
        have hres : res = none := by
          have h := unhide HRES
          rw [unhide HCB, show cnt - k = (cnt - k - 1) + 1 from by omega, comb_none _ _ _ _ hq] at h
          simpa [listW] using h.symm
        rw [hres] at HT
        clear hres hq
        go_wp2
        rw [unhide HT]
        refine bodyPost_ret (v := .tuple #[avV 0 0 [] none 0 0 0 none 0 0, .slice none 0 0, .bool false]) (by simp [results, Tryz.results59, go_sem, r0, r1, r2, r3, r4, r5, hz0, hz1, hz2, hz3, hc5]) rfl ?_
        have hBr := unhide HBR
        have hb5 := unhide HB5
        have hw5 : Below w.heap.size w w5 := (hBr.alloc (by omega) _).trans (hb5.mono (by simp; omega))
        exact tookV_none (by repeat (first | with_reducible exact Below.refl _ _ | with_reducible exact hw5 | with_reducible refine Below.alloc ?_ (by first | omega | (simp; omega) | (simp; done)) _ | with_reducible refine Below.setCell ?_ (by first | omega | (simp; omega) | (simp; done)) _ | with_reducible refine Below.drew ?_ | with_reducible refine below_drewN ?_ _))
      · simp only [TookVR] at hr5
        obtain ⟨rfl, rfl, hr2, hc2, hm2, hav2⟩ := hr5
        have HR2 := hide hr2
        have HAV2 := hide hav2
        clear hr2 hav2 hq
        have hb5 := unhide HB5
        have hbw : Below wr.heap.size wr w5 := ((Below.refl _ _).alloc (Nat.le_refl _) _).trans (hb5.mono (by simp))
        have hK5w : Blk w5 w.heap.size 30 #[.int .i64 kind, .int .u64 0, .string ⟨#[]⟩, .slice Kv k kc, .int .i64 0, .slice D desc.length dc] := (unhide HK5).below hbw hz0
        have hge : ∀ x, (Value.slice Kv k kc).ownBlock = some x → W2.heap.size ≤ x ∧ x < wr.heap.size := own_ge (unhide HOWN)
        have hz5' : w.heap.size < w5.heap.size := by omega
        have HBW := hide hbw
        have HKW := hide hK5w
        have HGE := hide hge
        clear hb5 hbw hK5w hge
        obtain ⟨i0, hi0, hiz, his, hib⟩ := info_parts info29
        go_wp2_with (at_builtin; go_loud (refine wpList_append_any (S := fun _ => True) _ rfl _ _ 28 rfl W2.heap.size 30 i0 _ 6 88 Tryz.underlying28 hi0 hiz his hib ?x1 ?x2 (.slice Kv k kc) k xs ?x3 ?x4 (some ⟨w5.heap.size, 0, none⟩) 1 1 [.int .i64 kd, .int .u64 num, .string ⟨text.toArray⟩, .slice K2 kn2 kc2, .int .i64 of2, .slice D2 dn2 dc2] ?x5 ?x6 six_ones ?x7 ?x8 ?x9 ?_; (case x1 => rfl); (case x2 => omega); (case x3 => rfl); (case x4 => have hbw := unhide HBW; exact own_below (unhide HOWN) (by repeat (first | with_reducible exact Below.refl _ _ | with_reducible exact hbw | with_reducible refine Below.alloc ?_ (by first | omega | (simp; omega) | (simp; done)) _ | with_reducible refine Below.setCell ?_ (by first | omega | (simp; omega) | (simp; done)) _ | with_reducible refine Below.drew ?_ | with_reducible refine below_drewN ?_ _))); (case x5 => rfl); (case x6 => exact Reads.of_blk (t := 30) (cs := #[.int .i64 kd, .int .u64 num, .string ⟨text.toArray⟩, .slice K2 kn2 kc2, .int .i64 of2, .slice D2 dn2 dc2]) (Blk.new' (by simp)) trivial 6 1 rfl); (case x7 => unfold maxLen; omega); (case x8 => omega); (case x9 => simp; omega); clear hi0 hiz his hib; intro v6 w6 hown6 hgr6 hat6; have hK6 : Blk w6 w.heap.size 30 #[.int .i64 kind, .int .u64 0, .string ⟨#[]⟩, .slice Kv k kc, .int .i64 0, .slice D desc.length dc] := Blk.grown (by have hK5w := unhide HKW; repeat (first | with_reducible exact hK5w | with_reducible refine Blk.alloc ?_ _ | refine Blk.far ?_ (by simp; omega) _)) hgr6 (fun e => by have h := unhide HGE _ e.symm; omega); obtain ⟨⟨b06, b16, b26, b36, b46, b56⟩, ⟨e06, e16, e26, e36, e46, e56⟩⟩ := six_cells hK6; clear b0 b1 b2 b3 b4 b5 e0 e1 e2 e3 e4 e5; obtain ⟨K6, kc6, rfl, hkc6, hkm6, _⟩ := own_slice hown6; have HG6 := hide hgr6; have HO6 := hide hown6; have HA6 := hide hat6; have HK6 := hide hK6; clear hgr6 hown6 hat6 hK6))
        have hBr := unhide HBR
        have hbw := unhide HBW
        have hb5w : Below w.heap.size w w5 := hBr.trans (hbw.mono (by omega))
        have hstep := fun hA5 hAz hbA => loop_step (g := w.heap.size) rfl hS hlt (unhide HCB) (unhide HQ) (unhide HLF _ _ _ (unhide HQ) h401) (unhide HACC) (unhide HAV) (unhide HK10) (unhide HK13) (unhide HK18) hBr hzr (by omega) hmid (unhide HGE) hbw hz5 hA5 hAz hbA (unhide HG6) (unhide HO6) (unhide HA6) (unhide HK6) (unhide HR2) hc2 hm2 (unhide HAV2) (by exact fun x hx => ⟨by have := hx.1; omega, by have := hx.2; omega⟩)
        refine ⟨hstep (fun b h1 h2 => ?_) (by simp) (by repeat (first | with_reducible exact Below.refl _ _ | with_reducible exact hb5w | with_reducible refine Below.alloc ?_ (by first | omega | (simp; omega) | (simp; done)) _ | with_reducible refine Below.setCell ?_ (by first | omega | (simp; omega) | (simp; done)) _ | with_reducible refine Below.drew ?_ | with_reducible refine below_drewN ?_ _)), by simp [intOf]; omega⟩
        rw [Below.heap_alloc _ _ _ (by simpa using h2)]
        repeat (first | with_reducible rfl | refine (Below.heap_setCell _ _ _ _ h1).trans ?_)
    · obtain rfl : k = cnt := by omega
      have hfin := unhide HRES
      rw [unhide HCB, Nat.sub_self, comb_end] at hfin
      have HFIN := hide hfin
      clear hfin
      rcases bs1 with _ | ⟨x1, bs1⟩
      · have hres : res = some (.mk kind 0 [] acc 0 desc, bs.drop u) := by simpa [listW] using (unhide HFIN).symm
        rw [hres] at HT
        simp only [List.length_nil]
        clear hres
        go_wp2
        rw [unhide HT]
        refine bodyPost_ret (v := .tuple #[avV kind 0 [] Kv k kc 0 D desc.length dc, .slice (cutA A cap u 1) (bs.length - u) (cap - u), .bool true]) (by simp [results, Tryz.results59, go_sem, r0, r1, r2, r3, r4, r5, hz0, hz1, hz2, hz3]) rfl ?_
        have hBr := unhide HBR
        refine within_done (by repeat (first | with_reducible exact Below.refl _ _ | with_reducible exact hBr | with_reducible refine Below.alloc ?_ (by first | omega | (simp; omega) | (simp; done)) _ | with_reducible refine Below.setCell ?_ (by first | omega | (simp; omega) | (simp; done)) _ | with_reducible refine Below.drew ?_ | with_reducible refine below_drewN ?_ _)) hBr hS hQ (unhide HOWN) (unhide HAV) (unhide HACC) hkc hkm hdc hdm (unhide HRD) (unhide HCD) hrest (by simp) (by simp; omega) (by unfold maxLen; omega) (by omega) (by simp) (fun b hb => ?_)
        repeat (first | with_reducible rfl | refine (Below.heap_setCell _ _ _ _ hb).trans ?_)
      · have hres : res = none := by simpa [listW] using (unhide HFIN).symm
        rw [hres] at HT
        have hln : (((x1 :: bs1).length : Int) == 0) = false := by simp; omega
        have hln2 : ¬ (bs1.length : Int) + 1 = 0 := by omega
        simp only [List.length_cons] at hln ⊢
        clear hres
        go_wp2
        rw [unhide HT]
        refine bodyPost_ret (v := .tuple #[avV kind 0 [] Kv k kc 0 D desc.length dc, .slice (cutA A cap u 1) (bs.length - u) (cap - u), .bool false]) (by simp [results, Tryz.results59, go_sem, r0, r1, r2, r3, r4, r5, hz0, hz1, hz2, hz3, hln2]) rfl ?_
        have hBr := unhide HBR
        exact tookV_none (by repeat (first | with_reducible exact Below.refl _ _ | with_reducible exact hBr | with_reducible refine Below.alloc ?_ (by first | omega | (simp; omega) | (simp; done)) _ | with_reducible refine Below.setCell ?_ (by first | omega | (simp; omega) | (simp; done)) _ | with_reducible refine Below.drew ?_ | with_reducible refine below_drewN ?_ _))
end Go.Proofs.YtkokeohlbmccpaaGreatDoor
