/-
  spec.TakeValue computes its plain function (lvl). Conditions: the data read as bytes, at most 2^40; of data in which a string or a symbol is met nothing is said.
-/
import Derived.Test.YtkokeohlbmccpaaGreatDoorWithin1
import Derived.Test.YtkokeohlbmccpaaGreatDoorWithin2
import Derived.Test.YtkokeohlbmccpaaGreatDoorWithin3
import Derived.Test.YtkokeohlbmccpaaGreatDoorWithin4
import Derived.Test.YtkokeohlbmccpaaGreatDoorWithin5
namespace Go.Proofs.YtkokeohlbmccpaaGreatDoor
set_option linter.unusedSimpArgs false
set_option linter.unusedVariables false
open Go.RowKit
theorem withins_any (lv : Nat) (hlvb : lv ≤ 1000) (hV : TakesVal lv) (hC : TakesCons lv) (hT : TakesTake lv) : Withins lv := by
  intro lv' Q S D desc dn dc ys kind u size A bs m cap w hlv hdn hdc hdm hrD hcD hk1 hk2 hs1 hs2 hu hm hr hc hcap h40 hS hQ res hres
  subst hm hdn
  unfold withinW at hres
  by_cases h0 : bs.length < u ∨ u < size
  · rw [if_pos h0] at hres
    cases hres
    exact within_no lv' Q S D desc dc ys kind u size A bs cap w hdc hdm hrD hcD hk1 hk2 hs1 hs2 hu hr hc hcap h40 hS hQ h0
  rw [if_neg h0] at hres
  simp only at hres
  have hu1 : u ≤ bs.length := by omega
  have hu2 : size ≤ u := by omega
  by_cases hbad : (kind = 22 ∧ bigA ((bs.take u).take size) % 2 = 1) ∨ 1048576 < bigA ((bs.take u).take size)
  · rw [if_pos hbad] at hres
    cases hres
    exact within_count lv' Q S D desc dc ys kind u size A bs cap w hdc hdm hrD hcD hk1 hk2 hs1 hs2 hu hr hc hcap h40 hS hQ hu1 hu2 _ rfl hbad
  rw [if_neg hbad] at hres
  have hok3 : bigA ((bs.take u).take size) ≤ 1048576 := by omega
  by_cases h23 : kind = 23
  · rw [if_pos h23] at hres
    rcases hq : (lvl lv).cons ((bs.take u).drop size) with _ | _ | ⟨d, c, b2⟩
    · rw [hq] at hres
      cases hres
    · rw [hq] at hres
      cases hres
      exact within_arrno lv hlvb lv' Q S D desc dc ys kind u size A bs cap w hdc hdm hrD hcD hk1 hk2 hs1 hs2 hu hr hc hcap h40 hS hQ hu1 hu2 hlv _ rfl h23 hok3 hC _ hq rfl
    · rw [hq] at hres
      simp only at hres
      by_cases hc0 : bigA ((bs.take u).take size) = 0
      · rw [if_pos hc0] at hres
        injection hres with hres
        exact within_arr0 lv hlvb lv' Q S D desc dc ys kind u size A bs cap w hdc hdm hrD hcD hk1 hk2 hs1 hs2 hu hr hc hcap h40 hS hQ hu1 hu2 hlv _ rfl h23 hok3 hC _ hq d c b2 rfl hc0 res hres.symm
      · rw [if_neg hc0] at hres
        exact within_arr lv hlvb lv' Q S D desc dc ys kind u size A bs cap w hdc hdm hrD hcD hk1 hk2 hs1 hs2 hu hr hc hcap h40 hS hQ hu1 hu2 hlv _ rfl h23 hok3 hC _ hq d c b2 rfl hc0 hT res hres
  · rw [if_neg h23] at hres
    by_cases h22 : kind = 22
    · exact within_map lv hlvb lv' Q S D desc dc ys kind u size A bs cap w hdc hdm hrD hcD hk1 hk2 hs1 hs2 hu hr hc hcap h40 hS hQ hu1 hu2 hlv _ rfl h22 h23 (fun _ => by omega) hok3 hV res hres
    · exact within_list lv hlvb lv' Q S D desc dc ys kind u size A bs cap w hdc hdm hrD hcD hk1 hk2 hs1 hs2 hu hr hc hcap h40 hS hQ hu1 hu2 hlv _ rfl h22 h23 (fun h => absurd h h22) hok3 hV res hres
/-- What take answers is an answer of TakeValue. -/
theorem tookV_val {Q S : Nat → Prop} {w W w4 W' : World} {r : VRes} {kind : Int} {num : Nat} {text : List UInt8} {K : Option Addr} {kn kc : Nat} {of : Int} {D : Option Addr} {dn dc : Nat} {A : Option Addr} {n cap : Nat} {b : Bool}
    (h : TookVR Q S W w4 r [.int .i64 kind, .int .u64 num, .string ⟨text.toArray⟩, .slice K kn kc, .int .i64 of, .slice D dn dc] A n cap b) (hb : Below w.heap.size w W') (hS : Stays S w4 W') (hQ : Stays (fun x => Q x ∨ Made W w4 x) w4 W') (hM : ∀ x, Q x ∨ Made W w4 x → w.heap.size ≤ x ∧ x < W'.heap.size) :
    TookV NoQ S w r (.returned (.tuple #[avV kind num text K kn kc of D dn dc, .slice A n cap, .bool b])) W' := by
  refine ⟨_, _, _, _, _, _, _, _, _, _, _, _, _, _, rfl, hb, ?_⟩
  unfold TookVR at h ⊢
  rcases r with _ | ⟨v, bs⟩
  · exact h
  · obtain ⟨h1, h2, h3, h4, h5, h6⟩ := h
    exact ⟨h1, h2, h3.keep hS, h4, h5, (h6.keep hQ).sub fun x hx => .inr (hM x hx)⟩
set_option maxRecDepth 100000 in
set_option maxHeartbeats 1600000 in
theorem takesVal_any (lv : Nat) (hC : TakesCons lv) (hT : TakesTake lv) (hval : ∀ bs, (lvl lv).val bs = match (lvl lv).cons bs with
      | none => none
      | some none => some none
      | some (some (d, c, r)) => (lvl lv).take d c r) (hlen : ∀ bs d c r, (lvl lv).cons bs = some (some (d, c, r)) → r.length ≤ bs.length) : TakesVal lv := by
  intro lv' S A bs m cap w hlv hm hr hc hcap h40 hS res hres
  subst hm
  rw [hval] at hres
  rcases hq : (lvl lv).cons bs with _ | q
  · rw [hq] at hres
    cases hres
  rw [hq] at hres
  have HQ := hide hq
  have HL := hide hlv
  have HVAL := hide hval
  have HLEN := hide (fun d c r (h : (lvl lv).cons bs = some (some (d, c, r))) => hlen bs d c r h)
  have HRES := hide hres
  clear hq hlv hval hlen hres
  obtain ⟨T, hT'⟩ : ∃ T, T = TookV NoQ S w res := ⟨_, rfl⟩
  rw [← hT']
  have HT := hide hT'
  clear hT'
  go_enter Tryz.func15, Tryz.ntmps15
  go_wp2_with fail
  refine (hC lv' S A bs bs.length cap _ (unhide HL) rfl (hr.keep (stays_alloc hS (Stays.refl _ _) _)) hc hcap h40 (old_alloc hS _) q (unhide HQ)).mono ?_
  rintro e w1 ⟨D1, dn1, dc1, code, A1, n1, cap1, b1, rfl, hb1, hr1⟩
  have hw1 : Below w.heap.size w w1 := ((Below.refl _ _).alloc (Nat.le_refl _) _).trans (hb1.mono (by simp))
  have hB0 : Blk w1 w.heap.size 30 #[.int .i64 0, .int .u64 0, .string ⟨#[]⟩, .slice none 0 0, .int .i64 0, .slice none 0 0] := (Blk.new w 30 _).below hb1 (by simp)
  obtain ⟨⟨r0, r1, r2, r3, r4, r5⟩, ⟨s0, s1, s2, s3, s4, s5⟩⟩ := six_cells hB0
  have hz0 : w.heap.size < w1.heap.size := hB0.lt
  have HW1 := hide hw1
  have HB1 := hide hb1
  clear hw1 hb1
  rcases q with _ | ⟨d, c, r⟩
  · have hres : res = none := by simpa using (unhide HRES).symm
    rw [hres] at HT
    clear hres
    simp only [TookCR] at hr1
    subst hr1
    clear hB0
    go_wp2
    rw [unhide HT]
    refine bodyPost_ret (v := .tuple #[avV 0 0 [] none 0 0 0 none 0 0, .slice none 0 0, .bool false]) (by simp [results, Tryz.results15, go_sem, r0, r1, r2, r3, r4, r5, hz0]) rfl ?_
    have hw1 := unhide HW1
    exact tookV_none (by repeat (first | with_reducible exact Below.refl _ _ | with_reducible exact hw1 | with_reducible refine Below.alloc ?_ (by first | omega | (simp; omega) | (simp; done)) _ | with_reducible refine Below.setCell ?_ (by first | omega | (simp; omega) | (simp; done)) _ | with_reducible refine Below.drew ?_ | with_reducible refine below_drewN ?_ _))
  · simp only [TookCR] at hr1
    obtain ⟨rfl, rfl, hc256, rfl, hdc1, hdm1, ⟨y1, hrd1, hcd1⟩, rfl, hr2, hc2, hm2⟩ := hr1
    have HRD := hide hrd1
    have HCD := hide hcd1
    have HR2 := hide hr2
    clear hrd1 hcd1 hr2
    unfold maxLen at hm2
    have hrl : r.length ≤ 1099511627776 := Nat.le_trans (unhide HLEN _ _ _ (unhide HQ)) h40
    go_wp2_with fail
    have hoQ : Old w1 (Made (w.alloc (Obj.cells #[.int .i64 0, .int .u64 0, .string ⟨#[]⟩, .slice none 0 0, .int .i64 0, .slice none 0 0] 30)) w1) := fun x hx => hx.2
    have hoS : Old w1 S := old_below (unhide HW1) hS
    refine (hT lv' _ S D1 d d.length dc1 y1 c A1 r r.length cap1 _ (unhide HL) rfl hdc1 hdm1 ((unhide HRD).keep (stays_alloc hoQ (Stays.refl _ _) _)) ((unhide HCD).keep (stays_alloc hoQ (Stays.refl _ _) _)) hc256 rfl ((unhide HR2).keep (stays_alloc hoS (Stays.refl _ _) _)) hc2 hm2 hrl (old_alloc hoS _) (old_alloc hoQ _) res (unhide HRES)).mono ?_
    rintro e w4 ⟨kd, num, text, K, kn, kc, of, D4, dn4, dc4, A4, n4, c4, b4, rfl, hb4, hr4⟩
    have hB4 : Blk w4 w.heap.size 30 #[.int .i64 0, .int .u64 0, .string ⟨#[]⟩, .slice none 0 0, .int .i64 0, .slice none 0 0] := ((hB0.alloc (Obj.cells #[.slice D1 d.length dc1, .int .i64 c] 65)).below hb4 (by simp; omega))
    obtain ⟨⟨q0, q1, q2, q3, q4, q5⟩, e⟩ := six_cells hB4
    have hz4 := hB4.lt
    clear hB4
    have HB4 := hide hb4
    have HR4 := hide hr4
    clear hb4 hr4
    go_wp2
    rw [unhide HT]
    refine bodyPost_ret (v := .tuple #[avV kd num text K kn kc of D4 dn4 dc4, .slice A4 n4 c4, .bool b4]) (by simp [results, Tryz.results15, go_sem, q0, q1, q2, q3, q4, q5]) rfl ?_
    have hw1 := unhide HW1
    have hb4 := unhide HB4
    have hw4 : Below w.heap.size w w4 := (hw1.alloc (by omega) _).trans (hb4.mono (by simp; omega))
    have hn : ¬ S w.heap.size := fun h => by have := hS _ h; omega
    have hz14 : w1.heap.size < w4.heap.size := by have := hb4.size; simp at this; omega
    refine tookV_val (unhide HR4) (by repeat (first | with_reducible exact Below.refl _ _ | with_reducible exact hw4 | with_reducible refine Below.alloc ?_ (by first | omega | (simp; omega) | (simp; done)) _ | with_reducible refine Below.setCell ?_ (by first | omega | (simp; omega) | (simp; done)) _ | with_reducible refine Below.drew ?_ | with_reducible refine below_drewN ?_ _)) ?_ ?_ ?_
    · repeat (first | with_reducible exact Stays.refl _ _ | refine stays_setCell hn ?_ _)
    · have hnM : ¬ (fun x => Made (w.alloc (Obj.cells #[.int .i64 0, .int .u64 0, .string ⟨#[]⟩, .slice none 0 0, .int .i64 0, .slice none 0 0] 30)) w1 x ∨ Made (w1.alloc (Obj.cells #[.slice D1 d.length dc1, .int .i64 c] 65)) w4 x) w.heap.size := by
        rintro (h | h)
        · exact absurd h.1 (by rw [World.size_alloc]; omega)
        · exact absurd h.1 (by rw [World.size_alloc]; omega)
      repeat (first | with_reducible exact Stays.refl _ _ | refine stays_setCell hnM ?_ _)
    · rintro x (h | h)
      · exact ⟨by have := h.1; rw [World.size_alloc] at this; omega, by have := h.2; simp; omega⟩
      · exact ⟨by have := h.1; rw [World.size_alloc] at this; omega, by have := h.2; simp; omega⟩
theorem takes_all : ∀ lv : Nat, lv ≤ 1000 → TakesVal lv ∧ TakesCons lv ∧ TakesTake lv
  | 0, _ => by
    have hT : TakesTake 0 := fun lv' Q S D desc dn dc ys code A bs m cap w _ _ _ _ _ _ _ _ _ _ _ _ _ _ r hr => by simp [lvl] at hr
    exact ⟨takesVal_any 0 takesCons_zero hT (fun bs => rfl) (fun bs d c r h => by simp [lvl] at h), takesCons_zero, hT⟩
  | lv + 1, h => by
    obtain ⟨hV, hC, hT⟩ := takes_all lv (by omega)
    have hC' := takesCons_any lv (by omega) hV
    have hT' := take_any lv (by omega) (withins_any lv (by omega) hV hC hT)
    exact ⟨takesVal_any (lv + 1) hC' hT' (fun bs => rfl) (fun bs d c r h => lvl_cons_len _ _ _ _ _ h), hC', hT'⟩
end Go.Proofs.YtkokeohlbmccpaaGreatDoor
