/-
  msgp.source.more where bytes must be read. Conditions: there are so many to come; at most 200000.
-/
import Derived.Test.YtpadbpmnejgckaaDoorMore
namespace Go.Proofs.YtpadbpmnejgckaaDoor
set_option linter.unusedSimpArgs false
set_option linter.unusedVariables false
set_option linter.unusedVariables false
open Go.RowKit
set_option maxRecDepth 100000 in
set_option maxHeartbeats 6400000 in
theorem more_yes2 (d s m z : Nat) (ck dep : Int) (DA : Option Addr) (dc : Nat) (A : Option Addr) (cap at_ n : Nat) (pend rest : List UInt8) (w : World) (h : RdSt w d s m z ck dep DA dc (.slice A (at_ + pend.length) cap) cap at_ pend rest) (hn : pend.length < n) (hn2 : n ≤ (pend ++ rest).length) (hn3 : n ≤ 200000) :
    Calls Tryd.prog 142 #[.pointer (some ⟨s, 0, none⟩), .int .i64 n] w fun e w' => e = .returned (.tuple #[]) ∧ MoreP d s m z ck dep (.slice A (at_ + pend.length) cap) (pend ++ rest) n w w' := by
  have hm1 := mRead d
  have hm2 := mReadN d
  have hle := h.room.len_le
  have hcm := h.capm
  have hz1 := h.z1
  have hz2 := h.z2
  have c1 : w.cell? ⟨s, 1, none⟩ = some (.slice A (at_ + pend.length) cap) := h.S.cell 1
  have c2 : w.cell? ⟨s, 2, none⟩ = some (.int .i64 at_) := h.S.cell 2
  have c4 : w.cell? ⟨s, 4, none⟩ = some .nilIface := h.S.cell 4
  obtain ⟨w2, hcp, q1, q2, q3, q4, hst, hkp⟩ := head_any A (w := w.drew) h.quiet
  obtain ⟨V0, hV0⟩ : ∃ V0, V0 = Value.slice A (at_ + pend.length) cap := ⟨_, rfl⟩
  obtain ⟨bs, hbs⟩ : ∃ bs, bs = pend ++ rest := ⟨_, rfl⟩
  obtain ⟨p, hp⟩ : ∃ p, p = pend.length := ⟨_, rfl⟩
  obtain ⟨R, hR⟩ : ∃ R, R = at_ + pend.length := ⟨_, rfl⟩
  have hrel0 : MoreRel d s m z ck dep V0 bs w ((w2.setCell ⟨s, 1, none⟩ (.slice A pend.length cap)).setCell ⟨s, 2, none⟩ (.int .i64 0)) := ⟨DA, dc, _, cap, pend, rest, hbs.symm, hst, by rw [hV0]; exact hkp.undrew, .inl (by rw [hV0]; cases A <;> rfl)⟩
  rw [← hp] at hrel0 hcp hn hle hR q1 c1
  rw [← hR] at hcp q1 c1
  rw [← hV0, ← hbs]
  rw [← hbs] at hn2
  have HREL := hide hrel0
  obtain ⟨L, hL⟩ : ∃ L : Int, L = (R : Int) - (at_ : Int) := ⟨_, rfl⟩
  have hw : IntKind.i64.wrap L = L := by rw [IntKind.wrap_i64]; omega
  have hge : decide ((n : Int) ≤ L) = false := by simp; omega
  have hL2 := hL.symm
  have ha1 : (0 : Int) ≤ (at_ : Int) := by omega
  have ha2 : (at_ : Int) ≤ (R : Int) := by omega
  have ha3 : ((at_ : Int)).toNat = at_ := rfl
  have ha4 : R - at_ = p := by omega
  have hp1 : (0 : Int) ≤ (p : Int) := by omega
  have hp2 : (p : Int) ≤ (cap : Int) := by omega
  have hp3 : ((p : Int)).toNat = p := rfl
  have HN2 := hide hn2
  clear hp hR hL hn hn2 h hst hkp hrel0 hbs hV0 hle
  go_enter Tryd.func142, Tryd.ntmps142
  go_wp2_with fail
  go_region
  go_wp2_with fail
  go_region
  go_wp2_with fail
  clear q1 q2 q3 q4 c1 c2 c4 hcp hw hge hL2 ha1 ha2 ha3 ha4 hp1 hp2 hp3
  go_loopw [4] (fun _ wr => MoreRel d s m z ck dep V0 bs w wr) (fun _ wr => dropsLeft d wr)
  case atStart => exact unhide HREL
  case round =>
    obtain ⟨DA', dc', V, cap', pend', rest', hbs, hst, hkp, hown⟩ := hrel
    obtain ⟨A1, rfl⟩ := hst.room.form
    simp only [Nat.zero_add] at hst hown
    have hle := hst.room.len_le
    have hcm' := hst.capm
    obtain ⟨p', hp'⟩ : ∃ p', p' = pend'.length := ⟨_, rfl⟩
    have e1 : wr.cell? ⟨s, 1, none⟩ = some (.slice A1 p' cap') := by rw [hp']; exact hst.S.cell 1
    have e0 : wr.cell? ⟨s, 0, none⟩ = some (.iface 195 (.pointer (some ⟨d, 0, none⟩))) := hst.S.cell 0
    have e3 : wr.cell? ⟨s, 3, none⟩ = some (.int .i64 z) := hst.S.cell 3
    have e4 : wr.cell? ⟨s, 4, none⟩ = some .nilIface := hst.S.cell 4
    have hdl := dropsLeft_of hst.D
    by_cases hlt : p' < n
    · have hlt2 : (p' : Int) < (n : Int) := by omega
      have hrest : 0 < rest'.length := by
        have h2 := unhide HN2
        rw [← hbs, List.length_append, ← hp'] at h2
        omega
      obtain ⟨L2, hL2⟩ : ∃ L2 : Int, L2 = (cap' : Int) - (p' : Int) := ⟨_, rfl⟩
      have hw2 : IntKind.i64.wrap L2 = L2 := by rw [IntKind.wrap_i64]; omega
      have hL3 := hL2.symm
      by_cases hg : cap' < p' + z
      · have hg2 : L2 < (z : Int) := by omega
        have hpn : p' < n := hlt
        obtain ⟨c, hc⟩ : ∃ c, c = 2 * cap' + z := ⟨_, rfl⟩
        obtain ⟨Z, w2, hmk, hcp2, f1, y0, y1, y3, hst2, hkp2⟩ := grow_any (w := wr.drew) A1 wr.heap.size c rfl hc (by omega) hst.quiet
        rw [← hp'] at hmk hcp2 hst2 hkp2 y1
        have hcm2 : c ≤ 1000000 := by omega
        have hcc : ((c : Nat) : Int) = 2 * (cap' : Int) + (z : Int) := by omega
        have m1 : IntKind.i64.wrap (2 * (cap' : Int)) = 2 * (cap' : Int) := by rw [IntKind.wrap_i64]; omega
        have m2 : IntKind.i64.wrap (2 * (cap' : Int) + (z : Int)) = 2 * (cap' : Int) + (z : Int) := by rw [IntKind.wrap_i64]; omega
        have hsl := hst.S.lt
        have HGS : Hid (w.heap.size ≤ wr.heap.size) := hkp.size
        have hRA := read_any (w := w2.setCell ⟨s, 1, none⟩ (.slice (some ⟨wr.heap.size, 0, none⟩) p' c)) wr.heap.size p' hp' hst2 (by omega) hrest
        have HRA := hide hRA
        have hcut : cutA (some ⟨wr.heap.size, 0, none⟩) c p' 1 = some ⟨wr.heap.size, p', none⟩ := cutA_at wr.heap.size c p' (by omega)
        have b1 : (0 : Int) ≤ (p' : Int) := by omega
        have b2 : (p' : Int) ≤ (p' : Int) + (z : Int) := by omega
        have b3 : (p' : Int) + (z : Int) ≤ (c : Int) := by omega
        have b4 : ((p' : Int) + (z : Int)).toNat = p' + z := by omega
        have b5 : IntKind.i64.wrap ((p' : Int) + (z : Int)) = (p' : Int) + (z : Int) := by rw [IntKind.wrap_i64]; omega
        have b6 : ((p' : Int)).toNat = p' := rfl
        have b7 : p' + z - p' = z := by omega
        have HY0 : Hid ((w2.setCell ⟨s, 1, none⟩ (.slice (some ⟨wr.heap.size, 0, none⟩) p' c)).cell? ⟨s, 0, none⟩ = some (.iface 195 (.pointer (some ⟨d, 0, none⟩)))) := hst2.S.cell 0
        have HY1 : Hid ((w2.setCell ⟨s, 1, none⟩ (.slice (some ⟨wr.heap.size, 0, none⟩) p' c)).cell? ⟨s, 1, none⟩ = some (.slice (some ⟨wr.heap.size, 0, none⟩) p' c)) := hst2.S.cell 1
        have HY3 : Hid ((w2.setCell ⟨s, 1, none⟩ (.slice (some ⟨wr.heap.size, 0, none⟩) p' c)).cell? ⟨s, 3, none⟩ = some (.int .i64 z)) := hst2.S.cell 3
        have HKP2 := hide hkp2
        have HKP := hide hkp
        have HOWN := hide hown
        have HBS := hide hbs
        have HP' := hide hp'
        have HDL := hide hdl
        rw [hcc] at hmk
        have hcp3 : (Builtin.copy_ #[26, 26] 3 #[.slice (some ⟨wr.heap.size, 0, none⟩) p' c, .slice A1 p' cap']).run Tryd.prog ((wr.alloc (.cells Z.toArray 5)).drew.drew) = .ok (goInt (p' : Nat)) w2 := hcp2
        clear hcp2
        clear hst hkp hown hst2 hkp2 hRA hbs hp' hdl hc hL2
        go_wp2_with fail
        go_region
        go_wp2_with fail
        go_region
        go_wp2_with fail
        generalize w2.setCell ⟨s, 1, none⟩ (.slice (some ⟨wr.heap.size, 0, none⟩) p' c) = w3 at HY0 HY1 HY3 HRA HKP2 ⊢
        have x0 := unhide HY0
        have x1 := unhide HY1
        have x3 := unhide HY3
        clear HY0 HY1 HY3 y0 y1 y3 f1 hmk hcp3 hcc m1 m2 e0 e1 e3 e4
        generalize wr.heap.size = G at HGS x0 x1 x3 HRA HKP2 hcut ⊢
        go_region_held3 (fun W => W.cell? ⟨s, 0, none⟩ = some (.iface 195 (.pointer (some ⟨d, 0, none⟩))) ∧ W.cell? ⟨s, 1, none⟩ = some (.slice (some ⟨G, 0, none⟩) p' c) ∧ W.cell? ⟨s, 3, none⟩ = some (.int .i64 z)) (go_keep)
          ((go_at_call 182; refine (unhide HRA).mono ?_; rintro e w5 ⟨j, DA2, hj1, hj2, hj3, rfl, t0, t1, t3, t4, t5, t6, hst5, hkp5⟩; have HST5 := hide hst5; have HKP5 := hide hkp5; have d1 : (0 : Int) ≤ (p' : Int) + (j : Int) := (Int.add_nonneg (Int.natCast_nonneg _) (Int.natCast_nonneg _)); have d2 : (p' : Int) + (j : Int) ≤ (c : Int) := (by omega); have d3 : ((p' : Int) + (j : Int)).toNat = p' + j := (by omega); have d4 : IntKind.i64.wrap ((p' : Int) + (j : Int)) = (p' : Int) + (j : Int) := (by rw [IntKind.wrap_i64]; omega); clear hst5 hkp5))
        go_wp2_with fail
        go_roundw
        case rel =>
          have hown' := unhide HOWN
          have hk2 := (unhide HKP).trans (unhide HKP2).undrew (RdK.trans (by rw [unhide HP']; exact hown'))
          have hn5 : (Value.slice (some ⟨G, 0, none⟩) (p' + j) c).ownBlock = V0.ownBlock ∨ ∃ g, (Value.slice (some ⟨G, 0, none⟩) (p' + j) c).ownBlock = some g ∧ w.heap.size ≤ g := .inr ⟨G, rfl, unhide HGS⟩
          have hn6 : (Value.slice (some ⟨G, 0, none⟩) p' c).ownBlock = V0.ownBlock ∨ ∃ g, (Value.slice (some ⟨G, 0, none⟩) p' c).ownBlock = some g ∧ w.heap.size ≤ g := .inr ⟨G, rfl, unhide HGS⟩
          exact ⟨DA2, _, _, c, _, _, by rw [List.append_assoc, List.take_append_drop]; exact unhide HBS, unhide HST5, hk2.trans (unhide HKP5) (RdK.trans hn6), hn5⟩
        case measure =>
          have h1 := dropsLeft_of (unhide HST5).D
          rw [List.length_drop] at h1
          rw [h1, unhide HDL]
          omega
      · have hg2 : ¬ L2 < (z : Int) := by omega
        obtain ⟨g, rfl, _, _⟩ := room_row hst.room (by omega)
        have hst1 := hst.quiet
        rw [← hp'] at hst1 hown
        have hRA := read_any (w := wr.drew) g p' hp' hst1 (by omega) hrest
        have HRA := hide hRA
        have hcut : cutA (some ⟨g, 0, none⟩) cap' p' 1 = some ⟨g, p', none⟩ := cutA_at g cap' p' (by omega)
        have b1 : (0 : Int) ≤ (p' : Int) := by omega
        have b2 : (p' : Int) ≤ (p' : Int) + (z : Int) := by omega
        have b3 : (p' : Int) + (z : Int) ≤ (cap' : Int) := by omega
        have b4 : ((p' : Int) + (z : Int)).toNat = p' + z := by omega
        have b5 : IntKind.i64.wrap ((p' : Int) + (z : Int)) = (p' : Int) + (z : Int) := by rw [IntKind.wrap_i64]; omega
        have b6 : ((p' : Int)).toNat = p' := rfl
        have b7 : p' + z - p' = z := by omega
        have HKP := hide hkp
        have HOWN := hide hown
        have HBS := hide hbs
        have HDL := hide hdl
        have HP' := hide hp'
        clear hst hkp hown hst1 hRA hbs hdl hp' hL2
        go_wp2_with fail
        go_region
        go_wp2_with fail
        go_region_held3 (fun W => W.cell? ⟨s, 0, none⟩ = some (.iface 195 (.pointer (some ⟨d, 0, none⟩))) ∧ W.cell? ⟨s, 1, none⟩ = some (.slice (some ⟨g, 0, none⟩) p' cap') ∧ W.cell? ⟨s, 3, none⟩ = some (.int .i64 z)) (go_keep)
          ((go_at_call 182; refine (unhide HRA).mono ?_; rintro e w5 ⟨j, DA2, hj1, hj2, hj3, rfl, t0, t1, t3, t4, t5, t6, hst5, hkp5⟩; have HST5 := hide hst5; have HKP5 := hide hkp5; have d1 : (0 : Int) ≤ (p' : Int) + (j : Int) := (Int.add_nonneg (Int.natCast_nonneg _) (Int.natCast_nonneg _)); have d2 : (p' : Int) + (j : Int) ≤ (cap' : Int) := (by omega); have d3 : ((p' : Int) + (j : Int)).toNat = p' + j := (by omega); have d4 : IntKind.i64.wrap ((p' : Int) + (j : Int)) = (p' : Int) + (j : Int) := (by rw [IntKind.wrap_i64]; omega); clear hst5 hkp5))
        go_wp2_with fail
        go_roundw
        case rel =>
          have hown' := unhide HOWN
          exact ⟨DA2, _, _, cap', _, _, by rw [List.append_assoc, List.take_append_drop]; exact unhide HBS, unhide HST5, (unhide HKP).trans (unhide HKP5).undrew (RdK.trans (by rw [unhide HP']; exact hown')), hown'⟩
        case measure =>
          have h1 := dropsLeft_of (unhide HST5).D
          rw [List.length_drop] at h1
          rw [h1, unhide HDL]
          omega
    · have hlt2 : ¬ (p' : Int) < (n : Int) := by omega
      have HFIN : Hid (MoreP d s m z ck dep V0 bs n w wr) := ⟨DA', dc', _, cap', 0, pend', rest', hbs, by omega, by simpa using hst, hkp, hown⟩
      clear hst hkp hown hbs
      go_wp2_with fail
      go_end0
      exact ⟨rfl, unhide HFIN⟩
end Go.Proofs.YtpadbpmnejgckaaDoor
