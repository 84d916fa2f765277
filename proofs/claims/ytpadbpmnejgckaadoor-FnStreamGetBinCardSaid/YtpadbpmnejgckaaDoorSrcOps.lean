/-
  PeekByte, Peek, Next, Skip of the Reader's source. Conditions: there are so many bytes to come; at most 200000.
-/
import Derived.Test.YtpadbpmnejgckaaDoorMoreA
namespace Go.Proofs.YtpadbpmnejgckaaDoor
set_option linter.unusedSimpArgs false
set_option linter.unusedVariables false
set_option linter.unusedVariables false
open Go.RowKit
theorem RoomIs.cellAt {w : World} {m : Nat} {A : Option Addr} {n cap at_ : Nat} {pend : List UInt8} (h : RoomIs w m (.slice A n cap) cap at_ pend) (k : Nat) (hk : k < pend.length) : ∃ ad, A = some ad ∧ w.cell? (ad.add (at_ + k)) = some (u8 pend[k]) := by
  rcases h with ⟨_, _, _, rfl⟩ | ⟨g, pre, hV, hm, hl, hr⟩
  · simp at hk
  · obtain ⟨rfl, _, _⟩ := Value.slice.inj hV
    refine ⟨_, rfl, ?_⟩
    have e : (⟨g, 0, none⟩ : Addr).add (at_ + k) = ⟨g, at_ + k, none⟩ := by unfold Addr.add; split <;> simp_all
    rw [e]
    exact hr.at_ (by rw [List.getElem?_map, List.getElem?_append_right (by omega)]; simp [hl, hk])
/-- The source's place in its room has gone on. -/
theorem RdSt.on {w : World} {d s m z : Nat} {ck dep : Int} {DA : Option Addr} {dc : Nat} {A : Option Addr} {cap at_ n : Nat} {pend rest : List UInt8} (h : RdSt w d s m z ck dep DA dc (.slice A (at_ + pend.length) cap) cap at_ pend rest) (hn : n ≤ pend.length) :
    RdSt (w.setCell ⟨s, 2, none⟩ (.int .i64 ((at_ : Int) + (n : Int)))) d s m z ck dep DA dc (.slice A (at_ + pend.length) cap) cap (at_ + n) (pend.drop n) rest ∧ Keeps (RdK d s (.slice A (at_ + pend.length) cap)) w (w.setCell ⟨s, 2, none⟩ (.int .i64 ((at_ : Int) + (n : Int)))) := by
  have hk : Keeps (fun b => b = s ∨ (Value.slice A (at_ + pend.length) cap).ownBlock = some b) w (w.setCell ⟨s, 2, none⟩ (.int .i64 ((at_ : Int) + (n : Int)))) := (Keeps.refl _ w).setCell ⟨s, 2, none⟩ (.inl rfl) _
  have hS := h.S.set_ 2 (.int .i64 ((at_ : Int) + (n : Int)))
  have hroom : RoomIs (w.setCell ⟨s, 2, none⟩ (.int .i64 ((at_ : Int) + (n : Int)))) m (.slice A (at_ + pend.length) cap) cap (at_ + n) (pend.drop n) := by
    have hr2 : RoomIs (w.setCell ⟨s, 2, none⟩ (.int .i64 ((at_ : Int) + (n : Int)))) m (.slice A (at_ + pend.length) cap) cap at_ pend := h.room.far (fun e => absurd (show m < s from (h.room.lt e).1) (by have := h.sm; omega)) _
    rcases hr2 with ⟨hV, hc, ha, hp⟩ | ⟨g, pre, hV, hm, hl, hr⟩
    · subst hp
      have hn0 : n = 0 := by simpa using hn
      subst hn0
      exact .inl ⟨hV, hc, by omega, by simp⟩
    · refine .inr ⟨g, pre ++ pend.take n, ?_, hm, ?_, ?_⟩
      · rw [hV, List.length_drop]
        congr 1
        omega
      · rw [List.length_append, List.length_take, Nat.min_eq_left hn, hl]
      · rw [List.append_assoc, List.take_append_drop]
        exact hr
  exact ⟨h.turned hk (by simpa using hS) hroom h.capm, hk.weak fun x _ hx => hx.elim (fun e => .inr (.inl e)) (fun e => .inr (.inr e))⟩
theorem left_of {w w1 w2 : World} {d s m z : Nat} {ck dep : Int} {V0 V1 : Value} {bs : List UInt8} (hk : Keeps (RdK d s V0) w w1) (ho : V1.ownBlock = V0.ownBlock ∨ ∃ g, V1.ownBlock = some g ∧ w.heap.size ≤ g) (h : RdAny w2 d s m z ck dep V1 bs) (hk2 : Keeps (RdK d s V1) w1 w2) : RdLeft d s m z ck dep V0 bs w w2 :=
  ⟨V1, h, hk.trans hk2 (RdK.trans ho), ho⟩

set_option maxRecDepth 100000 in
set_option maxHeartbeats 1600000 in
theorem peekByte_any (d s m z : Nat) (ck dep : Int) (V : Value) (bs : List UInt8) (b : UInt8) (t : List UInt8) (w : World) (h : RdAny w d s m z ck dep V bs) (hb : bs = b :: t) :
    Calls Tryd.prog 103 #[.pointer (some ⟨s, 0, none⟩)] w fun e w' => e = .returned (.tuple #[.int .u8 (b.toNat : Nat), .nilIface]) ∧ RdLeft d s m z ck dep V bs w w' := by
  have hM := more_any d s m z ck dep V bs 1 w h (by rw [hb]; simp) (by omega)
  have HM := hide hM
  have HB := hide hb
  obtain ⟨x, hx⟩ : ∃ x, x = b.toNat := ⟨_, rfl⟩
  rw [← hx]
  clear h hM hb
  have HX := hide hx
  clear hx
  go_enter Tryd.func103, Tryd.ntmps103
  go_wp2_with (go_at_call 142; go_loud (refine (unhide HM).mono ?_; rintro e w1 ⟨rfl, DA, dc, V1, cap, at_, pend, rest, hbs, hpn, hst, hkp, hown⟩; obtain ⟨A, rfl⟩ := hst.room.form; have hle := hst.room.len_le; have hcm := hst.capm; have hzl := hst.z1; obtain ⟨R, hR⟩ : ∃ R, R = at_ + pend.length := ⟨_, rfl⟩; have c1 : w1.cell? ⟨s, 1, none⟩ = some (.slice A R cap) := (by rw [hR]; exact hst.S.cell 1); have c2 : w1.cell? ⟨s, 2, none⟩ = some (.int .i64 at_) := hst.S.cell 2; have f2 := hst.S.frozen 2; obtain ⟨L, hL⟩ : ∃ L : Int, (R : Int) - (at_ : Int) = L := ⟨_, rfl⟩; have hw : IntKind.i64.wrap L = L := (by rw [IntKind.wrap_i64]; omega); have HST := hide hst; have HKP := hide hkp; have HOWN := hide hown; have HBS := hide hbs; have HPN := hide hpn; have HRR := hide hR; clear hst hkp hown hbs))
  have hpn := unhide HPN
  have hRR := unhide HRR
  have hne : ((R : Int) == (at_ : Int)) = false := by simp; omega
  have b1 : (0 : Int) ≤ (at_ : Int) := Int.natCast_nonneg _
  have b2 : (at_ : Int) < (R : Int) := by omega
  obtain ⟨ad, rfl, hc0⟩ := (unhide HST).room.cellAt 0 (by omega)
  have hb0 : pend[0] = b := by
    have h1 := unhide HBS
    rw [unhide HB] at h1
    rcases pend with _ | ⟨q, ps⟩
    · simp at hpn
    · simp at h1
      simp [h1.1]
  rw [hb0] at hc0
  simp only [Go.Proofs.YtpadbpmnejgckaaDoor.u8, Nat.add_zero] at hc0
  rw [← unhide HX] at hc0
  clear hpn hRR hb0
  go_region
  go_wp2_with fail
  go_region
  go_wp2_with fail
  go_ret2
  exact ⟨rfl, left_of (unhide HKP) (unhide HOWN) ⟨DA, dc, cap, at_, pend, rest, unhide HBS, (unhide HST).quiet.quiet⟩ (Keeps.refl _ _).drew.drew⟩
set_option maxRecDepth 100000 in
set_option maxHeartbeats 1600000 in
theorem peek_any (d s m z : Nat) (ck dep : Int) (V : Value) (bs : List UInt8) (n : Nat) (w : World) (h : RdAny w d s m z ck dep V bs) (hn : n ≤ bs.length) (hn3 : n ≤ 200000) :
    Calls Tryd.prog 99 #[.pointer (some ⟨s, 0, none⟩), .int .i64 n] w fun e w' => ∃ (B : Option Addr) (c : Nat), e = .returned (.tuple #[.slice B n c, .nilIface]) ∧ n ≤ c ∧ c ≤ 1000000 ∧ RB w' (fun b => b < w'.heap.size) B (bs.take n) ∧ RdLeft d s m z ck dep V bs w w' := by
  have hM := more_any d s m z ck dep V bs n w h hn hn3
  have HM := hide hM
  clear h hM hn
  go_enter Tryd.func99, Tryd.ntmps99
  go_wp2_with (go_at_call 142; go_loud (refine (unhide HM).mono ?_; rintro e w1 ⟨rfl, DA, dc, V1, cap, at_, pend, rest, hbs, hpn, hst, hkp, hown⟩; obtain ⟨A, rfl⟩ := hst.room.form; have hle := hst.room.len_le; have hcm := hst.capm; have hzl := hst.z1; obtain ⟨R, hR⟩ : ∃ R, R = at_ + pend.length := ⟨_, rfl⟩; have c1 : w1.cell? ⟨s, 1, none⟩ = some (.slice A R cap) := (by rw [hR]; exact hst.S.cell 1); have c2 : w1.cell? ⟨s, 2, none⟩ = some (.int .i64 at_) := hst.S.cell 2; have f2 := hst.S.frozen 2; obtain ⟨L, hL⟩ : ∃ L : Int, (R : Int) - (at_ : Int) = L := ⟨_, rfl⟩; have hw : IntKind.i64.wrap L = L := (by rw [IntKind.wrap_i64]; omega); have hge : ¬ L < (n : Int) := (by omega); have hgd : decide (L < (n : Int)) = false := (by simp; omega); have b1 : (0 : Int) ≤ (at_ : Int) := Int.natCast_nonneg _; have b2 : (at_ : Int) ≤ (at_ : Int) + (n : Int) := (by omega); have b3 : (at_ : Int) + (n : Int) ≤ (cap : Int) := (by omega); have b4 : ((at_ : Int) + (n : Int)).toNat = at_ + n := (by omega); have b5 : IntKind.i64.wrap ((at_ : Int) + (n : Int)) = (at_ : Int) + (n : Int) := (by rw [IntKind.wrap_i64]; omega); have b6 : ((at_ : Int)).toNat = at_ := rfl; have b7 : at_ + n - at_ = n := (by omega); have HST := hide hst; have HKP := hide hkp; have HOWN := hide hown; have HBS := hide hbs; have HPN := hide hpn; have HRR := hide hR; clear hst hkp hown hbs))
  go_region
  go_wp2_with fail
  go_region
  go_wp2_with fail
  go_ret2
  have hrb : RB w1 (fun b => b < w1.heap.size) (cutA A cap at_ 1) (bs.take n) := by
    obtain ⟨A2, hA2, hr⟩ := (unhide HST).room.reads
    obtain ⟨rfl, _, _⟩ := Value.slice.inj hA2
    have h2 := RB.take hr (k := n) (unhide HPN)
    rw [← unhide HBS, List.take_append_of_le_length (unhide HPN)]
    exact h2.sub fun b hb => ((unhide HST).room.lt hb).2
  exact ⟨_, _, rfl, by omega, by omega, hrb, left_of (unhide HKP) (unhide HOWN) ⟨DA, dc, cap, at_, pend, rest, unhide HBS, (unhide HST).quiet.quiet⟩ (Keeps.refl _ _).drew.drew⟩
set_option maxRecDepth 100000 in
set_option maxHeartbeats 1600000 in
theorem next_any (d s m z : Nat) (ck dep : Int) (V : Value) (bs : List UInt8) (n : Nat) (w : World) (h : RdAny w d s m z ck dep V bs) (hn : n ≤ bs.length) (hn3 : n ≤ 200000) :
    Calls Tryd.prog 106 #[.pointer (some ⟨s, 0, none⟩), .int .i64 n] w fun e w' => ∃ (B : Option Addr) (c : Nat), e = .returned (.tuple #[.slice B n c, .nilIface]) ∧ n ≤ c ∧ c ≤ 1000000 ∧ RB w' (fun b => b < w'.heap.size) B (bs.take n) ∧ RdLeft d s m z ck dep V (bs.drop n) w w' := by
  have hM := more_any d s m z ck dep V bs n w h hn hn3
  have HM := hide hM
  clear h hM hn
  go_enter Tryd.func106, Tryd.ntmps106
  go_wp2_with (go_at_call 142; go_loud (refine (unhide HM).mono ?_; rintro e w1 ⟨rfl, DA, dc, V1, cap, at_, pend, rest, hbs, hpn, hst, hkp, hown⟩; obtain ⟨A, rfl⟩ := hst.room.form; have hle := hst.room.len_le; have hcm := hst.capm; have hzl := hst.z1; obtain ⟨R, hR⟩ : ∃ R, R = at_ + pend.length := ⟨_, rfl⟩; have c1 : w1.cell? ⟨s, 1, none⟩ = some (.slice A R cap) := (by rw [hR]; exact hst.S.cell 1); have c2 : w1.cell? ⟨s, 2, none⟩ = some (.int .i64 at_) := hst.S.cell 2; have f2 := hst.S.frozen 2; obtain ⟨L, hL⟩ : ∃ L : Int, (R : Int) - (at_ : Int) = L := ⟨_, rfl⟩; have hw : IntKind.i64.wrap L = L := (by rw [IntKind.wrap_i64]; omega); have hge : ¬ L < (n : Int) := (by omega); have hgd : decide (L < (n : Int)) = false := (by simp; omega); have b1 : (0 : Int) ≤ (at_ : Int) := Int.natCast_nonneg _; have b2 : (at_ : Int) ≤ (at_ : Int) + (n : Int) := (by omega); have b3 : (at_ : Int) + (n : Int) ≤ (cap : Int) := (by omega); have b4 : ((at_ : Int) + (n : Int)).toNat = at_ + n := (by omega); have b5 : IntKind.i64.wrap ((at_ : Int) + (n : Int)) = (at_ : Int) + (n : Int) := (by rw [IntKind.wrap_i64]; omega); have b6 : ((at_ : Int)).toNat = at_ := rfl; have b7 : at_ + n - at_ = n := (by omega); have HST := hide hst; have HKP := hide hkp; have HOWN := hide hown; have HBS := hide hbs; have HPN := hide hpn; have HRR := hide hR; clear hst hkp hown hbs))
  go_region
  go_wp2_with fail
  go_region
  go_wp2_with fail
  go_ret2
  have hon := RdSt.on (unhide HST).quiet.quiet (unhide HPN)
  refine ⟨_, _, rfl, by omega, by omega, ?_, left_of (unhide HKP) (unhide HOWN) ⟨DA, dc, cap, at_ + n, pend.drop n, rest, ?_, hon.1⟩ hon.2.undrew.undrew⟩
  · have h3 : RB (w1.drew.drew.setCell ⟨s, 2, none⟩ (.int .i64 ((at_ : Int) + (n : Int)))) (fun b => b < w1.heap.size) (cutA A cap at_ 1) (bs.take n) := by
      obtain ⟨A2, hA2, hr⟩ := hon.1.room.reads
      have hr2 : RoomIs (w1.drew.drew.setCell ⟨s, 2, none⟩ (.int .i64 ((at_ : Int) + (n : Int)))) m (.slice A (at_ + pend.length) cap) cap at_ pend := (unhide HST).room.far (fun e => absurd (show m < s from ((unhide HST).room.lt e).1) (by have := (unhide HST).sm; omega)) _
      obtain ⟨A3, hA3, hr3⟩ := hr2.reads
      obtain ⟨rfl, _, _⟩ := Value.slice.inj hA3
      have h2 := RB.take hr3 (k := n) (unhide HPN)
      rw [← unhide HBS, List.take_append_of_le_length (unhide HPN)]
      exact h2.sub fun b hb => ((unhide HST).room.lt hb).2
    exact h3.sub fun b hb => by simpa using hb
  · rw [← unhide HBS, List.drop_append_of_le_length (unhide HPN)]
set_option maxRecDepth 100000 in
set_option maxHeartbeats 1600000 in
theorem skip_any (d s m z : Nat) (ck dep : Int) (V : Value) (bs : List UInt8) (n : Nat) (w : World) (h : RdAny w d s m z ck dep V bs) (hn : n ≤ bs.length) (hn3 : n ≤ 200000) :
    Calls Tryd.prog 102 #[.pointer (some ⟨s, 0, none⟩), .int .i64 n] w fun e w' => e = .returned (.tuple #[.int .i64 n, .nilIface]) ∧ RdLeft d s m z ck dep V (bs.drop n) w w' := by
  have hM := more_any d s m z ck dep V bs n w h hn hn3
  have HM := hide hM
  clear h hM hn
  go_enter Tryd.func102, Tryd.ntmps102
  go_wp2_with (go_at_call 142; go_loud (refine (unhide HM).mono ?_; rintro e w1 ⟨rfl, DA, dc, V1, cap, at_, pend, rest, hbs, hpn, hst, hkp, hown⟩; obtain ⟨A, rfl⟩ := hst.room.form; have hle := hst.room.len_le; have hcm := hst.capm; have hzl := hst.z1; obtain ⟨R, hR⟩ : ∃ R, R = at_ + pend.length := ⟨_, rfl⟩; have c1 : w1.cell? ⟨s, 1, none⟩ = some (.slice A R cap) := (by rw [hR]; exact hst.S.cell 1); have c2 : w1.cell? ⟨s, 2, none⟩ = some (.int .i64 at_) := hst.S.cell 2; have f2 := hst.S.frozen 2; obtain ⟨L, hL⟩ : ∃ L : Int, (R : Int) - (at_ : Int) = L := ⟨_, rfl⟩; have hw : IntKind.i64.wrap L = L := (by rw [IntKind.wrap_i64]; omega); have hge : ¬ L < (n : Int) := (by omega); have hgd : decide (L < (n : Int)) = false := (by simp; omega); have b1 : (0 : Int) ≤ (at_ : Int) := Int.natCast_nonneg _; have b2 : (at_ : Int) ≤ (at_ : Int) + (n : Int) := (by omega); have b3 : (at_ : Int) + (n : Int) ≤ (cap : Int) := (by omega); have b4 : ((at_ : Int) + (n : Int)).toNat = at_ + n := (by omega); have b5 : IntKind.i64.wrap ((at_ : Int) + (n : Int)) = (at_ : Int) + (n : Int) := (by rw [IntKind.wrap_i64]; omega); have b6 : ((at_ : Int)).toNat = at_ := rfl; have b7 : at_ + n - at_ = n := (by omega); have HST := hide hst; have HKP := hide hkp; have HOWN := hide hown; have HBS := hide hbs; have HPN := hide hpn; have HRR := hide hR; clear hst hkp hown hbs))
  go_region
  go_wp2_with fail
  go_ret2
  have hon := RdSt.on (unhide HST).quiet (unhide HPN)
  refine ⟨rfl, left_of (unhide HKP) (unhide HOWN) ⟨DA, dc, cap, at_ + n, pend.drop n, rest, ?_, hon.1⟩ hon.2.undrew⟩
  rw [← unhide HBS, List.drop_append_of_le_length (unhide HPN)]
end Go.Proofs.YtpadbpmnejgckaaDoor
