/-
  impl.left, impl.GetExact. Conditions: msgp.ErrShortBytes is not nil; what is read is not cut off.
-/
import Derived.Test.YtpmcljjhjjmlfaaDoorExact
import Derived.Test.YtpmcljjhjjmlfaaDoorText
import Derived.Laws.MakeOwn
namespace Go.Proofs.YtpmcljjhjjmlfaaDoor
set_option linter.unusedSimpArgs false
set_option linter.unusedVariables false
set_option linter.unusedVariables false
open Go.RowKit
theorem implLeft_err (A : Option Addr) (n c : Nat) (t : TypeId) (u : Value) (w : World) :
    Calls Tryd.prog 31 #[.slice A n c, .iface t u] w fun e w' => e = .returned (.tuple #[.slice none 0 0, .bool false]) ∧ w = w' := by
  go_enter Tryd.func31, Tryd.ntmps31
  go_wp2
  go_ret2
  exact ⟨rfl, rfl⟩
theorem implLeft_ok (S : Nat → Prop) (A : Option Addr) (bs : List UInt8) (n c : Nat) (w : World) (hn : n = bs.length) (hr : RB w S A bs) (hS : Old w S) (hlen : bs.length ≤ 70368744177664) :
    Calls Tryd.prog 31 #[.slice A n c, .nilIface] w fun e w' => ∃ A2 c2, e = .returned (.tuple #[.slice A2 bs.length c2, .bool true]) ∧ bs.length ≤ c2 ∧ c2 ≤ maxLen ∧ RB w' (Made w w') A2 bs ∧ Below w.heap.size w w' := by
  have hCP := copied_any S A bs n c w hn hr hS hlen
  have HCP := hide hCP
  clear hCP hn hr
  go_enter Tryd.func31, Tryd.ntmps31
  go_wp2_with fail
  refine (unhide HCP).mono ?_
  rintro e w2 ⟨v2, rfl, hown, hb2⟩
  obtain ⟨A2, c2, rfl, hc2, hcm2, hr2⟩ := own_slice hown
  have HR2 := hide hr2
  clear hown hr2
  go_wp2
  go_ret2
  exact ⟨A2, c2, rfl, hc2, hcm2, unhide HR2, hb2⟩
theorem make5 (c : Nat) (hc : c ≤ 281474976710656) : ∃ Z : List Value, Z.length = c ∧ ∀ W : World, (Instr.makeSlice 26 (.int .i64 (c : Int)) (.int .i64 (c : Int))).run Tryd.prog W = .ok (.slice (some ⟨W.heap.size, 0, none⟩) c c) (W.alloc (.cells Z.toArray 5)) := by
  obtain ⟨i0, hi0, hz0, hz1, hz2⟩ := info_parts infoB
  refine ⟨(madeCells (Value.cells (.int .u8 0)) (c * 1)).toList, by simp [size_madeCells], fun W => ?_⟩
  have := run_make (P := Tryd.prog) W 26 5 i0 _ Tryd.underlying26 hi0 hz0 .i64 .i64 c c (by omega) (by omega) (by rw [hz2]; omega) (by omega)
  rw [hz1] at this
  simpa using this
set_option maxHeartbeats 1600000 in
theorem getExact_any (S : Nat → Prop) (A : Option Addr) (bs : List UInt8) (n c : Nat) (m : Nat) (w : World) (hE : ErrAt w) (hn : n = bs.length) (hr : RB w S A bs) (hc : n ≤ c) (hcm : c ≤ 9223372036854775807) (hS : Old w S) (hlen : n ≤ 1099511627776) (hm : m ≤ 1048576)
    (q : Option (List UInt8 × List UInt8)) (hq : exactR m bs = q) (hfull : ∀ s x, q = some (s, x) → s.length = m ∧ x.length ≤ n) :
    Calls Tryd.prog 17 #[.slice A n c, .int .i64 (m : Nat)] w (GotT q w) := by
  obtain ⟨Z, hZ, hmk⟩ := make5 m (by omega)
  have hX := readExact_any S w.heap.size w.heap.size 5 m A bs n c (w.alloc (.cells Z.toArray 5)) (hE.on ((Below.refl _ _).alloc (Nat.le_refl _) _)) hn (hr.keep (stays_alloc hS (Stays.refl _ _) _)) hc hcm (old_alloc hS _) Z (heap_alloc_new w _) hZ hm (Nat.le_refl _) (by simp) hS (fun s x h => (hfull s x (hq ▸ h)).1)
  rw [hq] at hX
  have hm2 : (m : Int) ≤ 1048576 := by omega
  clear hn hr hq hZ
  rcases q with _ | ⟨s, r⟩
  · have HX := hide hX
    clear hX hfull
    go_enter Tryd.func17, Tryd.ntmps17
    go_wp2_with (first
      | (go_at_call 32; go_loud (refine (unhide HX).mono ?_; rintro e w1 ⟨hb1, A1, n1, c1, te, ve, rfl⟩))
      | (go_at_call 31; go_loud (refine (implLeft_err _ _ _ _ _ _).mono ?_; rintro e2 w2 ⟨rfl, rfl⟩)))
    go_ret3
    exact ⟨((Below.refl _ _).alloc (Nat.le_refl _) _).trans hb1, rfl⟩
  · have HX := hide hX
    obtain ⟨hsm, hrn⟩ := hfull s r rfl
    have HSM := hide hsm
    clear hX hfull hsm
    go_enter Tryd.func17, Tryd.ntmps17
    go_wp2_with (first
      | (go_at_call 32; go_loud (refine (unhide HX).mono ?_; rintro e w1 ⟨hb1, A1, n1, c1, rfl, hn1, hc1, hm1, hr1, hg1⟩; have hbw : Below w.heap.size w w1 := ((Below.refl _ _).alloc (Nat.le_refl _) _).trans hb1; have hbs : w.heap.size < w1.heap.size := Nat.lt_of_lt_of_le (by simp) hb1.size; have HL := hide (implLeft_ok S A1 r n1 c1 w1 hn1 hr1 (fun b hb => Nat.lt_of_lt_of_le (hS b hb) hbw.size) (by omega)); have HBW := hide hbw; clear hb1 hn1 hr1 hbw))
      | (go_at_call 31; go_loud (refine (unhide HL).mono ?_; rintro e2 w2 ⟨A2, c2, rfl, hc2, hm3, hr2, hb2⟩; have HR2 := hide hr2; clear hr2)))
    go_ret3
    have hbw := unhide HBW
    have hsm := unhide HSM
    refine ⟨hbw.trans (hb2.mono hbw.size), some ⟨w.heap.size, 0, none⟩, m, A2, r.length, c2, by subst hsm; rfl, by omega, by unfold maxLen; omega, ?_, rfl, hc2, hm3, (unhide HR2).sub (fun b hb => ⟨Nat.le_trans hbw.size hb.1, hb.2⟩)⟩
    have hB : Blk w2 w.heap.size 5 (s.map u8).toArray := Blk.below (show Blk w1 w.heap.size 5 (s.map u8).toArray from unhide hg1) hb2 hbs
    have := reads_blk (S := Made w w2) hB ⟨Nat.le_refl _, hB.lt⟩ 1 s.length (by simp)
    exact this
end Go.Proofs.YtpmcljjhjjmlfaaDoor
