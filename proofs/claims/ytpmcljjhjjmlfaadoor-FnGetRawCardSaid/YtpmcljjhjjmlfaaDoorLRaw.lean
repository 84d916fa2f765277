/-
  The law FnGetRaw: its walk. Conditions: msgp.ErrShortBytes is not nil.
-/
import Derived.Test.YtpmcljjhjjmlfaaDoorLead
import Derived.Test.YtpmcljjhjjmlfaaDoorGetRaw
import Derived.Test.YtpmcljjhjjmlfaaDoorSkipLaw
import Derived.Test.YtpmcljjhjjmlfaaDoorOpenG
namespace Go.Proofs.YtpmcljjhjjmlfaaDoor
set_option linter.unusedSimpArgs false
set_option linter.unusedVariables false
set_option linter.unusedVariables false
open Go.RowKit
theorem text_conv {w : World} {S : Nat → Prop} {A : Option Addr} {t : List UInt8} (h : RB w S A t) (n c : Nat) (hn : n = t.length) : (convert 26 9 (.slice A n c)).run Tryd.prog w = .ok (.string ⟨t.toArray⟩) w := by
  subst hn
  exact run_string_of_bytes (P := Tryd.prog) 26 9 5 Tryd.underlying26 Tryd.underlying5 Tryd.underlying9 h c
set_option maxRecDepth 100000 in
set_option maxHeartbeats 1600000 in
theorem FnGetRaw_far (k : Int) (num : Nat) (t : List UInt8) (e : Int) (K : Option Addr) (m kc fm : Nat) (sh : Bool) (B : Option Addr) (bl bc : Nat) (cut : Int) (w : World) (hbl : bl ≤ 9223372036854775807) (hf : 2147483647 < bl) :
    Calls Tryd.prog 7 #[.agg #[.int .i64 k, .int .u64 (num : Nat), .string ⟨t.toArray⟩, .int .i64 e, .slice K m kc, .int .u64 fm, .bool sh, .slice B bl bc, .int .i64 cut]] w (TrueR w) := by
  go_enter Tryd.func7, Tryd.ntmps7
  go_wp2_with fail
  refine (zz16 k num ⟨t.toArray⟩ e K m kc fm sh B bl bc cut _ (by omega)).mono ?_
  rintro e1 w1 ⟨rfl, hb1⟩
  have hw1 : Below w.heap.size w w1 := Below.trans (by repeat (first | with_reducible exact Below.refl _ _ | with_reducible exact x | with_reducible refine Below.alloc ?_ (by first | omega | (simp; omega) | (simp; done)) _ | with_reducible refine Below.setCell ?_ (by first | omega | (simp; omega) | (simp; done)) _ | with_reducible refine Below.drew ?_ | with_reducible refine below_drewN ?_ _)) (hb1.mono (by simp))
  have hB1 : Blk w1 w.heap.size 28 #[.int .i64 k, .int .u64 (num : Nat), .string ⟨t.toArray⟩, .int .i64 e, .slice K m kc, .int .u64 fm, .bool sh, .slice B bl bc, .int .i64 cut] := (Blk.new w _ _).below hb1 (by simp)
  rw [decide_eq_false (by omega)]
  have HW1 := hide hw1
  clear hw1 hb1 hB1
  go_wp2
  go_ret
  exact ⟨rfl, unhide HW1⟩
theorem raw_five : skip1 100000 [5] = some (some []) := (skip_lo 99999 5 (by omega)).1 []
theorem raw_nil {n : Nat} {t : List UInt8} {e : Int} {ks : List Pack} {h : List UInt8} (hw : WrP (.mk 0 n t e ks) h) : rawOf h = [] := by
  unfold WrP at hw
  rcases hw with ⟨_, rfl⟩ | ⟨h, _⟩ | ⟨h, _⟩ | ⟨h, _⟩ | ⟨h, _⟩ | ⟨h, _⟩ | ⟨h, _⟩ | ⟨h, _⟩ | ⟨h, _⟩ | ⟨h, _⟩ | ⟨h, _⟩
  · rfl
  all_goals omega
theorem raw_same {h : List UInt8} {k : Int} (hh : ∃ b r, h = b :: r ∧ kindB b.toNat = kindI k) (hk : k ≠ 0) : rawOf h = h := by
  obtain ⟨b, r, rfl, hb⟩ := hh
  unfold rawOf
  rw [if_neg]
  intro h
  have hx : b.toNat = 192 := by simpa [isNilB] using h
  rw [hx] at hb
  have : kindI k = 0 := by rw [← hb]; rfl
  unfold kindI at this
  split at this <;> omega
set_option maxRecDepth 100000 in
set_option maxHeartbeats 6400000 in
theorem FnGetRaw_near (k : Int) (num : Nat) (t : List UInt8) (e : Int) (p : Pack) (ps : List Pack) (K : Option Addr) (m kc fm : Nat) (sh : Bool) (B : Option Addr) (bl bc : Nat) (zs : List UInt8) (cut : Int) (w : World) (hE : ErrAt w)
    (hp0 : p = .mk k num t e ps) (hG : GivenIn w #[.int .i64 k, .int .u64 (num : Nat), .string ⟨t.toArray⟩, .int .i64 e, .slice K m kc, .int .u64 fm, .bool sh, .slice B bl bc, .int .i64 cut] p k num ⟨t.toArray⟩ e K m kc fm sh B bl bc zs cut) (hf : bl ≤ 2147483647) :
    Calls Tryd.prog 7 #[.agg #[.int .i64 k, .int .u64 (num : Nat), .string ⟨t.toArray⟩, .int .i64 e, .slice K m kc, .int .u64 fm, .bool sh, .slice B bl bc, .int .i64 cut]] w (TrueR w) := by
  have HG := hide hG
  have HE := hide hE
  have HP0 := hide hp0
  have hcap := hG.cap
  have hcap2 := hG.cap2
  clear hG hE hp0
  go_enter Tryd.func7, Tryd.ntmps7
  go_wp2_with fail
  refine (zz16 k num ⟨t.toArray⟩ e K m kc fm sh B bl bc cut _ (by omega)).mono ?_
  rintro e1 w1 ⟨rfl, hb1⟩
  have hw1 : Below w.heap.size w w1 := Below.trans (by repeat (first | with_reducible exact Below.refl _ _ | with_reducible exact x | with_reducible refine Below.alloc ?_ (by first | omega | (simp; omega) | (simp; done)) _ | with_reducible refine Below.setCell ?_ (by first | omega | (simp; omega) | (simp; done)) _ | with_reducible refine Below.drew ?_ | with_reducible refine below_drewN ?_ _)) (hb1.mono (by simp))
  have hB1 : Blk w1 w.heap.size 28 #[.int .i64 k, .int .u64 (num : Nat), .string ⟨t.toArray⟩, .int .i64 e, .slice K m kc, .int .u64 fm, .bool sh, .slice B bl bc, .int .i64 cut] := (Blk.new w _ _).below hb1 (by simp)
  rw [decide_eq_true hf]
  obtain ⟨⟨x0, x1, x2, x3, x4⟩, x5, x6, x7, x8⟩ := nine_cells hB1
  have hz1 := hB1.lt
  have HW1 := hide hw1
  have HB1 := hide hB1
  have hG0 := getRaw_some (Lt (w1.heap.size + 1)) (some ⟨w1.heap.size, 0, none⟩) [5] [] 1 1 1 (w1.alloc (.cells #[.int .u8 5] 5)) ((unhide HE).below ((unhide HW1).alloc hw1.size _) (unhide HE).pos) rfl (one_rb w1 5) (Nat.le_refl _) (by omega) (old_one w1 _) (by omega) raw_five rfl (by omega)
  rw [show rawOf (([5] : List UInt8).take 1) = [5] from rfl] at hG0
  have HG0 := hide hG0
  clear hG0 hw1 hb1 hB1
  go_wp2_with fail
  refine (unhide HG0).mono ?_
  rintro e2 w2 ⟨hb2, A2, c2, A2', n2', c2', rfl, _, _, hr2, _, _, _, _⟩
  have hcw : (convert 26 9 (.slice A2 1 c2)).run Tryd.prog w2 = .ok (.string ⟨#[5]⟩) w2 := text_conv hr2 1 c2 rfl
  have hw2 : Below w.heap.size w w2 := ((unhide HW1).alloc (unhide HW1).size _).trans (hb2.mono (by have := (unhide HW1).size; simp; omega))
  have hB2 : Blk w2 w.heap.size 28 #[.int .i64 k, .int .u64 (num : Nat), .string ⟨t.toArray⟩, .int .i64 e, .slice K m kc, .int .u64 fm, .bool sh, .slice B bl bc, .int .i64 cut] := ((unhide HB1).alloc _).below hb2 (by have := (unhide HB1).lt; simp; omega)
  obtain ⟨⟨y0, y1, y2, y3, y4⟩, y5, y6, y7, y8⟩ := nine_cells hB2
  have hz2 := hB2.lt
  have HW2 := hide hw2
  have HB2 := hide hB2
  have hD := data_any p k num ⟨t.toArray⟩ e K m kc fm sh B bl bc zs cut (Lt w.heap.size) w2 (fun b hb => Nat.lt_of_lt_of_le hb hw2.size) (PackC.keep (Stays.of_below hw2) _ _ (unhide HG).pack) (unhide HG).wf (unhide HG).forms (unhide HG).len hcap hcap2 ((unhide HG).behind.below hw2)
  have HD := hide hD
  clear hD hw2 hb2 hB2 HG0 x0 x1 x2 x3 x4 x5 x6 x7 x8
  go_wp2_with fail
  refine (unhide HD).mono ?_
  intro e3 w3 hd
  cases hd with
  | no _ hb3 =>
    have hw3 := (unhide HW2).trans (hb3.mono (unhide HW2).size)
    have HW3 := hide hw3
    clear hb3 hw3
    go_wp2
    go_ret
    exact ⟨rfl, unhide HW3⟩
  | cut _ hb3 hc0 hfit hcn h hwr q hq hl A3 c3 hqc hcm hr3 =>
    have hw3 := (unhide HW2).trans (hb3.mono (unhide HW2).size)
    have hB3 := (unhide HB2).below hb3 hz2
    have hno : skip1 100000 (h.take q) = some none := (skipP p h 100000 hwr hfit (unhide HG).wf (by omega)).2 q hq
    have hG3 := getRaw_none (fun b => w2.heap.size ≤ b ∧ b < w3.heap.size) A3 (h.take q) q c3 w3 ((unhide HE).below hw3 (unhide HE).pos) (by rw [List.length_take]; omega) hr3 hqc (by unfold maxLen at hcm; omega) (fun b hb => hb.2) (by omega) hno
    have HG3 := hide hG3
    have HW3 := hide hw3
    have HB3 := hide hB3
    have hz3 := hB3.lt
    clear hG3 hb3 hw3 hB3 hno hwr hfit hr3 hq hl hqc hcm
    go_wp2_with fail
    refine (unhide HG3).mono ?_
    rintro e4 w4 ⟨hb4, rfl⟩
    have hw4 := (unhide HW3).trans (hb4.mono (unhide HW3).size)
    have HW4 := hide hw4
    obtain ⟨⟨z0, z1, z2, z3, z4⟩, z5, z6, z7, z8⟩ := nine_cells ((unhide HB3).below hb4 hz3)
    have hz4 : w.heap.size < w4.heap.size := Nat.lt_of_lt_of_le hz3 hb4.size
    clear hb4 hw4
    go_wp2
    go_ret
    exact ⟨rfl, by have h := unhide HW4; exact (by repeat (first | with_reducible exact Below.refl _ _ | with_reducible exact h | with_reducible refine Below.alloc ?_ (by first | omega | (simp; omega) | (simp; done)) _ | with_reducible refine Below.setCell ?_ (by first | omega | (simp; omega) | (simp; done)) _ | with_reducible refine Below.drew ?_ | with_reducible refine below_drewN ?_ _))⟩
  | whole _ hb3 hc0 hfit hcn hbl h hwr hl hl0 A3 n3 c3 hn3 hnc hcm hr3 =>
    have hw3 := (unhide HW2).trans (hb3.mono (unhide HW2).size)
    have hB3 := (unhide HB2).below hb3 hz2
    have hyes : skip1 100000 (h ++ zs) = some (some zs) := (skipP p h 100000 hwr hfit (unhide HG).wf (by omega)).1 zs
    have hlz : zs.length = bl := (unhide HG).len.symm
    have hG3 := getRaw_some (fun b => w2.heap.size ≤ b ∧ b < w3.heap.size) A3 (h ++ zs) zs n3 c3 h.length w3 ((unhide HE).below hw3 (unhide HE).pos) hn3 hr3 hnc (by unfold maxLen at hcm; omega) (fun b hb => hb.2) (by rw [hn3, List.length_append]; omega) hyes (by rw [hn3, List.length_append]) hl0
    rw [List.take_left] at hG3
    have HR3 := hide (show RB w3 (fun b => w2.heap.size ≤ b ∧ b < w3.heap.size) A3 h by have := hr3.take (k := h.length) (by simp); rwa [List.take_left] at this)
    have HW3 := hide hw3
    have HB3 := hide hB3
    have hz3 := hB3.lt
    obtain ⟨q, hq⟩ : ∃ q, q = h.length := ⟨_, rfl⟩
    have hsub : (n3 : Int) - bl = (q : Nat) := by rw [hn3, List.length_append]; omega
    have hn39 : n3 ≤ 1099511627776 := by rw [hn3, List.length_append]; omega
    have hcm9 : c3 ≤ 9223372036854775807 := by unfold maxLen at hcm; omega
    have hq1 : (0 : Int) ≤ q := by omega
    have hq2 : (q : Int) ≤ c3 := by omega
    have HQ := hide hq
    obtain ⟨raw, hraw⟩ : ∃ s, s = rawOf h := ⟨_, rfl⟩
    rw [← hraw] at hG3
    have HRAW := hide hraw
    have HWR := hide hwr
    have HFIT := hide hfit
    by_cases hk : k = 0
    · subst hk
      have hr0 : raw = [] := by rw [hraw]; rw [unhide HP0] at hwr; exact raw_nil hwr
      have HG3 := hide hG3
      have HR0 := hide hr0
      clear hG3 hb3 hw3 hB3 hwr hfit hr3 hl hl0 hnc hn3 hyes hlz hq hraw hr0
      go_wp2_with fail
      refine (unhide HG3).mono ?_
      rintro e4 w4 ⟨hb4, A5, c5, A4, n4, c4, rfl, hc5, hm5, hr5, hn4, hc4, hcm4, hr4⟩
      have hw4 := (unhide HW3).trans (hb4.mono (unhide HW3).size)
      obtain ⟨⟨z0, z1, z2, z3, z4⟩, z5, z6, z7, z8⟩ := nine_cells ((unhide HB3).below hb4 hz3)
      have hz4 : w.heap.size < w4.heap.size := Nat.lt_of_lt_of_le hz3 hb4.size
      have HLS := hide (left_same (Made w3 w4) (Lt w.heap.size) A4 B zs n4 bl c4 bc w4 hn4 (unhide HG).len hr4 ((unhide HG).behind.below hw4))
      have hcv : (convert 26 9 (.slice A5 0 c5)).run Tryd.prog w4 = .ok (.string ⟨#[]⟩) w4 := text_conv (t := []) (by rw [← unhide HR0]; exact hr5) 0 c5 rfl
      have hcv2 := text_conv ((unhide HR3).keep (stays_below (Stays.refl _ _) hb4 (fun b hb => hb.2))) q c3 (unhide HQ)
      rw [show raw.length = 0 by rw [unhide HR0]; rfl]
      have HW4 := hide hw4
      clear hb4 hw4 hr4 hn4 hr5
      go_wp2_with (go_at_call 13; go_loud (refine (unhide HLS).mono ?_; rintro e5 w5 ⟨rfl, rfl⟩))
      go_ret
      exact ⟨rfl, unhide HW4⟩
    · have hk2 : (k == 0) = false := by simpa using hk
      have hr0 : raw = h := by rw [hraw]; exact raw_same (by rw [unhide HP0] at hwr hfit; exact WrP_lead hwr hfit (by rw [← unhide HP0]; exact (unhide HG).wf)) hk
      have HG3 := hide hG3
      have HR0 := hide hr0
      clear hG3 hb3 hw3 hB3 hwr hfit hr3 hl hl0 hnc hn3 hyes hlz hq hraw hr0 hk
      go_wp2_with fail
      refine (unhide HG3).mono ?_
      rintro e4 w4 ⟨hb4, A5, c5, A4, n4, c4, rfl, hc5, hm5, hr5, hn4, hc4, hcm4, hr4⟩
      have hw4 := (unhide HW3).trans (hb4.mono (unhide HW3).size)
      obtain ⟨⟨z0, z1, z2, z3, z4⟩, z5, z6, z7, z8⟩ := nine_cells ((unhide HB3).below hb4 hz3)
      have hz4 : w.heap.size < w4.heap.size := Nat.lt_of_lt_of_le hz3 hb4.size
      have HLS := hide (left_same (Made w3 w4) (Lt w.heap.size) A4 B zs n4 bl c4 bc w4 hn4 (unhide HG).len hr4 ((unhide HG).behind.below hw4))
      have hcv := text_conv hr5 raw.length c5 rfl
      rw [show raw.length = q by rw [unhide HR0]; exact (unhide HQ).symm] at hcv ⊢
      rw [unhide HR0] at hcv
      have hcv2 := text_conv ((unhide HR3).keep (stays_below (Stays.refl _ _) hb4 (fun b hb => hb.2))) q c3 (unhide HQ)
      have HW4 := hide hw4
      clear hb4 hw4 hr4 hn4 hr5
      go_wp2_with (go_at_call 13; go_loud (refine (unhide HLS).mono ?_; rintro e5 w5 ⟨rfl, rfl⟩))
      go_ret
      exact ⟨rfl, unhide HW4⟩
theorem FnGetRaw_walk (cs : Array Value) (p : Pack) (k n : Int) (T : ByteArray) (e : Int) (K : Option Addr) (m kc fm : Nat) (sh : Bool) (B : Option Addr) (bl bc : Nat) (zs : List UInt8) (cut : Int) (w : World) (hE : ErrAt w) (hG : GivenIn w cs p k n T e K m kc fm sh B bl bc zs cut) :
    Calls Tryd.prog 7 #[.agg cs] w fun e w' => e = .returned (.bool true) ∧ Below w.heap.size w w' := by
  obtain ⟨num, t, ps, rfl, rfl, rfl, rfl⟩ := given_pack hG.pack
  have hc := hG.cells
  subst hc
  by_cases hf : 2147483647 < bl
  · exact FnGetRaw_far k num t e K ps.length kc fm sh B bl bc cut w (Nat.le_trans hG.cap hG.cap2) hf
  · exact FnGetRaw_near k num t e _ ps K ps.length kc fm sh B bl bc zs cut w hE rfl hG (by omega)
end Go.Proofs.YtpmcljjhjjmlfaaDoor
