/-
  The law FnGetBool: its walk. Conditions: msgp.ErrShortBytes is not nil.
-/
import Derived.Test.YtpmcljjhjjmlfaaDoorLead
import Derived.Test.YtpmcljjhjjmlfaaDoorBool
import Derived.Test.YtpmcljjhjjmlfaaDoorOpenG
namespace Go.Proofs.YtpmcljjhjjmlfaaDoor
set_option linter.unusedSimpArgs false
set_option linter.unusedVariables false
set_option linter.unusedVariables false
open Go.RowKit
theorem boolR_cons (b : UInt8) (r : List UInt8) : boolR (b :: r) = if b.toNat = 195 then some (.bool true, r) else if b.toNat = 194 then some (.bool false, r) else none := rfl
theorem bool_no {h zs : List UInt8} {k : Int} (hh : ∃ b r, h = b :: r ∧ kindB b.toNat = kindI k) (hk : k ≠ 1) : boolR (h ++ zs) = none ∧ ∀ q, boolR (h.take q) = none := by
  obtain ⟨b, r, rfl, hb⟩ := hh
  have h1 : b.toNat ≠ 195 := by
    intro h
    rw [h] at hb
    have : kindB 195 = 1 := by decide
    unfold kindI at hb
    split at hb <;> omega
  have h2 : b.toNat ≠ 194 := by
    intro h
    rw [h] at hb
    have : kindB 194 = 1 := by decide
    unfold kindI at hb
    split at hb <;> omega
  refine ⟨by rw [List.cons_append, boolR_cons, if_neg h1, if_neg h2], fun q => ?_⟩
  rcases q with _ | q
  · rfl
  · rw [List.take_succ_cons, boolR_cons, if_neg h1, if_neg h2]
theorem bool_yes {n : Nat} {t : List UInt8} {e : Int} {ks : List Pack} {h zs : List UInt8} (hw : WrP (.mk 1 n t e ks) h) (hf : FitsP (.mk 1 n t e ks)) : (n = 0 ∨ n = 1) ∧ boolR (h ++ zs) = some (.bool (n == 1), zs) ∧ ∀ q, q < h.length → boolR (h.take q) = none := by
  unfold FitsP FitHd at hf
  have hn : n = 0 ∨ n = 1 := by have := hf.1.2.2.2.2.2.2.2.2.1 rfl; omega
  unfold WrP at hw
  simp at hw
  subst hw
  refine ⟨hn, ?_, fun q hq => ?_⟩
  · rcases hn with rfl | rfl <;> rfl
  · have : q = 0 := by simpa using hq
    subst this
    rfl
theorem FnGetBool_step (k : Int) (num : Nat) (t : List UInt8) (e : Int) (p : Pack) (ps : List Pack) (K : Option Addr) (m kc fm : Nat) (sh : Bool) (B : Option Addr) (bl bc : Nat) (zs : List UInt8) (cut : Int) (w : World) : True := trivial
set_option maxRecDepth 100000 in
set_option maxHeartbeats 1600000 in
theorem FnGetBool_far (k : Int) (num : Nat) (t : List UInt8) (e : Int) (K : Option Addr) (m kc fm : Nat) (sh : Bool) (B : Option Addr) (bl bc : Nat) (cut : Int) (w : World) (hbl : bl ≤ 9223372036854775807) (hf : 2147483647 < bl) :
    Calls Tryd.prog 3 #[.agg #[.int .i64 k, .int .u64 (num : Nat), .string ⟨t.toArray⟩, .int .i64 e, .slice K m kc, .int .u64 fm, .bool sh, .slice B bl bc, .int .i64 cut]] w (TrueR w) := by
  go_enter Tryd.func3, Tryd.ntmps3
  go_wp2_with fail
  refine (zz16 k num ⟨t.toArray⟩ e K m kc fm sh B bl bc cut _ (by omega)).mono ?_
  rintro e1 w1 ⟨rfl, hb1⟩
  have hw1 : Below w.heap.size w w1 := Below.trans (by repeat (first | with_reducible exact Below.refl _ _ | with_reducible exact x | with_reducible refine Below.alloc ?_ (by first | omega | (simp; omega) | (simp; done)) _ | with_reducible refine Below.setCell ?_ (by first | omega | (simp; omega) | (simp; done)) _ | with_reducible refine Below.drew ?_ | with_reducible refine below_drewN ?_ _)) (hb1.mono (by simp))
  have hB1 : Blk w1 w.heap.size 28 #[.int .i64 k, .int .u64 (num : Nat), .string ⟨t.toArray⟩, .int .i64 e, .slice K m kc, .int .u64 fm, .bool sh, .slice B bl bc, .int .i64 cut] := (Blk.new w _ _).below hb1 (by simp)
  rw [decide_eq_false (by omega)]
  have HW1 := hide hw1
  clear hw1 hb1 hB1
  go_wp2
  go_ret
  exact ⟨rfl, unhide HW1⟩
set_option maxRecDepth 100000 in
set_option maxHeartbeats 6400000 in
theorem FnGetBool_near (k : Int) (num : Nat) (t : List UInt8) (e : Int) (p : Pack) (ps : List Pack) (K : Option Addr) (m kc fm : Nat) (sh : Bool) (B : Option Addr) (bl bc : Nat) (zs : List UInt8) (cut : Int) (w : World) (hE : ErrAt w)
    (hp0 : p = .mk k num t e ps) (hG : GivenIn w #[.int .i64 k, .int .u64 (num : Nat), .string ⟨t.toArray⟩, .int .i64 e, .slice K m kc, .int .u64 fm, .bool sh, .slice B bl bc, .int .i64 cut] p k num ⟨t.toArray⟩ e K m kc fm sh B bl bc zs cut) (hf : bl ≤ 2147483647) :
    Calls Tryd.prog 3 #[.agg #[.int .i64 k, .int .u64 (num : Nat), .string ⟨t.toArray⟩, .int .i64 e, .slice K m kc, .int .u64 fm, .bool sh, .slice B bl bc, .int .i64 cut]] w (TrueR w) := by
  have HG := hide hG
  have HE := hide hE
  have HP0 := hide hp0
  have hcap := hG.cap
  have hcap2 := hG.cap2
  clear hG hE hp0
  go_enter Tryd.func3, Tryd.ntmps3
  go_wp2_with fail
  refine (zz16 k num ⟨t.toArray⟩ e K m kc fm sh B bl bc cut _ (by omega)).mono ?_
  rintro e1 w1 ⟨rfl, hb1⟩
  have hw1 : Below w.heap.size w w1 := Below.trans (by repeat (first | with_reducible exact Below.refl _ _ | with_reducible exact x | with_reducible refine Below.alloc ?_ (by first | omega | (simp; omega) | (simp; done)) _ | with_reducible refine Below.setCell ?_ (by first | omega | (simp; omega) | (simp; done)) _ | with_reducible refine Below.drew ?_ | with_reducible refine below_drewN ?_ _)) (hb1.mono (by simp))
  have hB1 : Blk w1 w.heap.size 28 #[.int .i64 k, .int .u64 (num : Nat), .string ⟨t.toArray⟩, .int .i64 e, .slice K m kc, .int .u64 fm, .bool sh, .slice B bl bc, .int .i64 cut] := (Blk.new w _ _).below hb1 (by simp)
  rw [decide_eq_true hf]
  obtain ⟨⟨x0, x1, x2, x3, x4⟩, x5, x6, x7, x8⟩ := nine_cells hB1
  have hz1 := hB1.lt
  have HW1 := hide hw1
  have HB1 := hide hB1
  have hG0 := getBool_any (Lt (w1.heap.size + 1)) (some ⟨w1.heap.size, 0, none⟩) [195] 1 1 (w1.alloc (.cells #[.int .u8 195] 5)) ((unhide HE).below ((unhide HW1).alloc hw1.size _) (unhide HE).pos) rfl (one_rb w1 195) (Nat.le_refl _) (by omega) (old_one w1 _) (by omega)
  rw [show boolR [195] = some (.bool true, []) from rfl] at hG0
  have HG0 := hide hG0
  clear hG0 hw1 hb1 hB1
  go_wp2_with fail
  refine (unhide HG0).mono ?_
  rintro e2 w2 ⟨hb2, A2, n2, c2, rfl, _, _, _, _⟩
  have hw2 : Below w.heap.size w w2 := ((unhide HW1).alloc (unhide HW1).size _).trans (hb2.mono (by have := (unhide HW1).size; simp; omega))
  have hB2 : Blk w2 w.heap.size 28 #[.int .i64 k, .int .u64 (num : Nat), .string ⟨t.toArray⟩, .int .i64 e, .slice K m kc, .int .u64 fm, .bool sh, .slice B bl bc, .int .i64 cut] := ((unhide HB1).alloc _).below hb2 (by have := (unhide HB1).lt; simp; omega)
  obtain ⟨⟨y0, y1, y2, y3, y4⟩, y5, y6, y7, y8⟩ := nine_cells hB2
  have hz2 := hB2.lt
  have HW2 := hide hw2
  have HB2 := hide hB2
  have hD := data_any p k num ⟨t.toArray⟩ e K m kc fm sh B bl bc zs cut (Lt w.heap.size) w2 (fun b hb => Nat.lt_of_lt_of_le hb hw2.size) (PackC.keep (Stays.of_below hw2) _ _ (unhide HG).pack) (unhide HG).wf (unhide HG).forms (unhide HG).len hcap hcap2 ((unhide HG).behind.below hw2)
  have HD := hide hD
  clear hD hw2 hb2 hB2 HG0 x0 x1 x2 x3 x4 x5 x6 x7 x8
  go_wp2_with fail
  refine (unhide HD).mono ?_
  intro e3 w3 hd
  cases hd with
  | no _ hb3 =>
    have hw3 := (unhide HW2).trans (hb3.mono (unhide HW2).size)
    have HW3 := hide hw3
    clear hb3 hw3
    go_wp2
    go_ret
    exact ⟨rfl, unhide HW3⟩
  | cut _ hb3 hc0 hfit hcn h hwr q hq hl A3 c3 hqc hcm hr3 =>
    have hw3 := (unhide HW2).trans (hb3.mono (unhide HW2).size)
    have hB3 := (unhide HB2).below hb3 hz2
    have hno : boolR (h.take q) = none := by
      rw [unhide HP0] at hwr hfit
      by_cases hk : k = 1
      · subst hk
        exact (bool_yes (zs := []) hwr hfit).2.2 q hq
      · exact (bool_no (zs := []) (WrP_lead hwr hfit (by rw [← unhide HP0]; exact (unhide HG).wf)) hk).2 q
    have hG3 := getBool_any (fun b => w2.heap.size ≤ b ∧ b < w3.heap.size) A3 (h.take q) q c3 w3 ((unhide HE).below hw3 (unhide HE).pos) (by rw [List.length_take]; omega) hr3 hqc (by unfold maxLen at hcm; omega) (fun b hb => hb.2) (by omega)
    rw [hno] at hG3
    have HG3 := hide hG3
    have HW3 := hide hw3
    have HB3 := hide hB3
    have hz3 := hB3.lt
    clear hG3 hb3 hw3 hB3 hno hwr hfit hr3 hq hl hqc hcm
    go_wp2_with fail
    refine (unhide HG3).mono ?_
    rintro e4 w4 ⟨hb4, rfl⟩
    have hw4 := (unhide HW3).trans (hb4.mono (unhide HW3).size)
    have HW4 := hide hw4
    obtain ⟨⟨z0, z1, z2, z3, z4⟩, z5, z6, z7, z8⟩ := nine_cells ((unhide HB3).below hb4 hz3)
    have hz4 : w.heap.size < w4.heap.size := Nat.lt_of_lt_of_le hz3 hb4.size
    clear hb4 hw4
    go_wp2
    go_ret
    exact ⟨rfl, by have h := unhide HW4; exact (by repeat (first | with_reducible exact Below.refl _ _ | with_reducible exact h | with_reducible refine Below.alloc ?_ (by first | omega | (simp; omega) | (simp; done)) _ | with_reducible refine Below.setCell ?_ (by first | omega | (simp; omega) | (simp; done)) _ | with_reducible refine Below.drew ?_ | with_reducible refine below_drewN ?_ _))⟩
  | whole _ hb3 hc0 hfit hcn hbl h hwr hl hl0 A3 n3 c3 hn3 hnc hcm hr3 =>
    have hw3 := (unhide HW2).trans (hb3.mono (unhide HW2).size)
    have hB3 := (unhide HB2).below hb3 hz2
    have hG3 := getBool_any (fun b => w2.heap.size ≤ b ∧ b < w3.heap.size) A3 (h ++ zs) n3 c3 w3 ((unhide HE).below hw3 (unhide HE).pos) hn3 hr3 hnc (by unfold maxLen at hcm; omega) (fun b hb => hb.2) (by have := (unhide HG).len; rw [hn3, List.length_append]; omega)
    rw [unhide HP0] at hwr hfit
    have HW3 := hide hw3
    have HB3 := hide hB3
    have hz3 := hB3.lt
    by_cases hk : k = 1
    · subst hk
      have hy := bool_yes (zs := zs) hwr hfit
      rw [hy.2.1] at hG3
      have hn01 := hy.1
      have HG3 := hide hG3
      have HN := hide hn01
      clear hG3 hb3 hw3 hB3 hwr hfit hr3 hl hl0 hnc hcm hy hn01 hn3
      go_wp2_with fail
      refine (unhide HG3).mono ?_
      rintro e4 w4 ⟨hb4, A4, n4, c4, rfl, hn4, hc4, hcm4, hr4⟩
      have hw4 := (unhide HW3).trans (hb4.mono (unhide HW3).size)
      obtain ⟨⟨z0, z1, z2, z3, z4⟩, z5, z6, z7, z8⟩ := nine_cells ((unhide HB3).below hb4 hz3)
      have hz4 : w.heap.size < w4.heap.size := Nat.lt_of_lt_of_le hz3 hb4.size
      have HLS := hide (fun (o : Obj) => left_same (Made w3 w4) (Lt w.heap.size) A4 B zs n4 bl c4 bc (w4.alloc o) hn4 (unhide HG).len (hr4.keep (stays_alloc (fun b hb => hb.2) (Stays.refl _ _) o)) ((unhide HG).behind.below (hw4.alloc hw4.size o)))
      have HW4 := hide hw4
      clear hb4 hw4 hr4 hn4
      rcases unhide HN with rfl | rfl
      all_goals (
        go_wp2_with (go_at_call 13; go_loud (refine (unhide HLS _).mono ?_; rintro e5 w5 ⟨rfl, rfl⟩))
        go_ret
        exact ⟨rfl, (unhide HW4).alloc (unhide HW4).size _⟩)
    · have hk2 : (k == 1) = false := by simpa using hk
      rw [(bool_no (zs := zs) (WrP_lead hwr hfit (by rw [← unhide HP0]; exact (unhide HG).wf)) hk).1] at hG3
      have HG3 := hide hG3
      clear hG3 hb3 hw3 hB3 hwr hfit hr3 hl hl0 hnc hcm hn3 hk
      go_wp2_with fail
      refine (unhide HG3).mono ?_
      rintro e4 w4 ⟨hb4, rfl⟩
      have hw4 := (unhide HW3).trans (hb4.mono (unhide HW3).size)
      have HW4 := hide hw4
      obtain ⟨⟨z0, z1, z2, z3, z4⟩, z5, z6, z7, z8⟩ := nine_cells ((unhide HB3).below hb4 hz3)
      have hz4 : w.heap.size < w4.heap.size := Nat.lt_of_lt_of_le hz3 hb4.size
      clear hb4 hw4
      go_wp2
      go_ret
      exact ⟨rfl, (unhide HW4).alloc (unhide HW4).size _⟩
theorem FnGetBool_walk (cs : Array Value) (p : Pack) (k n : Int) (T : ByteArray) (e : Int) (K : Option Addr) (m kc fm : Nat) (sh : Bool) (B : Option Addr) (bl bc : Nat) (zs : List UInt8) (cut : Int) (w : World) (hE : ErrAt w) (hG : GivenIn w cs p k n T e K m kc fm sh B bl bc zs cut) :
    Calls Tryd.prog 3 #[.agg cs] w fun e w' => e = .returned (.bool true) ∧ Below w.heap.size w w' := by
  obtain ⟨num, t, ps, rfl, rfl, rfl, rfl⟩ := given_pack hG.pack
  have hc := hG.cells
  subst hc
  by_cases hf : 2147483647 < bl
  · exact FnGetBool_far k num t e K ps.length kc fm sh B bl bc cut w (Nat.le_trans hG.cap hG.cap2) hf
  · exact FnGetBool_near k num t e _ ps K ps.length kc fm sh B bl bc zs cut w hE rfl hG (by omega)
end Go.Proofs.YtpmcljjhjjmlfaaDoor
