/-
  The law FnGetUint32: its walk. Conditions: msgp.ErrShortBytes is not nil.
-/
import Derived.Test.YtpmcljjhjjmlfaaDoorIntPlain
import Derived.Test.YtpmcljjhjjmlfaaDoorFitsU
import Derived.Test.YtpmcljjhjjmlfaaDoorOpenG
namespace Go.Proofs.YtpmcljjhjjmlfaaDoor
set_option linter.unusedSimpArgs false
set_option linter.unusedVariables false
set_option linter.unusedVariables false
open Go.RowKit
theorem uint32_at {k : Int} {num : Nat} {t : List UInt8} {e : Int} {ks : List Pack} {h : List UInt8} (hw : WrP (.mk k num t e ks) h) (hf : FitsP (.mk k num t e ks)) (hwf : WfP (.mk k num t e ks)) (zs : List UInt8) :
    uint32V (h ++ zs) = (if fitU k num = true then some (.int .u32 (num : Nat), zs) else none) ∧ ∀ q, q < h.length → uint32V (h.take q) = none := by
  have hnum : num < 18446744073709551616 := by unfold WfP at hwf; exact hwf.1
  have key : (uint64R (h ++ zs) = (if (k = 2 ∨ k = 3) ∧ ¬ (k = 2 ∧ 9223372036854775808 ≤ num) then some ((num : Int), zs) else none)) ∧ ∀ q, q < h.length → uint64R (h.take q) = none := by
    by_cases hk : k = 2 ∨ k = 3
    · have hp : ∀ (_ : posF num h) (_ : k = 2 → num < 9223372036854775808), (uint64R (h ++ zs) = (if (k = 2 ∨ k = 3) ∧ ¬ (k = 2 ∧ 9223372036854775808 ≤ num) then some ((num : Int), zs) else none)) ∧ ∀ q, q < h.length → uint64R (h.take q) = none := by
        intro hp h2
        rw [if_pos ⟨hk, fun hx => absurd (h2 hx.1) (by omega)⟩]
        exact uint64R_pos hp hnum zs
      unfold WrP at hw
      rcases hw with ⟨rfl, _⟩ | ⟨rfl, _⟩ | ⟨rfl, h1, hn⟩ | ⟨hkk, hn⟩ | ⟨rfl, _⟩ | ⟨rfl, _⟩ | ⟨rfl, _⟩ | ⟨rfl, _⟩ | ⟨rfl, _⟩ | ⟨rfl, _⟩ | ⟨rfl, _⟩
      · omega
      · omega
      · rw [if_neg (fun hx => hx.2 ⟨rfl, h1⟩)]
        exact uint64R_neg hn h1 hnum zs
      · exact hp hn (fun h => by omega)
      all_goals omega
    · rw [if_neg (fun hx => hk hx.1)]
      have h3 := uint64R_no (zs := zs) (WrP_lead hw hf hwf) (by unfold kindI; split <;> omega)
      exact ⟨h3.1, fun q _ => h3.2 q⟩
  refine ⟨?_, fun q hq => by unfold uint32V; rw [key.2 q hq]⟩
  unfold uint32V
  rw [key.1]
  by_cases hc : (k = 2 ∨ k = 3) ∧ ¬ (k = 2 ∧ 9223372036854775808 ≤ num)
  · rw [if_pos hc]
    dsimp only
    by_cases hr : num ≤ 4294967295
    · rw [if_neg (by omega), if_pos]
      unfold fitU isI
      simp only [Bool.and_eq_true, decide_eq_true_eq, Bool.not_eq_true', Bool.and_eq_false_iff, beq_eq_false_iff_ne, decide_eq_false_iff_not]
      omega
    · rw [if_pos (by omega), if_neg]
      unfold fitU
      simp only [Bool.and_eq_true, decide_eq_true_eq]
      omega
  · rw [if_neg hc, if_neg]
    unfold fitU isI
    simp only [Bool.and_eq_true, decide_eq_true_eq, Bool.not_eq_true', Bool.and_eq_false_iff, beq_eq_false_iff_ne, decide_eq_false_iff_not]
    omega
theorem fitU_in {k : Int} {num : Nat} (h : fitU k num = true) : (num : Int) ≤ 4294967295 := by
  unfold fitU at h
  simp only [Bool.and_eq_true, decide_eq_true_eq] at h
  omega
theorem u64_of {n : Nat} (h : (n : Int) ≤ 4294967295) : IntKind.u64.wrap (n : Int) = (n : Int) := by
  simp [IntKind.wrap, IntKind.bits, IntKind.signed]
  omega
theorem getUint32_of (r : Option (Value × List UInt8)) (S : Nat → Prop) (A : Option Addr) (bs : List UInt8) (n c : Nat) (w : World) (hE : ErrAt w) (hn : n = bs.length) (hr : RB w S A bs) (hc : n ≤ c) (hcm : c ≤ 9223372036854775807) (hS : Old w S) (hlen : n ≤ 1099511627776) (h : uint32V bs = r) :
    Calls Tryd.prog 21 #[.slice A n c] w (GotV (.int .u32 0) r w) := by
  subst h
  exact getUint32_any S A bs n c w hE hn hr hc hcm hS hlen
set_option maxRecDepth 100000 in
set_option maxHeartbeats 1600000 in
theorem FnGetUint32_far (k : Int) (num : Nat) (t : List UInt8) (e : Int) (K : Option Addr) (m kc fm : Nat) (sh : Bool) (B : Option Addr) (bl bc : Nat) (cut : Int) (w : World) (hbl : bl ≤ 9223372036854775807) (hf : 2147483647 < bl) :
    Calls Tryd.prog 9 #[.agg #[.int .i64 k, .int .u64 (num : Nat), .string ⟨t.toArray⟩, .int .i64 e, .slice K m kc, .int .u64 fm, .bool sh, .slice B bl bc, .int .i64 cut]] w (TrueR w) := by
  go_enter Tryd.func9, Tryd.ntmps9
  go_wp2_with fail
  refine (zz16 k num ⟨t.toArray⟩ e K m kc fm sh B bl bc cut _ (by omega)).mono ?_
  rintro e1 w1 ⟨rfl, hb1⟩
  have hw1 : Below w.heap.size w w1 := Below.trans (by repeat (first | with_reducible exact Below.refl _ _ | with_reducible exact x | with_reducible refine Below.alloc ?_ (by first | omega | (simp; omega) | (simp; done)) _ | with_reducible refine Below.setCell ?_ (by first | omega | (simp; omega) | (simp; done)) _ | with_reducible refine Below.drew ?_ | with_reducible refine below_drewN ?_ _)) (hb1.mono (by simp))
  have hB1 : Blk w1 w.heap.size 28 #[.int .i64 k, .int .u64 (num : Nat), .string ⟨t.toArray⟩, .int .i64 e, .slice K m kc, .int .u64 fm, .bool sh, .slice B bl bc, .int .i64 cut] := (Blk.new w _ _).below hb1 (by simp)
  rw [decide_eq_false (by omega)]
  have HW1 := hide hw1
  clear hw1 hb1 hB1
  go_wp2
  go_ret
  exact ⟨rfl, unhide HW1⟩
set_option maxRecDepth 100000 in
set_option maxHeartbeats 6400000 in
theorem FnGetUint32_near (k : Int) (num : Nat) (t : List UInt8) (e : Int) (p : Pack) (ps : List Pack) (K : Option Addr) (m kc fm : Nat) (sh : Bool) (B : Option Addr) (bl bc : Nat) (zs : List UInt8) (cut : Int) (w : World) (hE : ErrAt w)
    (hp0 : p = .mk k num t e ps) (hG : GivenIn w #[.int .i64 k, .int .u64 (num : Nat), .string ⟨t.toArray⟩, .int .i64 e, .slice K m kc, .int .u64 fm, .bool sh, .slice B bl bc, .int .i64 cut] p k num ⟨t.toArray⟩ e K m kc fm sh B bl bc zs cut) (hf : bl ≤ 2147483647) :
    Calls Tryd.prog 9 #[.agg #[.int .i64 k, .int .u64 (num : Nat), .string ⟨t.toArray⟩, .int .i64 e, .slice K m kc, .int .u64 fm, .bool sh, .slice B bl bc, .int .i64 cut]] w (TrueR w) := by
  have HG := hide hG
  have HE := hide hE
  have HP0 := hide hp0
  have hcap := hG.cap
  have hcap2 := hG.cap2
  clear hG hE hp0
  go_enter Tryd.func9, Tryd.ntmps9
  go_wp2_with fail
  refine (zz16 k num ⟨t.toArray⟩ e K m kc fm sh B bl bc cut _ (by omega)).mono ?_
  rintro e1 w1 ⟨rfl, hb1⟩
  have hw1 : Below w.heap.size w w1 := Below.trans (by repeat (first | with_reducible exact Below.refl _ _ | with_reducible exact x | with_reducible refine Below.alloc ?_ (by first | omega | (simp; omega) | (simp; done)) _ | with_reducible refine Below.setCell ?_ (by first | omega | (simp; omega) | (simp; done)) _ | with_reducible refine Below.drew ?_ | with_reducible refine below_drewN ?_ _)) (hb1.mono (by simp))
  have hB1 : Blk w1 w.heap.size 28 #[.int .i64 k, .int .u64 (num : Nat), .string ⟨t.toArray⟩, .int .i64 e, .slice K m kc, .int .u64 fm, .bool sh, .slice B bl bc, .int .i64 cut] := (Blk.new w _ _).below hb1 (by simp)
  rw [decide_eq_true hf]
  obtain ⟨⟨x0, x1, x2, x3, x4⟩, x5, x6, x7, x8⟩ := nine_cells hB1
  have hz1 := hB1.lt
  have HW1 := hide hw1
  have HB1 := hide hB1
  have hG0 := getUint32_any (Lt (w1.heap.size + 1)) (some ⟨w1.heap.size, 0, none⟩) [5] 1 1 (w1.alloc (.cells #[.int .u8 5] 5)) ((unhide HE).below ((unhide HW1).alloc hw1.size _) (unhide HE).pos) rfl (one_rb w1 5) (Nat.le_refl _) (by omega) (old_one w1 _) (by omega)
  rw [show uint32V [5] = some (.int .u32 5, []) from rfl] at hG0
  have HG0 := hide hG0
  clear hG0 hw1 hb1 hB1
  go_wp2_with fail
  refine (unhide HG0).mono ?_
  rintro e2 w2 ⟨hb2, A2, n2, c2, rfl, _, _, _, _⟩
  have hw2 : Below w.heap.size w w2 := ((unhide HW1).alloc (unhide HW1).size _).trans (hb2.mono (by have := (unhide HW1).size; simp; omega))
  have hB2 : Blk w2 w.heap.size 28 #[.int .i64 k, .int .u64 (num : Nat), .string ⟨t.toArray⟩, .int .i64 e, .slice K m kc, .int .u64 fm, .bool sh, .slice B bl bc, .int .i64 cut] := ((unhide HB1).alloc _).below hb2 (by have := (unhide HB1).lt; simp; omega)
  obtain ⟨⟨y0, y1, y2, y3, y4⟩, y5, y6, y7, y8⟩ := nine_cells hB2
  have hz2 := hB2.lt
  have HW2 := hide hw2
  have HB2 := hide hB2
  have hD := data_any p k num ⟨t.toArray⟩ e K m kc fm sh B bl bc zs cut (Lt w.heap.size) w2 (fun b hb => Nat.lt_of_lt_of_le hb hw2.size) (PackC.keep (Stays.of_below hw2) _ _ (unhide HG).pack) (unhide HG).wf (unhide HG).forms (unhide HG).len hcap hcap2 ((unhide HG).behind.below hw2)
  have HD := hide hD
  clear hD hw2 hb2 hB2 HG0 x0 x1 x2 x3 x4 x5 x6 x7 x8
  go_wp2_with fail
  refine (unhide HD).mono ?_
  intro e3 w3 hd
  cases hd with
  | no _ hb3 => as_aux_lemma =>
    have hw3 := (unhide HW2).trans (hb3.mono (unhide HW2).size)
    have HW3 := hide hw3
    clear hb3 hw3
    go_wp2
    go_ret
    exact ⟨rfl, unhide HW3⟩
  | cut _ hb3 hc0 hfit hcn h hwr q hq hl A3 c3 hqc hcm hr3 => as_aux_lemma =>
    have hw3 := (unhide HW2).trans (hb3.mono (unhide HW2).size)
    have hB3 := (unhide HB2).below hb3 hz2
    have hno : uint32V (h.take q) = none := by
      rw [unhide HP0] at hwr hfit
      exact (uint32_at hwr hfit (by rw [← unhide HP0]; exact (unhide HG).wf) []).2 q hq
    have hG3 := getUint32_of none (fun b => w2.heap.size ≤ b ∧ b < w3.heap.size) A3 (h.take q) q c3 w3 ((unhide HE).below hw3 (unhide HE).pos) (by rw [List.length_take]; omega) hr3 hqc (by unfold maxLen at hcm; omega) (fun b hb => hb.2) (by omega) hno
    have HG3 := hide hG3
    have HW3 := hide hw3
    have HB3 := hide hB3
    have hz3 := hB3.lt
    clear hG3 hb3 hw3 hB3 hno hwr hfit hr3 hq hl hqc hcm
    go_wp2_with fail
    refine (unhide HG3).mono ?_
    rintro e4 w4 ⟨hb4, rfl⟩
    have hw4 := (unhide HW3).trans (hb4.mono (unhide HW3).size)
    have HW4 := hide hw4
    obtain ⟨⟨z0, z1, z2, z3, z4⟩, z5, z6, z7, z8⟩ := nine_cells ((unhide HB3).below hb4 hz3)
    have hz4 : w.heap.size < w4.heap.size := Nat.lt_of_lt_of_le hz3 hb4.size
    clear hb4 hw4
    go_wp2
    go_ret
    exact ⟨rfl, by have h := unhide HW4; exact (by repeat (first | with_reducible exact Below.refl _ _ | with_reducible exact h | with_reducible refine Below.alloc ?_ (by first | omega | (simp; omega) | (simp; done)) _ | with_reducible refine Below.setCell ?_ (by first | omega | (simp; omega) | (simp; done)) _ | with_reducible refine Below.drew ?_ | with_reducible refine below_drewN ?_ _))⟩
  | whole _ hb3 hc0 hfit hcn hbl h hwr hl hl0 A3 n3 c3 hn3 hnc hcm hr3 => as_aux_lemma =>
    have hw3 := (unhide HW2).trans (hb3.mono (unhide HW2).size)
    have hB3 := (unhide HB2).below hb3 hz2
    have hG9 := fun r => getUint32_of r (fun b => w2.heap.size ≤ b ∧ b < w3.heap.size) A3 (h ++ zs) n3 c3 w3 ((unhide HE).below hw3 (unhide HE).pos) hn3 hr3 hnc (by unfold maxLen at hcm; omega) (fun b hb => hb.2) (by have := (unhide HG).len; rw [hn3, List.length_append]; omega)
    rw [unhide HP0] at hwr hfit
    have HW3 := hide hw3
    have HB3 := hide hB3
    have hz3 := hB3.lt
    have hat := (uint32_at hwr hfit (by rw [← unhide HP0]; exact (unhide HG).wf) zs).1
    have hn64 : num < 18446744073709551616 := by
      have h := (unhide HG).wf
      rw [unhide HP0] at h
      unfold WfP at h
      exact h.1
    rcases hfi : fitU k num with _ | _
    · have hG3 := hG9 none (by rw [hat, hfi, if_neg (by simp)])
      clear hG9 hat
      have HG3 := hide hG3
      have HFI := hide hfi
      have hFF := fun (W : World) => fitsUint_any k num ⟨t.toArray⟩ e K m kc W hn64
      rw [hfi] at hFF
      have HFF := hide hFF
      clear hG3 hb3 hw3 hB3 hwr hfit hr3 hl hl0 hnc hcm hn3 hfi hFF
      go_wp2_with fail
      refine (unhide HG3).mono ?_
      rintro e4 w4 ⟨hb4, rfl⟩
      have hw4 := (unhide HW3).trans (hb4.mono (unhide HW3).size)
      have HW4 := hide hw4
      obtain ⟨⟨z0, z1, z2, z3, z4⟩, z5, z6, z7, z8⟩ := nine_cells ((unhide HB3).below hb4 hz3)
      have hz4 : w.heap.size < w4.heap.size := Nat.lt_of_lt_of_le hz3 hb4.size
      clear hb4 hw4
      go_wp2_with (go_at_call 22; go_loud (refine (unhide HFF _).mono ?_; rintro e5 w5 ⟨rfl, hb5⟩; have hw5 : Below w.heap.size w w5 := ((unhide HW4).alloc (unhide HW4).size _).trans (hb5.mono (by have := (unhide HW4).size; simp; omega)); have HW5 := hide hw5; clear hb5 hw5))
      go_ret
      exact ⟨rfl, unhide HW5⟩
    · have hG3 := hG9 (some (.int .u32 (num : Nat), zs)) (by rw [hat, hfi, if_pos rfl])
      clear hG9 hat
      have hvv := fitU_in hfi
      have hwv := u64_of hvv
      have HG3 := hide hG3
      have hFF := fun (W : World) => fitsUint_any k num ⟨t.toArray⟩ e K m kc W hn64
      rw [hfi] at hFF
      have HFF := hide hFF
      clear hG3 hb3 hw3 hB3 hwr hfit hr3 hl hl0 hnc hcm hn3 hfi hFF
      go_wp2_with fail
      refine (unhide HG3).mono ?_
      rintro e4 w4 ⟨hb4, A4, n4, c4, rfl, hn4, hc4, hcm4, hr4⟩
      have hw4 := (unhide HW3).trans (hb4.mono (unhide HW3).size)
      obtain ⟨⟨z0, z1, z2, z3, z4⟩, z5, z6, z7, z8⟩ := nine_cells ((unhide HB3).below hb4 hz3)
      have hz4 : w.heap.size < w4.heap.size := Nat.lt_of_lt_of_le hz3 hb4.size
      have HLS := hide (fun (W : World) (hW : Below w4.heap.size w4 W) => left_same (Made w3 w4) (Lt w.heap.size) A4 B zs n4 bl c4 bc W hn4 (unhide HG).len (hr4.keep (Stays.sub (Stays.of_below hW) (fun b hb => hb.2))) ((unhide HG).behind.below (hw4.trans (hW.mono hw4.size))))
      have HW4 := hide hw4
      clear hb4 hw4 hr4 hn4
      go_wp2_with (first
        | (go_at_call 22; go_loud (refine (unhide HFF _).mono ?_; rintro e5 w5 ⟨rfl, hb5⟩; have hbw5 : Below w4.heap.size w4 w5 := ((Below.refl _ _).alloc (Nat.le_refl _) _).trans (hb5.mono (by simp)); obtain ⟨⟨q0, q1, q2, q3, q4⟩, _⟩ := five_cells ((Blk.new w4 25 #[.int .i64 k, .int .u64 (num : Nat), .string ⟨t.toArray⟩, .int .i64 e, .slice K m kc]).below hb5 (by simp)); have hz5 : w4.heap.size < w5.heap.size := Nat.lt_of_lt_of_le (by simp) hb5.size; have HBW5 := hide hbw5; clear hb5 hbw5))
        | (go_at_call 13; go_loud (refine (unhide HLS _ (unhide HBW5)).mono ?_; rintro e6 w6 ⟨rfl, rfl⟩)))
      go_ret
      exact ⟨rfl, (unhide HW4).trans ((unhide HBW5).mono (unhide HW4).size)⟩
theorem FnGetUint32_walk (cs : Array Value) (p : Pack) (k n : Int) (T : ByteArray) (e : Int) (K : Option Addr) (m kc fm : Nat) (sh : Bool) (B : Option Addr) (bl bc : Nat) (zs : List UInt8) (cut : Int) (w : World) (hE : ErrAt w) (hG : GivenIn w cs p k n T e K m kc fm sh B bl bc zs cut) :
    Calls Tryd.prog 9 #[.agg cs] w fun e w' => e = .returned (.bool true) ∧ Below w.heap.size w w' := by
  obtain ⟨num, t, ps, rfl, rfl, rfl, rfl⟩ := given_pack hG.pack
  have hc := hG.cells
  subst hc
  by_cases hf : 2147483647 < bl
  · exact FnGetUint32_far k num t e K ps.length kc fm sh B bl bc cut w (Nat.le_trans hG.cap hG.cap2) hf
  · exact FnGetUint32_near k num t e _ ps K ps.length kc fm sh B bl bc zs cut w hE rfl hG (by omega)
end Go.Proofs.YtpmcljjhjjmlfaaDoor
