/-
  The law FnGetTextZC: its walk. Conditions: msgp.ErrShortBytes is not nil.
-/
import Derived.Test.YtpmcljjhjjmlfaaDoorLead
import Derived.Test.YtpmcljjhjjmlfaaDoorText
import Derived.Test.YtpmcljjhjjmlfaaDoorOpenG
namespace Go.Proofs.YtpmcljjhjjmlfaaDoor
set_option linter.unusedSimpArgs false
set_option linter.unusedVariables false
set_option linter.unusedVariables false
open Go.RowKit
theorem bigU_t1 (u : Nat) : bigU (beL u 1) = u % 256 := by simp [bigU, beL]
theorem bigU_t2 (u : Nat) : bigU (beL u 2) = u % 65536 := by simp [bigU, beL]; omega
theorem bigU_t4 (u : Nat) : bigU (beL u 4) = u % 4294967296 := by simp [bigU, beL]; omega
theorem cutT_full (t zs : List UInt8) : cutT t.length (t ++ zs) = some (t, zs) := by
  unfold cutT
  rw [if_neg (by rw [List.length_append]; omega), List.take_left, List.drop_left]
theorem cutT_short {n q : Nat} {t : List UInt8} (h : q < n) : cutT n (t.take q) = none := by
  unfold cutT
  rw [if_pos (by rw [List.length_take]; omega)]
theorem textR_cons (b : UInt8) (r : List UInt8) : textR (b :: r) = if 160 ≤ b.toNat ∧ b.toNat < 192 then cutT (b.toNat % 32) r else
    if b.toNat = 217 then (if r.length < 1 then none else cutT (bigU (r.take 1)) (r.drop 1)) else
    if b.toNat = 218 then (if r.length < 2 then none else cutT (bigU (r.take 2)) (r.drop 2)) else
    if b.toNat = 219 then (if r.length < 4 then none else cutT (bigU (r.take 4)) (r.drop 4)) else none := rfl
theorem textR_fix (n : Nat) (hn : n < 32) (x : List UInt8) : textR (UInt8.ofNat (160 + n) :: x) = cutT n x := by
  rw [textR_cons, small_nat 160 n (by omega), if_pos ⟨by omega, by omega⟩, show (160 + n) % 32 = n by omega]
theorem textR_217 (n : Nat) (hn : n < 256) (x : List UInt8) : textR (UInt8.ofNat 217 :: (beL n 1 ++ x)) = cutT n x := by
  have hl : (beL n 1).length = 1 := rfl
  rw [textR_cons, show (UInt8.ofNat 217).toNat = 217 from rfl, if_neg (by decide), if_pos rfl, if_neg (by rw [List.length_append, hl]; omega), List.take_left' hl, List.drop_left' hl, bigU_t1, Nat.mod_eq_of_lt hn]
theorem textR_217s (x : List UInt8) (hx : x.length < 1) : textR (UInt8.ofNat 217 :: x) = none := by
  rw [textR_cons, show (UInt8.ofNat 217).toNat = 217 from rfl, if_neg (by decide), if_pos rfl, if_pos hx]
theorem textR_217q (t : List UInt8) (hn : t.length < 256) (q : Nat) (hq : q < (UInt8.ofNat 217 :: beL t.length 1 ++ t).length) : textR ((UInt8.ofNat 217 :: beL t.length 1 ++ t).take q) = none := by
  have hl : (beL t.length 1).length = 1 := rfl
  rcases q with _ | q
  · rfl
  rw [List.cons_append, List.take_succ_cons]
  simp only [List.cons_append, List.length_cons, List.length_append, hl] at hq
  by_cases h : q < 1
  · exact textR_217s _ (by rw [List.length_take]; omega)
  · rw [List.take_append, hl, List.take_of_length_le (by rw [hl]; omega), textR_217 _ hn]
    exact cutT_short (by omega)
theorem textR_218 (n : Nat) (hn : n < 65536) (x : List UInt8) : textR (UInt8.ofNat 218 :: (beL n 2 ++ x)) = cutT n x := by
  have hl : (beL n 2).length = 2 := rfl
  rw [textR_cons, show (UInt8.ofNat 218).toNat = 218 from rfl, if_neg (by decide), if_neg (by decide), if_pos rfl, if_neg (by rw [List.length_append, hl]; omega), List.take_left' hl, List.drop_left' hl, bigU_t2, Nat.mod_eq_of_lt hn]
theorem textR_218s (x : List UInt8) (hx : x.length < 2) : textR (UInt8.ofNat 218 :: x) = none := by
  rw [textR_cons, show (UInt8.ofNat 218).toNat = 218 from rfl, if_neg (by decide), if_neg (by decide), if_pos rfl, if_pos hx]
theorem textR_218q (t : List UInt8) (hn : t.length < 65536) (q : Nat) (hq : q < (UInt8.ofNat 218 :: beL t.length 2 ++ t).length) : textR ((UInt8.ofNat 218 :: beL t.length 2 ++ t).take q) = none := by
  have hl : (beL t.length 2).length = 2 := rfl
  rcases q with _ | q
  · rfl
  rw [List.cons_append, List.take_succ_cons]
  simp only [List.cons_append, List.length_cons, List.length_append, hl] at hq
  by_cases h : q < 2
  · exact textR_218s _ (by rw [List.length_take]; omega)
  · rw [List.take_append, hl, List.take_of_length_le (by rw [hl]; omega), textR_218 _ hn]
    exact cutT_short (by omega)
theorem textR_219 (n : Nat) (hn : n < 4294967296) (x : List UInt8) : textR (UInt8.ofNat 219 :: (beL n 4 ++ x)) = cutT n x := by
  have hl : (beL n 4).length = 4 := rfl
  rw [textR_cons, show (UInt8.ofNat 219).toNat = 219 from rfl, if_neg (by decide), if_neg (by decide), if_neg (by decide), if_pos rfl, if_neg (by rw [List.length_append, hl]; omega), List.take_left' hl, List.drop_left' hl, bigU_t4, Nat.mod_eq_of_lt hn]
theorem textR_219s (x : List UInt8) (hx : x.length < 4) : textR (UInt8.ofNat 219 :: x) = none := by
  rw [textR_cons, show (UInt8.ofNat 219).toNat = 219 from rfl, if_neg (by decide), if_neg (by decide), if_neg (by decide), if_pos rfl, if_pos hx]
theorem textR_219q (t : List UInt8) (hn : t.length < 4294967296) (q : Nat) (hq : q < (UInt8.ofNat 219 :: beL t.length 4 ++ t).length) : textR ((UInt8.ofNat 219 :: beL t.length 4 ++ t).take q) = none := by
  have hl : (beL t.length 4).length = 4 := rfl
  rcases q with _ | q
  · rfl
  rw [List.cons_append, List.take_succ_cons]
  simp only [List.cons_append, List.length_cons, List.length_append, hl] at hq
  by_cases h : q < 4
  · exact textR_219s _ (by rw [List.length_take]; omega)
  · rw [List.take_append, hl, List.take_of_length_le (by rw [hl]; omega), textR_219 _ hn]
    exact cutT_short (by omega)
theorem text_yes {n : Nat} {t : List UInt8} {e : Int} {ks : List Pack} {h : List UInt8} (hw : WrP (.mk 6 n t e ks) h) (zs : List UInt8) : textR (h ++ zs) = some (t, zs) ∧ ∀ q, q < h.length → textR (h.take q) = none := by
  unfold WrP at hw
  obtain ⟨hd, hh, rfl⟩ : ∃ hd, HeadIs 6 t.length hd ∧ h = hd ++ t := by
    rcases hw with ⟨h, _⟩ | ⟨h, _⟩ | ⟨h, _⟩ | ⟨h, _⟩ | ⟨h, _⟩ | ⟨h, _⟩ | ⟨_, h⟩ | ⟨h, _⟩ | ⟨h, _⟩ | ⟨h, _⟩ | ⟨h, _⟩
    case inr.inr.inr.inr.inr.inr.inl => exact h
    all_goals omega
  unfold HeadIs at hh
  rcases hh with ⟨h, _⟩ | ⟨h, _⟩ | ⟨h, _⟩ | ⟨_, hh⟩
  · omega
  · omega
  · omega
  rcases hh with ⟨_, hu, rfl⟩ | ⟨f, hm, _, hfn, rfl⟩
  · have e0 : ((160 : Int).toNat) = 160 := rfl
    rw [e0, List.append_assoc, List.singleton_append, List.singleton_append]
    refine ⟨by rw [textR_fix _ hu, cutT_full], fun q hq => ?_⟩
    rcases q with _ | q
    · rfl
    · rw [List.take_succ_cons, textR_fix _ hu]
      exact cutT_short (by simpa using hq)
  · simp only [List.mem_cons, List.not_mem_nil, or_false] at hm
    rcases hm with rfl | rfl | rfl
    · have hn : t.length < 256 := by rcases hfn with h | h; (exact absurd h (by decide)); (simpa using h)
      refine ⟨?_, fun q hq => textR_217q t hn q hq⟩
      show textR (UInt8.ofNat 217 :: beL t.length 1 ++ t ++ zs) = _
      rw [List.cons_append, List.cons_append, List.append_assoc, textR_217 _ hn, cutT_full]
    · have hn : t.length < 65536 := by rcases hfn with h | h; (exact absurd h (by decide)); (simpa using h)
      refine ⟨?_, fun q hq => textR_218q t hn q hq⟩
      show textR (UInt8.ofNat 218 :: beL t.length 2 ++ t ++ zs) = _
      rw [List.cons_append, List.cons_append, List.append_assoc, textR_218 _ hn, cutT_full]
    · have hn : t.length < 4294967296 := by rcases hfn with h | h; (exact absurd h (by decide)); (simpa using h)
      refine ⟨?_, fun q hq => textR_219q t hn q hq⟩
      show textR (UInt8.ofNat 219 :: beL t.length 4 ++ t ++ zs) = _
      rw [List.cons_append, List.cons_append, List.append_assoc, textR_219 _ hn, cutT_full]
theorem text_no {h zs : List UInt8} {k : Int} (hh : ∃ b r, h = b :: r ∧ kindB b.toNat = kindI k) (hk : k ≠ 6) : textR (h ++ zs) = none ∧ ∀ q, textR (h.take q) = none := by
  obtain ⟨b, r, rfl, hb⟩ := hh
  have hb6 : kindB b.toNat ≠ 6 := by
    rw [hb]
    unfold kindI
    split <;> omega
  have h1 : ¬ (160 ≤ b.toNat ∧ b.toNat < 192) := by
    intro h
    apply hb6
    unfold kindB
    rw [if_neg (by omega), if_neg (by omega), if_neg (by omega), if_pos (by omega)]
  have hn : ∀ c, kindB c = 6 → b.toNat ≠ c := fun c hc h => hb6 (by rw [h]; exact hc)
  have key : ∀ x, textR (b :: x) = none := by
    intro x
    rw [textR_cons, if_neg h1, if_neg (hn 217 (by decide)), if_neg (hn 218 (by decide)), if_neg (hn 219 (by decide))]
  refine ⟨by rw [List.cons_append]; exact key _, fun q => ?_⟩
  rcases q with _ | q
  · rfl
  · rw [List.take_succ_cons]
    exact key _
theorem two_rb (w : World) (b c : UInt8) : RB (w.alloc (.cells #[u8 b, u8 c] 5)) (Lt (w.heap.size + 1)) (some ⟨w.heap.size, 0, none⟩) [b, c] :=
  reads_blk (S := Lt (w.heap.size + 1)) (t := 5) (cs := #[u8 b, u8 c]) (Blk.new _ _ _) (Nat.lt_succ_self _) 1 2 rfl
theorem text_conv {w : World} {S : Nat → Prop} {A : Option Addr} {t : List UInt8} (h : RB w S A t) (n c : Nat) (hn : n = t.length) : (convert 26 9 (.slice A n c)).run Tryd.prog w = .ok (.string ⟨t.toArray⟩) w := by
  subst hn
  exact run_string_of_bytes (P := Tryd.prog) 26 9 5 Tryd.underlying26 Tryd.underlying5 Tryd.underlying9 h c
set_option maxRecDepth 100000 in
set_option maxHeartbeats 1600000 in
theorem FnGetTextZC_far (k : Int) (num : Nat) (t : List UInt8) (e : Int) (K : Option Addr) (m kc fm : Nat) (sh : Bool) (B : Option Addr) (bl bc : Nat) (cut : Int) (w : World) (hbl : bl ≤ 9223372036854775807) (hf : 2147483647 < bl) :
    Calls Tryd.prog 5 #[.agg #[.int .i64 k, .int .u64 (num : Nat), .string ⟨t.toArray⟩, .int .i64 e, .slice K m kc, .int .u64 fm, .bool sh, .slice B bl bc, .int .i64 cut]] w (TrueR w) := by
  go_enter Tryd.func5, Tryd.ntmps5
  go_wp2_with fail
  refine (zz16 k num ⟨t.toArray⟩ e K m kc fm sh B bl bc cut _ (by omega)).mono ?_
  rintro e1 w1 ⟨rfl, hb1⟩
  have hw1 : Below w.heap.size w w1 := Below.trans (by repeat (first | with_reducible exact Below.refl _ _ | with_reducible exact x | with_reducible refine Below.alloc ?_ (by first | omega | (simp; omega) | (simp; done)) _ | with_reducible refine Below.setCell ?_ (by first | omega | (simp; omega) | (simp; done)) _ | with_reducible refine Below.drew ?_ | with_reducible refine below_drewN ?_ _)) (hb1.mono (by simp))
  have hB1 : Blk w1 w.heap.size 28 #[.int .i64 k, .int .u64 (num : Nat), .string ⟨t.toArray⟩, .int .i64 e, .slice K m kc, .int .u64 fm, .bool sh, .slice B bl bc, .int .i64 cut] := (Blk.new w _ _).below hb1 (by simp)
  rw [decide_eq_false (by omega)]
  have HW1 := hide hw1
  clear hw1 hb1 hB1
  go_wp2
  go_ret
  exact ⟨rfl, unhide HW1⟩
set_option maxRecDepth 100000 in
set_option maxHeartbeats 6400000 in
theorem FnGetTextZC_near (k : Int) (num : Nat) (t : List UInt8) (e : Int) (p : Pack) (ps : List Pack) (K : Option Addr) (m kc fm : Nat) (sh : Bool) (B : Option Addr) (bl bc : Nat) (zs : List UInt8) (cut : Int) (w : World) (hE : ErrAt w)
    (hp0 : p = .mk k num t e ps) (hG : GivenIn w #[.int .i64 k, .int .u64 (num : Nat), .string ⟨t.toArray⟩, .int .i64 e, .slice K m kc, .int .u64 fm, .bool sh, .slice B bl bc, .int .i64 cut] p k num ⟨t.toArray⟩ e K m kc fm sh B bl bc zs cut) (hf : bl ≤ 2147483647) :
    Calls Tryd.prog 5 #[.agg #[.int .i64 k, .int .u64 (num : Nat), .string ⟨t.toArray⟩, .int .i64 e, .slice K m kc, .int .u64 fm, .bool sh, .slice B bl bc, .int .i64 cut]] w (TrueR w) := by
  have HG := hide hG
  have HE := hide hE
  have HP0 := hide hp0
  have hcap := hG.cap
  have hcap2 := hG.cap2
  clear hG hE hp0
  go_enter Tryd.func5, Tryd.ntmps5
  go_wp2_with fail
  refine (zz16 k num ⟨t.toArray⟩ e K m kc fm sh B bl bc cut _ (by omega)).mono ?_
  rintro e1 w1 ⟨rfl, hb1⟩
  have hw1 : Below w.heap.size w w1 := Below.trans (by repeat (first | with_reducible exact Below.refl _ _ | with_reducible exact x | with_reducible refine Below.alloc ?_ (by first | omega | (simp; omega) | (simp; done)) _ | with_reducible refine Below.setCell ?_ (by first | omega | (simp; omega) | (simp; done)) _ | with_reducible refine Below.drew ?_ | with_reducible refine below_drewN ?_ _)) (hb1.mono (by simp))
  have hB1 : Blk w1 w.heap.size 28 #[.int .i64 k, .int .u64 (num : Nat), .string ⟨t.toArray⟩, .int .i64 e, .slice K m kc, .int .u64 fm, .bool sh, .slice B bl bc, .int .i64 cut] := (Blk.new w _ _).below hb1 (by simp)
  rw [decide_eq_true hf]
  obtain ⟨⟨x0, x1, x2, x3, x4⟩, x5, x6, x7, x8⟩ := nine_cells hB1
  have hz1 := hB1.lt
  have HW1 := hide hw1
  have HB1 := hide hB1
  have hG0 := getText_any (Lt (w1.heap.size + 1)) (some ⟨w1.heap.size, 0, none⟩) [161, 97] 2 2 (w1.alloc (.cells #[.int .u8 161, .int .u8 97] 5)) ((unhide HE).below ((unhide HW1).alloc hw1.size _) (unhide HE).pos) rfl (two_rb w1 161 97) (Nat.le_refl _) (by omega) (old_one w1 _) (by omega)
  rw [show textR [161, 97] = some ([97], []) from rfl] at hG0
  have HG0 := hide hG0
  clear hG0 hw1 hb1 hB1
  go_wp2_with fail
  refine (unhide HG0).mono ?_
  rintro e2 w2 ⟨hb2, A2, c2, A2', n2', c2', rfl, _, _, hr2, _, _, _, _⟩
  have hcw : (convert 26 9 (.slice A2 1 c2)).run Tryd.prog w2 = .ok (.string ⟨#[97]⟩) w2 := text_conv hr2 1 c2 rfl
  have hw2 : Below w.heap.size w w2 := ((unhide HW1).alloc (unhide HW1).size _).trans (hb2.mono (by have := (unhide HW1).size; simp; omega))
  have hB2 : Blk w2 w.heap.size 28 #[.int .i64 k, .int .u64 (num : Nat), .string ⟨t.toArray⟩, .int .i64 e, .slice K m kc, .int .u64 fm, .bool sh, .slice B bl bc, .int .i64 cut] := ((unhide HB1).alloc _).below hb2 (by have := (unhide HB1).lt; simp; omega)
  obtain ⟨⟨y0, y1, y2, y3, y4⟩, y5, y6, y7, y8⟩ := nine_cells hB2
  have hz2 := hB2.lt
  have HW2 := hide hw2
  have HB2 := hide hB2
  have hD := data_any p k num ⟨t.toArray⟩ e K m kc fm sh B bl bc zs cut (Lt w.heap.size) w2 (fun b hb => Nat.lt_of_lt_of_le hb hw2.size) (PackC.keep (Stays.of_below hw2) _ _ (unhide HG).pack) (unhide HG).wf (unhide HG).forms (unhide HG).len hcap hcap2 ((unhide HG).behind.below hw2)
  have HD := hide hD
  clear hD hw2 hb2 hB2 HG0 x0 x1 x2 x3 x4 x5 x6 x7 x8
  go_wp2_with fail
  refine (unhide HD).mono ?_
  intro e3 w3 hd
  cases hd with
  | no _ hb3 =>
    have hw3 := (unhide HW2).trans (hb3.mono (unhide HW2).size)
    have HW3 := hide hw3
    clear hb3 hw3
    go_wp2
    go_ret
    exact ⟨rfl, unhide HW3⟩
  | cut _ hb3 hc0 hfit hcn h hwr q hq hl A3 c3 hqc hcm hr3 =>
    have hw3 := (unhide HW2).trans (hb3.mono (unhide HW2).size)
    have hB3 := (unhide HB2).below hb3 hz2
    have hno : textR (h.take q) = none := by
      rw [unhide HP0] at hwr hfit
      by_cases hk : k = 6
      · subst hk
        exact (text_yes hwr []).2 q hq
      · exact (text_no (zs := []) (WrP_lead hwr hfit (by rw [← unhide HP0]; exact (unhide HG).wf)) hk).2 q
    have hG3 := getText_any (fun b => w2.heap.size ≤ b ∧ b < w3.heap.size) A3 (h.take q) q c3 w3 ((unhide HE).below hw3 (unhide HE).pos) (by rw [List.length_take]; omega) hr3 hqc (by unfold maxLen at hcm; omega) (fun b hb => hb.2) (by omega)
    rw [hno] at hG3
    have HG3 := hide hG3
    have HW3 := hide hw3
    have HB3 := hide hB3
    have hz3 := hB3.lt
    clear hG3 hb3 hw3 hB3 hno hwr hfit hr3 hq hl hqc hcm
    go_wp2_with fail
    refine (unhide HG3).mono ?_
    rintro e4 w4 ⟨hb4, rfl⟩
    have hw4 := (unhide HW3).trans (hb4.mono (unhide HW3).size)
    have HW4 := hide hw4
    obtain ⟨⟨z0, z1, z2, z3, z4⟩, z5, z6, z7, z8⟩ := nine_cells ((unhide HB3).below hb4 hz3)
    have hz4 : w.heap.size < w4.heap.size := Nat.lt_of_lt_of_le hz3 hb4.size
    clear hb4 hw4
    go_wp2
    go_ret
    exact ⟨rfl, by have h := unhide HW4; exact (by repeat (first | with_reducible exact Below.refl _ _ | with_reducible exact h | with_reducible refine Below.alloc ?_ (by first | omega | (simp; omega) | (simp; done)) _ | with_reducible refine Below.setCell ?_ (by first | omega | (simp; omega) | (simp; done)) _ | with_reducible refine Below.drew ?_ | with_reducible refine below_drewN ?_ _))⟩
  | whole _ hb3 hc0 hfit hcn hbl h hwr hl hl0 A3 n3 c3 hn3 hnc hcm hr3 =>
    have hw3 := (unhide HW2).trans (hb3.mono (unhide HW2).size)
    have hB3 := (unhide HB2).below hb3 hz2
    have hG3 := getText_any (fun b => w2.heap.size ≤ b ∧ b < w3.heap.size) A3 (h ++ zs) n3 c3 w3 ((unhide HE).below hw3 (unhide HE).pos) hn3 hr3 hnc (by unfold maxLen at hcm; omega) (fun b hb => hb.2) (by have := (unhide HG).len; rw [hn3, List.length_append]; omega)
    rw [unhide HP0] at hwr hfit
    have HW3 := hide hw3
    have HB3 := hide hB3
    have hz3 := hB3.lt
    by_cases hk : k = 6
    · subst hk
      rw [(text_yes hwr zs).1] at hG3
      have HG3 := hide hG3
      clear hG3 hb3 hw3 hB3 hwr hfit hr3 hl hl0 hnc hcm hn3
      go_wp2_with fail
      refine (unhide HG3).mono ?_
      rintro e4 w4 ⟨hb4, A5, c5, A4, n4, c4, rfl, hc5, hm5, hr5, hn4, hc4, hcm4, hr4⟩
      have hw4 := (unhide HW3).trans (hb4.mono (unhide HW3).size)
      obtain ⟨⟨z0, z1, z2, z3, z4⟩, z5, z6, z7, z8⟩ := nine_cells ((unhide HB3).below hb4 hz3)
      have hz4 : w.heap.size < w4.heap.size := Nat.lt_of_lt_of_le hz3 hb4.size
      have HLS := hide (fun (o : Obj) => left_same (Made w3 w4) (Lt w.heap.size) A4 B zs n4 bl c4 bc (w4.alloc o) hn4 (unhide HG).len (hr4.keep (stays_alloc (fun b hb => hb.2) (Stays.refl _ _) o)) ((unhide HG).behind.below (hw4.alloc hw4.size o)))
      have hcv := fun (o : Obj) => text_conv (hr5.keep (stays_alloc (fun b hb => hb.2) (Stays.refl _ _) o)) t.length c5 rfl
      have HW4 := hide hw4
      clear hb4 hw4 hr4 hn4 hr5
      go_wp2_with (go_at_call 13; go_loud (refine (unhide HLS _).mono ?_; rintro e5 w5 ⟨rfl, rfl⟩))
      go_ret
      exact ⟨rfl, (unhide HW4).alloc (unhide HW4).size _⟩
    · have hk2 : (k == 6) = false := by simpa using hk
      rw [(text_no (zs := zs) (WrP_lead hwr hfit (by rw [← unhide HP0]; exact (unhide HG).wf)) hk).1] at hG3
      have HG3 := hide hG3
      clear hG3 hb3 hw3 hB3 hwr hfit hr3 hl hl0 hnc hcm hn3 hk
      go_wp2_with fail
      refine (unhide HG3).mono ?_
      rintro e4 w4 ⟨hb4, rfl⟩
      have hw4 := (unhide HW3).trans (hb4.mono (unhide HW3).size)
      have HW4 := hide hw4
      obtain ⟨⟨z0, z1, z2, z3, z4⟩, z5, z6, z7, z8⟩ := nine_cells ((unhide HB3).below hb4 hz3)
      have hz4 : w.heap.size < w4.heap.size := Nat.lt_of_lt_of_le hz3 hb4.size
      clear hb4 hw4
      go_wp2
      go_ret
      exact ⟨rfl, (unhide HW4).alloc (unhide HW4).size _⟩
theorem FnGetTextZC_walk (cs : Array Value) (p : Pack) (k n : Int) (T : ByteArray) (e : Int) (K : Option Addr) (m kc fm : Nat) (sh : Bool) (B : Option Addr) (bl bc : Nat) (zs : List UInt8) (cut : Int) (w : World) (hE : ErrAt w) (hG : GivenIn w cs p k n T e K m kc fm sh B bl bc zs cut) :
    Calls Tryd.prog 5 #[.agg cs] w fun e w' => e = .returned (.bool true) ∧ Below w.heap.size w w' := by
  obtain ⟨num, t, ps, rfl, rfl, rfl, rfl⟩ := given_pack hG.pack
  have hc := hG.cells
  subst hc
  by_cases hf : 2147483647 < bl
  · exact FnGetTextZC_far k num t e K ps.length kc fm sh B bl bc cut w (Nat.le_trans hG.cap hG.cap2) hf
  · exact FnGetTextZC_near k num t e _ ps K ps.length kc fm sh B bl bc zs cut w hE rfl hG (by omega)
end Go.Proofs.YtpmcljjhjjmlfaaDoor
