/-
  The law FnGetExact: its walk. Conditions: msgp.ErrShortBytes is not nil.
-/
import Derived.Test.YtpmcljjhjjmlfaaDoorLead
import Derived.Test.YtpmcljjhjjmlfaaDoorGetX
import Derived.Test.YtpmcljjhjjmlfaaDoorOpenG
namespace Go.Proofs.YtpmcljjhjjmlfaaDoor
set_option linter.unusedSimpArgs false
set_option linter.unusedVariables false
set_option linter.unusedVariables false
open Go.RowKit
theorem bigU_t1 (u : Nat) : bigU (beL u 1) = u % 256 := by simp [bigU, beL]
theorem bigU_t2 (u : Nat) : bigU (beL u 2) = u % 65536 := by simp [bigU, beL]; omega
theorem bigU_t4 (u : Nat) : bigU (beL u 4) = u % 4294967296 := by simp [bigU, beL]; omega
theorem exactR_cons (n : Nat) (b : UInt8) (r : List UInt8) : exactR n (b :: r) = if b.toNat = 196 then (if r.length < 1 then none else cutX n (bigU (r.take 1)) (r.drop 1)) else
    if b.toNat = 197 then (if r.length < 2 then none else cutX n (bigU (r.take 2)) (r.drop 2)) else
    if b.toNat = 198 then (if r.length < 4 then none else cutX n (bigU (r.take 4)) (r.drop 4)) else none := rfl
theorem exactR_196 (m n : Nat) (hn : n < 256) (x : List UInt8) : exactR m (UInt8.ofNat 196 :: (beL n 1 ++ x)) = cutX m n x := by
  have hl : (beL n 1).length = 1 := rfl
  rw [exactR_cons, show (UInt8.ofNat 196).toNat = 196 from rfl, if_pos rfl, if_neg (by rw [List.length_append, hl]; omega), List.take_left' hl, List.drop_left' hl, bigU_t1, Nat.mod_eq_of_lt hn]
theorem exactR_197 (m n : Nat) (hn : n < 65536) (x : List UInt8) : exactR m (UInt8.ofNat 197 :: (beL n 2 ++ x)) = cutX m n x := by
  have hl : (beL n 2).length = 2 := rfl
  rw [exactR_cons, show (UInt8.ofNat 197).toNat = 197 from rfl, if_neg (by decide), if_pos rfl, if_neg (by rw [List.length_append, hl]; omega), List.take_left' hl, List.drop_left' hl, bigU_t2, Nat.mod_eq_of_lt hn]
theorem exactR_198 (m n : Nat) (hn : n < 4294967296) (x : List UInt8) : exactR m (UInt8.ofNat 198 :: (beL n 4 ++ x)) = cutX m n x := by
  have hl : (beL n 4).length = 4 := rfl
  rw [exactR_cons, show (UInt8.ofNat 198).toNat = 198 from rfl, if_neg (by decide), if_neg (by decide), if_pos rfl, if_neg (by rw [List.length_append, hl]; omega), List.take_left' hl, List.drop_left' hl, bigU_t4, Nat.mod_eq_of_lt hn]
theorem exact_bin {n : Nat} {t : List UInt8} {e : Int} {ks : List Pack} {h : List UInt8} (hw : WrP (.mk 7 n t e ks) h) (m : Nat) (zs : List UInt8) : exactR m (h ++ zs) = if t.length = m then some (t, zs) else none := by
  have key : ∀ x, x = t.length → cutX m x (t ++ zs) = if t.length = m then some (t, zs) else none := by
    intro x hx
    subst hx
    unfold cutX
    by_cases h : t.length = m
    · subst h
      rw [if_pos rfl, if_pos rfl, List.take_left, List.drop_left]
    · rw [if_neg h, if_neg h]
  unfold WrP at hw
  obtain ⟨hd, hh, rfl⟩ : ∃ hd, HeadIs 7 t.length hd ∧ h = hd ++ t := by
    rcases hw with ⟨h, _⟩ | ⟨h, _⟩ | ⟨h, _⟩ | ⟨h, _⟩ | ⟨h, _⟩ | ⟨h, _⟩ | ⟨h, _⟩ | ⟨_, h⟩ | ⟨h, _⟩ | ⟨h, _⟩ | ⟨h, _⟩
    case inr.inr.inr.inr.inr.inr.inr.inl => exact h
    all_goals omega
  unfold HeadIs at hh
  rcases hh with ⟨h, _⟩ | ⟨h, _⟩ | ⟨_, hh⟩ | ⟨h, _⟩
  · omega
  · omega
  · rcases hh with ⟨h, _, rfl⟩ | ⟨f, hm, _, hfn, rfl⟩
    · omega
    · simp only [List.mem_cons, List.not_mem_nil, or_false] at hm
      rcases hm with rfl | rfl | rfl
      · have hn : t.length < 256 := by rcases hfn with h | h; (exact absurd h (by decide)); (simpa using h)
        show exactR m (UInt8.ofNat 196 :: beL t.length 1 ++ t ++ zs) = _
        rw [List.cons_append, List.cons_append, List.append_assoc, exactR_196 _ _ hn]
        exact key _ rfl
      · have hn : t.length < 65536 := by rcases hfn with h | h; (exact absurd h (by decide)); (simpa using h)
        show exactR m (UInt8.ofNat 197 :: beL t.length 2 ++ t ++ zs) = _
        rw [List.cons_append, List.cons_append, List.append_assoc, exactR_197 _ _ hn]
        exact key _ rfl
      · have hn : t.length < 4294967296 := by rcases hfn with h | h; (exact absurd h (by decide)); (simpa using h)
        show exactR m (UInt8.ofNat 198 :: beL t.length 4 ++ t ++ zs) = _
        rw [List.cons_append, List.cons_append, List.append_assoc, exactR_198 _ _ hn]
        exact key _ rfl
  · omega
theorem exact_no {h zs : List UInt8} {k : Int} (hh : ∃ b r, h = b :: r ∧ kindB b.toNat = kindI k) (hk : k ≠ 7) (m : Nat) : exactR m (h ++ zs) = none := by
  obtain ⟨b, r, rfl, hb⟩ := hh
  have hb7 : kindB b.toNat ≠ 7 := by
    rw [hb]
    unfold kindI
    split <;> omega
  have hn : ∀ c, kindB c = 7 → b.toNat ≠ c := fun c hc h => hb7 (by rw [h]; exact hc)
  rw [List.cons_append, exactR_cons, if_neg (hn 196 (by decide)), if_neg (hn 197 (by decide)), if_neg (hn 198 (by decide))]
theorem three_rb (w : World) (b c x : UInt8) : RB (w.alloc (.cells #[u8 b, u8 c, u8 x] 5)) (Lt (w.heap.size + 1)) (some ⟨w.heap.size, 0, none⟩) [b, c, x] :=
  reads_blk (S := Lt (w.heap.size + 1)) (t := 5) (cs := #[u8 b, u8 c, u8 x]) (Blk.new _ _ _) (Nat.lt_succ_self _) 1 3 rfl
theorem full_none {m n : Nat} : ∀ (s x : List UInt8), (none : Option (List UInt8 × List UInt8)) = some (s, x) → s.length = m ∧ x.length ≤ n := fun _ _ h => by cases h
theorem text_conv {w : World} {S : Nat → Prop} {A : Option Addr} {t : List UInt8} (h : RB w S A t) (n c : Nat) (hn : n = t.length) : (convert 26 9 (.slice A n c)).run Tryd.prog w = .ok (.string ⟨t.toArray⟩) w := by
  subst hn
  exact run_string_of_bytes (P := Tryd.prog) 26 9 5 Tryd.underlying26 Tryd.underlying5 Tryd.underlying9 h c
set_option maxRecDepth 100000 in
set_option maxHeartbeats 1600000 in
theorem FnGetExact_far (k : Int) (num : Nat) (t : List UInt8) (e : Int) (K : Option Addr) (m kc fm : Nat) (sh : Bool) (B : Option Addr) (bl bc : Nat) (cut : Int) (x : Int) (w : World) (hbl : bl ≤ 9223372036854775807) (hf : 2147483647 < bl) :
    Calls Tryd.prog 6 #[.agg #[.int .i64 k, .int .u64 (num : Nat), .string ⟨t.toArray⟩, .int .i64 e, .slice K m kc, .int .u64 fm, .bool sh, .slice B bl bc, .int .i64 cut], .int .i64 x] w (TrueR w) := by
  go_enter Tryd.func6, Tryd.ntmps6
  go_wp2_with fail
  refine (zz16 k num ⟨t.toArray⟩ e K m kc fm sh B bl bc cut _ (by omega)).mono ?_
  rintro e1 w1 ⟨rfl, hb1⟩
  have hw1 : Below w.heap.size w w1 := Below.trans (by repeat (first | with_reducible exact Below.refl _ _ | with_reducible exact x | with_reducible refine Below.alloc ?_ (by first | omega | (simp; omega) | (simp; done)) _ | with_reducible refine Below.setCell ?_ (by first | omega | (simp; omega) | (simp; done)) _ | with_reducible refine Below.drew ?_ | with_reducible refine below_drewN ?_ _)) (hb1.mono (by simp))
  have hB1 : Blk w1 w.heap.size 28 #[.int .i64 k, .int .u64 (num : Nat), .string ⟨t.toArray⟩, .int .i64 e, .slice K m kc, .int .u64 fm, .bool sh, .slice B bl bc, .int .i64 cut] := (Blk.new w _ _).below hb1 (by simp)
  rw [decide_eq_false (by omega)]
  have HW1 := hide hw1
  clear hw1 hb1 hB1
  go_wp2
  go_ret
  exact ⟨rfl, unhide HW1⟩
set_option maxRecDepth 100000 in
set_option maxHeartbeats 6400000 in
theorem FnGetExact_near (k : Int) (num : Nat) (t : List UInt8) (e : Int) (p : Pack) (ps : List Pack) (K : Option Addr) (m kc fm : Nat) (sh : Bool) (B : Option Addr) (bl bc : Nat) (zs : List UInt8) (cut : Int) (x : Int) (w : World) (hE : ErrAt w)
    (hp0 : p = .mk k num t e ps) (hG : GivenIn w #[.int .i64 k, .int .u64 (num : Nat), .string ⟨t.toArray⟩, .int .i64 e, .slice K m kc, .int .u64 fm, .bool sh, .slice B bl bc, .int .i64 cut] p k num ⟨t.toArray⟩ e K m kc fm sh B bl bc zs cut) (hf : bl ≤ 2147483647) :
    Calls Tryd.prog 6 #[.agg #[.int .i64 k, .int .u64 (num : Nat), .string ⟨t.toArray⟩, .int .i64 e, .slice K m kc, .int .u64 fm, .bool sh, .slice B bl bc, .int .i64 cut], .int .i64 x] w (TrueR w) := by
  have HG := hide hG
  have HE := hide hE
  have HP0 := hide hp0
  have hcap := hG.cap
  have hcap2 := hG.cap2
  clear hG hE hp0
  go_enter Tryd.func6, Tryd.ntmps6
  go_wp2_with fail
  refine (zz16 k num ⟨t.toArray⟩ e K m kc fm sh B bl bc cut _ (by omega)).mono ?_
  rintro e1 w1 ⟨rfl, hb1⟩
  have hw1 : Below w.heap.size w w1 := Below.trans (by repeat (first | with_reducible exact Below.refl _ _ | with_reducible exact x | with_reducible refine Below.alloc ?_ (by first | omega | (simp; omega) | (simp; done)) _ | with_reducible refine Below.setCell ?_ (by first | omega | (simp; omega) | (simp; done)) _ | with_reducible refine Below.drew ?_ | with_reducible refine below_drewN ?_ _)) (hb1.mono (by simp))
  have hB1 : Blk w1 w.heap.size 28 #[.int .i64 k, .int .u64 (num : Nat), .string ⟨t.toArray⟩, .int .i64 e, .slice K m kc, .int .u64 fm, .bool sh, .slice B bl bc, .int .i64 cut] := (Blk.new w _ _).below hb1 (by simp)
  rw [decide_eq_true hf]
  obtain ⟨⟨x0, x1, x2, x3, x4⟩, x5, x6, x7, x8⟩ := nine_cells hB1
  have hz1 := hB1.lt
  have HW1 := hide hw1
  have HB1 := hide hB1
  have hG0 := getExact_any (Lt (w1.heap.size + 1)) (some ⟨w1.heap.size, 0, none⟩) [196, 1, 97] 3 3 1 (w1.alloc (.cells #[.int .u8 196, .int .u8 1, .int .u8 97] 5)) ((unhide HE).below ((unhide HW1).alloc hw1.size _) (unhide HE).pos) rfl (three_rb w1 196 1 97) (Nat.le_refl _) (by omega) (old_one w1 _) (by omega) (by omega) (some ([97], [])) rfl (by rintro s x h; cases h; exact ⟨rfl, by simp⟩)
  have HG0 := hide hG0
  clear hG0 hw1 hb1 hB1
  go_wp2_with fail
  refine (unhide HG0).mono ?_
  rintro e2 w2 ⟨hb2, A2, c2, A2', n2', c2', rfl, _, _, hr2, _, _, _, _⟩
  have hcw : (convert 26 9 (.slice A2 1 c2)).run Tryd.prog w2 = .ok (.string ⟨#[97]⟩) w2 := text_conv hr2 1 c2 rfl
  have hw2 : Below w.heap.size w w2 := ((unhide HW1).alloc (unhide HW1).size _).trans (hb2.mono (by have := (unhide HW1).size; simp; omega))
  have hB2 : Blk w2 w.heap.size 28 #[.int .i64 k, .int .u64 (num : Nat), .string ⟨t.toArray⟩, .int .i64 e, .slice K m kc, .int .u64 fm, .bool sh, .slice B bl bc, .int .i64 cut] := ((unhide HB1).alloc _).below hb2 (by have := (unhide HB1).lt; simp; omega)
  obtain ⟨⟨y0, y1, y2, y3, y4⟩, y5, y6, y7, y8⟩ := nine_cells hB2
  have hz2 := hB2.lt
  have HW2 := hide hw2
  have HB2 := hide hB2
  have hD := data_any p k num ⟨t.toArray⟩ e K m kc fm sh B bl bc zs cut (Lt w.heap.size) w2 (fun b hb => Nat.lt_of_lt_of_le hb hw2.size) (PackC.keep (Stays.of_below hw2) _ _ (unhide HG).pack) (unhide HG).wf (unhide HG).forms (unhide HG).len hcap hcap2 ((unhide HG).behind.below hw2)
  have HD := hide hD
  clear hD hw2 hb2 hB2 HG0 x0 x1 x2 x3 x4 x5 x6 x7 x8
  go_wp2_with fail
  refine (unhide HD).mono ?_
  intro e3 w3 hd
  cases hd with
  | no _ hb3 =>
    have hw3 := (unhide HW2).trans (hb3.mono (unhide HW2).size)
    have HW3 := hide hw3
    clear hb3 hw3
    go_wp2
    go_ret
    exact ⟨rfl, unhide HW3⟩
  | cut _ hb3 hc0 hfit hcn h hwr q hq hl A3 c3 hqc hcm hr3 =>
    have hw3 := (unhide HW2).trans (hb3.mono (unhide HW2).size)
    have hB3 := (unhide HB2).below hb3 hz2
    have HW3 := hide hw3
    clear hb3 hw3 hB3 hwr hfit hr3 hq hl hqc hcm
    by_cases hx1 : x < 0
    · go_wp2
      go_ret
      exact ⟨rfl, unhide HW3⟩
    by_cases hx2 : 131072 < x
    · go_wp2
      go_ret
      exact ⟨rfl, unhide HW3⟩
    go_wp2
    all_goals (go_ret; exact ⟨rfl, unhide HW3⟩)
  | whole _ hb3 hc0 hfit hcn hbl h hwr hl hl0 A3 n3 c3 hn3 hnc hcm hr3 =>
    have hw3 := (unhide HW2).trans (hb3.mono (unhide HW2).size)
    have hB3 := (unhide HB2).below hb3 hz2
    rw [unhide HP0] at hwr hfit
    have HW3 := hide hw3
    have HB3 := hide hB3
    have hz3 := hB3.lt
    by_cases hx1 : x < 0
    · clear hb3 hw3 hB3 hwr hfit hr3 hl hl0 hnc hcm hn3
      go_wp2
      all_goals (go_ret; exact ⟨rfl, unhide HW3⟩)
    by_cases hx2 : 131072 < x
    · clear hb3 hw3 hB3 hwr hfit hr3 hl hl0 hnc hcm hn3
      go_wp2
      all_goals (go_ret; exact ⟨rfl, unhide HW3⟩)
    obtain ⟨m2, rfl⟩ : ∃ m2 : Nat, x = (m2 : Int) := ⟨x.toNat, by omega⟩
    have hzl : zs.length ≤ n3 := by rw [hn3, List.length_append]; omega
    have hG9 := fun q hq hf => getExact_any (fun b => w2.heap.size ≤ b ∧ b < w3.heap.size) A3 (h ++ zs) n3 c3 m2 w3 ((unhide HE).below hw3 (unhide HE).pos) hn3 hr3 hnc (by unfold maxLen at hcm; omega) (fun b hb => hb.2) (by have := (unhide HG).len; rw [hn3, List.length_append]; omega) (by omega) q hq hf
    by_cases hk : k = 7
    · subst hk
      by_cases hmt : t.length = m2
      · have hG3 := hG9 (some (t, zs)) (by rw [exact_bin hwr, if_pos hmt]) (by rintro s x h; cases h; exact ⟨hmt, hzl⟩)
        subst hmt
        have HG3 := hide hG3
        clear hG3 hG9 hb3 hw3 hB3 hwr hfit hr3 hl hl0 hnc hcm hn3
        go_wp2_with fail
        refine (unhide HG3).mono ?_
        rintro e4 w4 ⟨hb4, A5, c5, A4, n4, c4, rfl, hc5, hm5, hr5, hn4, hc4, hcm4, hr4⟩
        have hw4 := (unhide HW3).trans (hb4.mono (unhide HW3).size)
        obtain ⟨⟨z0, z1, z2, z3, z4⟩, z5, z6, z7, z8⟩ := nine_cells ((unhide HB3).below hb4 hz3)
        have hz4 : w.heap.size < w4.heap.size := Nat.lt_of_lt_of_le hz3 hb4.size
        have HLS := hide (left_same (Made w3 w4) (Lt w.heap.size) A4 B zs n4 bl c4 bc w4 hn4 (unhide HG).len hr4 ((unhide HG).behind.below hw4))
        have hcv := text_conv hr5 t.length c5 rfl
        have HW4 := hide hw4
        clear hb4 hw4 hr4 hn4 hr5
        go_wp2_with (go_at_call 13; go_loud (refine (unhide HLS).mono ?_; rintro e5 w5 ⟨rfl, rfl⟩))
        go_ret
        exact ⟨rfl, unhide HW4⟩
      have hmf : ((m2 : Int) == (t.length : Int)) = false := by simp; omega
      have hG3 := hG9 none (by rw [exact_bin hwr, if_neg hmt]) full_none
      have HG3 := hide hG3
      clear hG3 hG9 hb3 hw3 hB3 hwr hfit hr3 hl hl0 hnc hcm hn3
      go_wp2_with fail
      refine (unhide HG3).mono ?_
      rintro e4 w4 ⟨hb4, rfl⟩
      have hw4 := (unhide HW3).trans (hb4.mono (unhide HW3).size)
      have HW4 := hide hw4
      obtain ⟨⟨z0, z1, z2, z3, z4⟩, z5, z6, z7, z8⟩ := nine_cells ((unhide HB3).below hb4 hz3)
      have hz4 : w.heap.size < w4.heap.size := Nat.lt_of_lt_of_le hz3 hb4.size
      clear hb4 hw4
      go_wp2
      go_ret
      exact ⟨rfl, by have h := unhide HW4; exact (by repeat (first | with_reducible exact Below.refl _ _ | with_reducible exact h | with_reducible refine Below.alloc ?_ (by first | omega | (simp; omega) | (simp; done)) _ | with_reducible refine Below.setCell ?_ (by first | omega | (simp; omega) | (simp; done)) _ | with_reducible refine Below.drew ?_ | with_reducible refine below_drewN ?_ _))⟩
    · have hk2 : (k == 7) = false := by simpa using hk
      have hG3 := hG9 none (exact_no (WrP_lead hwr hfit (by rw [← unhide HP0]; exact (unhide HG).wf)) hk m2) full_none
      have HG3 := hide hG3
      clear hG3 hG9 hb3 hw3 hB3 hwr hfit hr3 hl hl0 hnc hcm hn3
      go_wp2_with fail
      refine (unhide HG3).mono ?_
      rintro e4 w4 ⟨hb4, rfl⟩
      have hw4 := (unhide HW3).trans (hb4.mono (unhide HW3).size)
      have HW4 := hide hw4
      obtain ⟨⟨z0, z1, z2, z3, z4⟩, z5, z6, z7, z8⟩ := nine_cells ((unhide HB3).below hb4 hz3)
      have hz4 : w.heap.size < w4.heap.size := Nat.lt_of_lt_of_le hz3 hb4.size
      clear hb4 hw4
      go_wp2
      go_ret
      exact ⟨rfl, by have h := unhide HW4; exact (by repeat (first | with_reducible exact Below.refl _ _ | with_reducible exact h | with_reducible refine Below.alloc ?_ (by first | omega | (simp; omega) | (simp; done)) _ | with_reducible refine Below.setCell ?_ (by first | omega | (simp; omega) | (simp; done)) _ | with_reducible refine Below.drew ?_ | with_reducible refine below_drewN ?_ _))⟩
theorem FnGetExact_walk (cs : Array Value) (p : Pack) (k n : Int) (T : ByteArray) (e : Int) (K : Option Addr) (m kc fm : Nat) (sh : Bool) (B : Option Addr) (bl bc : Nat) (zs : List UInt8) (cut : Int) (x : Int) (w : World) (hE : ErrAt w) (hG : GivenIn w cs p k n T e K m kc fm sh B bl bc zs cut) (hx : (Lit.int .i64 x).wf = true) :
    Calls Tryd.prog 6 #[.agg cs, .int .i64 x] w fun e w' => e = .returned (.bool true) ∧ Below w.heap.size w w' := by
  obtain ⟨num, t, ps, rfl, rfl, rfl, rfl⟩ := given_pack hG.pack
  have hc := hG.cells
  subst hc
  by_cases hf : 2147483647 < bl
  · exact FnGetExact_far k num t e K ps.length kc fm sh B bl bc cut x w (Nat.le_trans hG.cap hG.cap2) hf
  · exact FnGetExact_near k num t e _ ps K ps.length kc fm sh B bl bc zs cut x w hE rfl hG (by omega)
end Go.Proofs.YtpmcljjhjjmlfaaDoor
