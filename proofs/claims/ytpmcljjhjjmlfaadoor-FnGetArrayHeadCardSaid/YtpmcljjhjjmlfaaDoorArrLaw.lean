/-
  The walk of the law FnGetArrayHead. Conditions: msgp.ErrShortBytes is not nil.
-/
import Derived.Test.YtpmcljjhjjmlfaaDoorArrHead
import Derived.Test.YtpmcljjhjjmlfaaDoorHead
import Derived.Test.YtpmcljjhjjmlfaaDoorRow
namespace Go.Proofs.YtpmcljjhjjmlfaaDoor
set_option linter.unusedSimpArgs false
set_option linter.unusedVariables false
open Go.RowKit
theorem bigU_beL2 (n : Nat) (h : n < 65536) : bigU (beL n 2) = n := by
  simp [bigU, beL]
  omega
theorem bigU_beL4 (n : Nat) (h : n < 4294967296) : bigU (beL n 4) = n := by
  simp [bigU, beL]
  omega
theorem arrH_cons (b : UInt8) (r : List UInt8) : arrH (b :: r) = if 144 ≤ b.toNat ∧ b.toNat < 160 then some (b.toNat % 16, r) else if b.toNat = 220 then (if r.length < 2 then none else some (bigU (r.take 2), r.drop 2))
    else if b.toNat = 221 then (if r.length < 4 then none else some (bigU (r.take 4), r.drop 4)) else none := rfl
theorem arrH_no (b : UInt8) (r : List UInt8) (h : ¬ (144 ≤ b.toNat ∧ b.toNat < 160)) (h1 : b.toNat ≠ 220) (h2 : b.toNat ≠ 221) : arrH (b :: r) = none := by
  rw [arrH_cons, if_neg h, if_neg h1, if_neg h2]
theorem head_arr (n : Nat) (hn : n < 4294967296) (bs : List UInt8) (h : HeadIs 8 n bs) (bh : List UInt8) : arrH (bs ++ bh) = some (n, bh) ∧ arrH (bs.take (bs.length - 1)) = none ∧ 0 < bs.length ∧ bs.length ≤ 9 := by
  unfold HeadIs at h
  simp only [Nat.reduceEqDiff, false_and, false_or, or_false, true_and] at h
  rcases h with ⟨_, hu, rfl⟩ | ⟨f, hf, _, hfit, rfl⟩
  · have e : (UInt8.ofNat ((144 : Int).toNat + n)).toNat = 144 + n := by
      simp
      omega
    refine ⟨?_, rfl, by simp, by simp⟩
    rw [List.singleton_append, arrH_cons, e, if_pos (by omega)]
    congr 2
    omega
  · simp only [List.mem_cons, List.not_mem_nil, or_false] at hf
    rcases hf with rfl | rfl
    · have hn2 : n < 65536 := by simpa using hfit
      refine ⟨?_, rfl, by simp, by simp [beL]⟩
      rw [List.cons_append, arrH_cons, show (UInt8.ofNat 220).toNat = 220 from rfl, if_neg (by omega), if_pos rfl]
      have hl : (beL n 2).length = 2 := rfl
      rw [if_neg (by rw [List.length_append, hl]; omega), List.take_left' hl, List.drop_left' hl, bigU_beL2 n hn2]
    · refine ⟨?_, rfl, by simp, by simp [beL]⟩
      rw [List.cons_append, arrH_cons, show (UInt8.ofNat 221).toNat = 221 from rfl, if_neg (by omega), if_neg (by omega), if_pos rfl]
      have hl : (beL n 4).length = 4 := rfl
      rw [if_neg (by rw [List.length_append, hl]; omega), List.take_left' hl, List.drop_left' hl, bigU_beL4 n hn]
theorem arrH_lead (b : UInt8) (r bh : List UInt8) (h : ¬ (144 ≤ b.toNat ∧ b.toNat < 160)) (h1 : b.toNat ≠ 220) (h2 : b.toNat ≠ 221) : arrH (b :: r ++ bh) = none ∧ arrH ((b :: r).take ((b :: r).length - 1)) = none := by
  refine ⟨arrH_no b _ h h1 h2, ?_⟩
  rcases r with _ | ⟨c, r⟩
  · rfl
  · exact arrH_no b _ h h1 h2
theorem head_not9 (n : Nat) (bs : List UInt8) (h : HeadIs 9 n bs) (bh : List UInt8) : arrH (bs ++ bh) = none ∧ arrH (bs.take (bs.length - 1)) = none ∧ 0 < bs.length ∧ bs.length ≤ 9 := by
  unfold HeadIs at h
  simp only [Nat.reduceEqDiff, false_and, false_or, or_false, true_and] at h
  rcases h with ⟨h0, hu, rfl⟩ | ⟨f, hf, _, hfit, rfl⟩
  · have e : (UInt8.ofNat ((128 : Int).toNat + n)).toNat = 128 + n := by
      simp
      omega
    have h := arrH_lead (UInt8.ofNat ((128 : Int).toNat + n)) [] bh (by rw [e]; omega) (by rw [e]; omega) (by rw [e]; omega)
    exact ⟨h.1, h.2, by simp, by simp⟩
  · simp only [List.mem_cons, List.not_mem_nil, or_false] at hf
    rcases hf with rfl | rfl
    · have h := arrH_lead (UInt8.ofNat 222) (beL n 2) bh (by decide) (by decide) (by decide)
      exact ⟨h.1, h.2, by simp, by simp [beL]⟩
    · have h := arrH_lead (UInt8.ofNat 223) (beL n 4) bh (by decide) (by decide) (by decide)
      exact ⟨h.1, h.2, by simp, by simp [beL]⟩
theorem head_not7 (n : Nat) (bs : List UInt8) (h : HeadIs 7 n bs) (bh : List UInt8) : arrH (bs ++ bh) = none ∧ arrH (bs.take (bs.length - 1)) = none ∧ 0 < bs.length ∧ bs.length ≤ 9 := by
  unfold HeadIs at h
  simp only [Nat.reduceEqDiff, false_and, false_or, or_false, true_and] at h
  rcases h with ⟨h0, hu, rfl⟩ | ⟨f, hf, _, hfit, rfl⟩
  · omega
  · simp only [List.mem_cons, List.not_mem_nil, or_false] at hf
    rcases hf with rfl | rfl | rfl
    · have h := arrH_lead (UInt8.ofNat 196) (beL n 1) bh (by decide) (by decide) (by decide)
      exact ⟨h.1, h.2, by simp, by simp [beL]⟩
    · have h := arrH_lead (UInt8.ofNat 197) (beL n 2) bh (by decide) (by decide) (by decide)
      exact ⟨h.1, h.2, by simp, by simp [beL]⟩
    · have h := arrH_lead (UInt8.ofNat 198) (beL n 4) bh (by decide) (by decide) (by decide)
      exact ⟨h.1, h.2, by simp, by simp [beL]⟩
theorem head_not6 (n : Nat) (bs : List UInt8) (h : HeadIs 6 n bs) (bh : List UInt8) : arrH (bs ++ bh) = none ∧ arrH (bs.take (bs.length - 1)) = none ∧ 0 < bs.length ∧ bs.length ≤ 9 := by
  unfold HeadIs at h
  simp only [Nat.reduceEqDiff, false_and, false_or, or_false, true_and] at h
  rcases h with ⟨h0, hu, rfl⟩ | ⟨f, hf, _, hfit, rfl⟩
  · have e : (UInt8.ofNat ((160 : Int).toNat + n)).toNat = 160 + n := by
      simp
      omega
    have h := arrH_lead (UInt8.ofNat ((160 : Int).toNat + n)) [] bh (by rw [e]; omega) (by rw [e]; omega) (by rw [e]; omega)
    exact ⟨h.1, h.2, by simp, by simp⟩
  · simp only [List.mem_cons, List.not_mem_nil, or_false] at hf
    rcases hf with rfl | rfl | rfl
    · have h := arrH_lead (UInt8.ofNat 217) (beL n 1) bh (by decide) (by decide) (by decide)
      exact ⟨h.1, h.2, by simp, by simp [beL]⟩
    · have h := arrH_lead (UInt8.ofNat 218) (beL n 2) bh (by decide) (by decide) (by decide)
      exact ⟨h.1, h.2, by simp, by simp [beL]⟩
    · have h := arrH_lead (UInt8.ofNat 219) (beL n 4) bh (by decide) (by decide) (by decide)
      exact ⟨h.1, h.2, by simp, by simp [beL]⟩
theorem left_same (S S' : Nat → Prop) (A B : Option Addr) (bs : List UInt8) (n m c c' : Nat) (w : World) (hn : n = bs.length) (hm : m = bs.length) (hr : RB w S A bs) (hr' : RB w S' B bs) :
    Calls Tryd.prog 13 #[.slice A n c, .slice B m c'] w fun e w' => e = .returned (.bool true) ∧ w = w' := by
  subst hn
  subst hm
  have c1 := run_string_of_bytes (P := Tryd.prog) 26 9 5 Tryd.underlying26 Tryd.underlying5 Tryd.underlying9 hr c
  have c2 := run_string_of_bytes (P := Tryd.prog) 26 9 5 Tryd.underlying26 Tryd.underlying5 Tryd.underlying9 hr' c'
  go_enter Tryd.func13, Tryd.ntmps13
  go_wp2
  go_ret
  exact ⟨rfl, rfl⟩
set_option maxHeartbeats 400000 in
theorem FnGetArrayHead_far (kind : Int) (n : Int) (fm : Int) (A : Option Addr) (m cap : Nat) (cut : Bool) (w : World) (h : 2147483647 < m) (hm : m ≤ 9223372036854775807) : Calls Tryd.prog 4 #[.int .i64 kind, .int .u32 n, .int .u64 fm, .slice A m cap, .bool cut] w fun e w' => e = .returned (.bool true) ∧ Below w.heap.size w w' := by
  go_enter Tryd.func4, Tryd.ntmps4
  go_wp2
  go_ret
  exact ⟨rfl, Below.refl _ _⟩
theorem one_rb (w : World) (b : UInt8) : RB (w.alloc (.cells #[u8 b] 5)) (Lt (w.heap.size + 1)) (some ⟨w.heap.size, 0, none⟩) [b] :=
  reads_blk (S := Lt (w.heap.size + 1)) (t := 5) (cs := #[u8 b]) (Blk.new _ _ _) (Nat.lt_succ_self _) 1 1 rfl
set_option maxRecDepth 100000 in
set_option maxHeartbeats 1600000 in
theorem FnGetArrayHead_kind (kind : Int) (n : Int) (fm : Int) (A : Option Addr) (m cap : Nat) (cut : Bool) (w : World) (hE : ErrAt w) (hm : m ≤ 2147483647) (h1 : kind ≠ 8) (h2 : kind ≠ 9) (h3 : kind ≠ 7) (h4 : kind ≠ 6) :
    Calls Tryd.prog 4 #[.int .i64 kind, .int .u32 n, .int .u64 fm, .slice A m cap, .bool cut] w fun e w' => e = .returned (.bool true) ∧ Below w.heap.size w w' := by
  have k1 : (kind != 8) = true := by simpa using h1
  have k2 : (kind != 9) = true := by simpa using h2
  have k3 : (kind != 7) = true := by simpa using h3
  have k4 : (kind != 6) = true := by simpa using h4
  clear h1 h2 h3 h4
  have hG0 := getArr_any (Lt (w.heap.size + 1)) (some ⟨w.heap.size, 0, none⟩) [149] 1 1 (w.alloc (.cells #[.int .u8 149] 5)) (hE.on ((Below.refl _ _).alloc (Nat.le_refl _) _)) rfl (one_rb w 149) (Nat.le_refl _) (by omega) (fun b hb => by simp [Lt] at hb ⊢; omega) (by omega)
  rw [show arrH [149] = some (5, []) from rfl] at hG0
  have HG0 := hide hG0
  clear hG0
  go_enter Tryd.func4, Tryd.ntmps4
  go_wp2_with fail
  refine (unhide HG0).mono ?_
  rintro e w1 ⟨hb1, A1, n1, c1, rfl, _, _, _, _⟩
  have hw1 : Below w.heap.size w w1 := ((Below.refl w.heap.size w).alloc (Nat.le_refl _) _).trans (hb1.mono (by simp))
  have HW1 := hide hw1
  clear hw1 hb1 HG0
  go_wp2
  go_ret
  exact ⟨rfl, unhide HW1⟩
set_option maxRecDepth 100000 in
set_option maxHeartbeats 1600000 in
theorem FnGetArrayHead_many6 (n : Int) (fm : Int) (A : Option Addr) (m cap : Nat) (cut : Bool) (w : World) (hE : ErrAt w) (hm : m ≤ 2147483647) (h1 : 100 < m) :
    Calls Tryd.prog 4 #[.int .i64 6, .int .u32 n, .int .u64 fm, .slice A m cap, .bool cut] w fun e w' => e = .returned (.bool true) ∧ Below w.heap.size w w' := by
  have hG0 := getArr_any (Lt (w.heap.size + 1)) (some ⟨w.heap.size, 0, none⟩) [149] 1 1 (w.alloc (.cells #[.int .u8 149] 5)) (hE.on ((Below.refl _ _).alloc (Nat.le_refl _) _)) rfl (one_rb w 149) (Nat.le_refl _) (by omega) (fun b hb => by simp [Lt] at hb ⊢; omega) (by omega)
  rw [show arrH [149] = some (5, []) from rfl] at hG0
  have HG0 := hide hG0
  clear hG0
  go_enter Tryd.func4, Tryd.ntmps4
  go_wp2_with fail
  refine (unhide HG0).mono ?_
  rintro e w1 ⟨hb1, A1, n1, c1, rfl, _, _, _, _⟩
  have hw1 : Below w.heap.size w w1 := ((Below.refl w.heap.size w).alloc (Nat.le_refl _) _).trans (hb1.mono (by simp))
  have HW1 := hide hw1
  clear hw1 hb1 HG0
  go_wp2
  go_ret
  exact ⟨rfl, unhide HW1⟩
set_option maxRecDepth 100000 in
set_option maxHeartbeats 1600000 in
theorem FnGetArrayHead_many7 (n : Int) (fm : Int) (A : Option Addr) (m cap : Nat) (cut : Bool) (w : World) (hE : ErrAt w) (hm : m ≤ 2147483647) (h1 : 100 < m) :
    Calls Tryd.prog 4 #[.int .i64 7, .int .u32 n, .int .u64 fm, .slice A m cap, .bool cut] w fun e w' => e = .returned (.bool true) ∧ Below w.heap.size w w' := by
  have hG0 := getArr_any (Lt (w.heap.size + 1)) (some ⟨w.heap.size, 0, none⟩) [149] 1 1 (w.alloc (.cells #[.int .u8 149] 5)) (hE.on ((Below.refl _ _).alloc (Nat.le_refl _) _)) rfl (one_rb w 149) (Nat.le_refl _) (by omega) (fun b hb => by simp [Lt] at hb ⊢; omega) (by omega)
  rw [show arrH [149] = some (5, []) from rfl] at hG0
  have HG0 := hide hG0
  clear hG0
  go_enter Tryd.func4, Tryd.ntmps4
  go_wp2_with fail
  refine (unhide HG0).mono ?_
  rintro e w1 ⟨hb1, A1, n1, c1, rfl, _, _, _, _⟩
  have hw1 : Below w.heap.size w w1 := ((Below.refl w.heap.size w).alloc (Nat.le_refl _) _).trans (hb1.mono (by simp))
  have HW1 := hide hw1
  clear hw1 hb1 HG0
  go_wp2
  go_ret
  exact ⟨rfl, unhide HW1⟩
set_option maxRecDepth 100000 in
set_option maxHeartbeats 1600000 in
theorem FnGetArrayHead_many8 (n : Int) (fm : Int) (A : Option Addr) (m cap : Nat) (cut : Bool) (w : World) (hE : ErrAt w) (hm : m ≤ 2147483647) (h1 : 100 < m) :
    Calls Tryd.prog 4 #[.int .i64 8, .int .u32 n, .int .u64 fm, .slice A m cap, .bool cut] w fun e w' => e = .returned (.bool true) ∧ Below w.heap.size w w' := by
  have hG0 := getArr_any (Lt (w.heap.size + 1)) (some ⟨w.heap.size, 0, none⟩) [149] 1 1 (w.alloc (.cells #[.int .u8 149] 5)) (hE.on ((Below.refl _ _).alloc (Nat.le_refl _) _)) rfl (one_rb w 149) (Nat.le_refl _) (by omega) (fun b hb => by simp [Lt] at hb ⊢; omega) (by omega)
  rw [show arrH [149] = some (5, []) from rfl] at hG0
  have HG0 := hide hG0
  clear hG0
  go_enter Tryd.func4, Tryd.ntmps4
  go_wp2_with fail
  refine (unhide HG0).mono ?_
  rintro e w1 ⟨hb1, A1, n1, c1, rfl, _, _, _, _⟩
  have hw1 : Below w.heap.size w w1 := ((Below.refl w.heap.size w).alloc (Nat.le_refl _) _).trans (hb1.mono (by simp))
  have HW1 := hide hw1
  clear hw1 hb1 HG0
  go_wp2
  go_ret
  exact ⟨rfl, unhide HW1⟩
set_option maxRecDepth 100000 in
set_option maxHeartbeats 1600000 in
theorem FnGetArrayHead_many9 (n : Int) (fm : Int) (A : Option Addr) (m cap : Nat) (cut : Bool) (w : World) (hE : ErrAt w) (hm : m ≤ 2147483647) (h1 : 100 < m) :
    Calls Tryd.prog 4 #[.int .i64 9, .int .u32 n, .int .u64 fm, .slice A m cap, .bool cut] w fun e w' => e = .returned (.bool true) ∧ Below w.heap.size w w' := by
  have hG0 := getArr_any (Lt (w.heap.size + 1)) (some ⟨w.heap.size, 0, none⟩) [149] 1 1 (w.alloc (.cells #[.int .u8 149] 5)) (hE.on ((Below.refl _ _).alloc (Nat.le_refl _) _)) rfl (one_rb w 149) (Nat.le_refl _) (by omega) (fun b hb => by simp [Lt] at hb ⊢; omega) (by omega)
  rw [show arrH [149] = some (5, []) from rfl] at hG0
  have HG0 := hide hG0
  clear hG0
  go_enter Tryd.func4, Tryd.ntmps4
  go_wp2_with fail
  refine (unhide HG0).mono ?_
  rintro e w1 ⟨hb1, A1, n1, c1, rfl, _, _, _, _⟩
  have hw1 : Below w.heap.size w w1 := ((Below.refl w.heap.size w).alloc (Nat.le_refl _) _).trans (hb1.mono (by simp))
  have HW1 := hide hw1
  clear hw1 hb1 HG0
  go_wp2
  go_ret
  exact ⟨rfl, unhide HW1⟩
set_option maxRecDepth 100000 in
set_option maxHeartbeats 3200000 in
theorem FnGetArrayHead_cut6 (n : Nat) (fm : Nat) (A : Option Addr) (m cap : Nat) (w : World) (hE : ErrAt w) (hm : m ≤ 100) (hn : n < 4294967296) (hfm : fm < 18446744073709551616) :
    Calls Tryd.prog 4 #[.int .i64 6, .int .u32 n, .int .u64 fm, .slice A m cap, .bool true] w fun e w' => e = .returned (.bool true) ∧ Below w.heap.size w w' := by
  have hG0 := getArr_any (Lt (w.heap.size + 1)) (some ⟨w.heap.size, 0, none⟩) [149] 1 1 (w.alloc (.cells #[.int .u8 149] 5)) (hE.on ((Below.refl _ _).alloc (Nat.le_refl _) _)) rfl (one_rb w 149) (Nat.le_refl _) (by omega) (fun b hb => by simp [Lt] at hb ⊢; omega) (by omega)
  rw [show arrH [149] = some (5, []) from rfl] at hG0
  have HG0 := hide hG0
  clear hG0
  go_enter Tryd.func4, Tryd.ntmps4
  go_wp2_with fail
  refine (unhide HG0).mono ?_
  rintro e w1 ⟨hb1, A1, n1, c1, rfl, _, _, _, _⟩
  have hw1 : Below w.heap.size w w1 := ((Below.refl w.heap.size w).alloc (Nat.le_refl _) _).trans (hb1.mono (by simp))
  have HW1 := hide hw1
  clear hw1 hb1 HG0
  go_wp2_with fail
  refine (putHead_6 w1.heap.size n (w1.alloc (.cells #[.int .u64 fm, .bool false] 41)) ⟨fm, false, hfm, Blk.new _ _ _⟩ hn).mono ?_
  rintro e w2 ⟨v, bs, hbs, rfl, hown, hg2, hF2⟩
  have hw2 : Below w.heap.size w w2 := ((unhide HW1).alloc (unhide HW1).size _).grown hg2 (by simp; exact Nat.le_succ_of_le (unhide HW1).size) (fun k hk => by injection hk with hk; subst hk; exact (unhide HW1).size)
  obtain ⟨A2, c2, rfl, hc2, hcm2, hr2⟩ := own_slice hown
  unfold maxLen at hcm2
  have hpl := head_not6 n bs hbs []
  have hl1 := hpl.2.2.1
  have hl9 := hpl.2.2.2
  have htk : RB w2 (fun b => b < w2.heap.size) A2 (bs.take (bs.length - 1)) := RB.take (RB.sub (S := fun b => (w1.alloc (.cells #[.int .u64 fm, .bool false] 41)).heap.size ≤ b ∧ b < w2.heap.size) hr2 (fun b hb => hb.2)) (by omega)
  have hG := getArr_any (fun b => b < w2.heap.size) A2 (bs.take (bs.length - 1)) (bs.length - 1) c2 w2 (hE.on hw2) (by rw [List.length_take]; omega) htk (by omega) (by omega) (fun b hb => hb) (by omega)
  rw [hpl.2.1] at hG
  have e1 : (bs.length : Int) - 1 = ((bs.length - 1 : Nat) : Int) := by omega
  have hc3 : bs.length - 1 ≤ c2 := by omega
  generalize bs.length - 1 = q at *
  have HG := hide hG
  have HW2 := hide hw2
  clear hG hw2 hown hr2 htk hpl hbs hg2 hF2
  go_wp2_with fail
  refine (unhide HG).mono ?_
  rintro e w3 ⟨hb3, rfl⟩
  have hw3 := (unhide HW2).trans (hb3.mono (unhide HW2).size)
  have HW3 := hide hw3
  clear hb3 hw3
  go_wp2
  go_ret
  exact ⟨rfl, unhide HW3⟩
set_option maxRecDepth 100000 in
set_option maxHeartbeats 3200000 in
theorem FnGetArrayHead_all6 (n : Nat) (fm : Nat) (A : Option Addr) (zs : List UInt8) (m cap : Nat) (w : World) (hE : ErrAt w) (hmz : m = zs.length) (hm : m ≤ 100) (hrz : RB w (Lt w.heap.size) A zs) (hn : n < 4294967296) (hfm : fm < 18446744073709551616) :
    Calls Tryd.prog 4 #[.int .i64 6, .int .u32 n, .int .u64 fm, .slice A m cap, .bool false] w fun e w' => e = .returned (.bool true) ∧ Below w.heap.size w w' := by
  have HMZ := hide hmz
  have HRZ0 := hide hrz
  clear hmz hrz
  have hG0 := getArr_any (Lt (w.heap.size + 1)) (some ⟨w.heap.size, 0, none⟩) [149] 1 1 (w.alloc (.cells #[.int .u8 149] 5)) (hE.on ((Below.refl _ _).alloc (Nat.le_refl _) _)) rfl (one_rb w 149) (Nat.le_refl _) (by omega) (fun b hb => by simp [Lt] at hb ⊢; omega) (by omega)
  rw [show arrH [149] = some (5, []) from rfl] at hG0
  have HG0 := hide hG0
  clear hG0
  go_enter Tryd.func4, Tryd.ntmps4
  go_wp2_with fail
  refine (unhide HG0).mono ?_
  rintro e w1 ⟨hb1, A1, n1, c1, rfl, _, _, _, _⟩
  have hw1 : Below w.heap.size w w1 := ((Below.refl w.heap.size w).alloc (Nat.le_refl _) _).trans (hb1.mono (by simp))
  have HW1 := hide hw1
  clear hw1 hb1 HG0
  go_wp2_with fail
  refine (putHead_6 w1.heap.size n (w1.alloc (.cells #[.int .u64 fm, .bool false] 41)) ⟨fm, false, hfm, Blk.new _ _ _⟩ hn).mono ?_
  rintro e w2 ⟨v, bs, hbs, rfl, hown, hg2, hF2⟩
  have hw2 : Below w.heap.size w w2 := ((unhide HW1).alloc (unhide HW1).size _).grown hg2 (by simp; exact Nat.le_succ_of_le (unhide HW1).size) (fun k hk => by injection hk with hk; subst hk; exact (unhide HW1).size)
  obtain ⟨A2, c2, rfl, hc2, hcm2, hr2⟩ := own_slice hown
  unfold maxLen at hcm2
  have hpl := head_not6 n bs hbs zs
  have hl1 := hpl.2.2.1
  have hl9 := hpl.2.2.2
  have hz2 := hw2.size
  have hgl : w.heap.size ≤ w1.heap.size := (unhide HW1).size
  have hw1s : (w1.alloc (.cells #[.int .u64 fm, .bool false] 41)).heap.size = w1.heap.size + 1 := by simp
  rw [hw1s] at hown hr2
  have hbl := hide hg2.size
  have HOWN := hide hown
  have HW2 := hide hw2
  have HPL := hide hpl
  have HRZ := hide (((unhide HRZ0).below hw2).sub (T := Lt w2.heap.size) (fun b hb => Nat.lt_of_lt_of_le hb hz2))
  have hbase : w1.heap.size + 1 ≤ w2.heap.size := by have := unhide hbl; simpa using this
  clear hown hw2 hpl hr2 hg2 hF2 hbs hw1s hl1
  go_wp2_with (at_builtin; obtain ⟨i0, hi0, hz0, hz1', hz2'⟩ := info_parts infoB; go_loud (refine wpList_append_any (S := Lt w2.heap.size) _ rfl _ _ _ rfl (w1.heap.size + 1) 5 i0 _ 1 1 Tryd.underlying26 hi0 hz0 hz1' hz2' ?x1 ?x2 (.slice A2 bs.length c2) bs.length (bs.map u8) ?x3 ?x8 A m cap (zs.map u8) ?x4 ?x5 (u8_one zs) ?c3 ?x7 ?c4 ?_; (case x1 => rfl); (case x2 => omega); (case x3 => rfl); (case x4 => rfl); (case x5 => rw [unhide HMZ]; exact unhide HRZ); (case x7 => omega); (case x8 => exact unhide HOWN); (case c3 => unfold maxLen; omega); (case c4 => omega); clear hi0 hz0 hz1' hz2'; intro v3 w3 hown3 hgrow hat; have hw3 : Below w.heap.size w w3 := (unhide HW2).grown hgrow hz2 (fun k hk => by have h := (own_ge' (unhide HOWN) _ hk).1; omega); obtain ⟨A3, c3, rfl, hc3, hcm3, hr3⟩ := own_slice hown3; have HR3 := hide hr3; have HW3 := hide hw3; clear hown3 hgrow hat hr3 hw3))
  have hw3 := unhide HW3
  have hrb3 : RB w3 (fun b => b < w3.heap.size) A3 (bs ++ zs) := by
    have h := (unhide HR3).sub (T := fun b => b < w3.heap.size) (fun b hb => hb.2)
    unfold RB
    rw [List.length_append, List.map_append, ← unhide HMZ]
    exact h
  unfold maxLen at hcm3
  have hG := getArr_any (fun b => b < w3.heap.size) A3 (bs ++ zs) (bs.length + m) c3 w3 (hE.on hw3) (by rw [List.length_append, unhide HMZ]) hrb3 hc3 (by omega) (fun b hb => hb) (by omega)
  rw [(unhide HPL).1] at hG
  have HG := hide hG
  clear hG hrb3 hw3
  go_wp2_with fail
  refine (unhide HG).mono ?_
  rintro e w4 ⟨hb4, rfl⟩
  have hw4 := (unhide HW3).trans (hb4.mono (unhide HW3).size)
  have HW4 := hide hw4
  clear hb4 hw4
  go_wp2
  go_ret
  exact ⟨rfl, unhide HW4⟩
set_option maxRecDepth 100000 in
set_option maxHeartbeats 3200000 in
theorem FnGetArrayHead_cut7 (n : Nat) (fm : Nat) (A : Option Addr) (m cap : Nat) (w : World) (hE : ErrAt w) (hm : m ≤ 100) (hn : n < 4294967296) (hfm : fm < 18446744073709551616) :
    Calls Tryd.prog 4 #[.int .i64 7, .int .u32 n, .int .u64 fm, .slice A m cap, .bool true] w fun e w' => e = .returned (.bool true) ∧ Below w.heap.size w w' := by
  have hG0 := getArr_any (Lt (w.heap.size + 1)) (some ⟨w.heap.size, 0, none⟩) [149] 1 1 (w.alloc (.cells #[.int .u8 149] 5)) (hE.on ((Below.refl _ _).alloc (Nat.le_refl _) _)) rfl (one_rb w 149) (Nat.le_refl _) (by omega) (fun b hb => by simp [Lt] at hb ⊢; omega) (by omega)
  rw [show arrH [149] = some (5, []) from rfl] at hG0
  have HG0 := hide hG0
  clear hG0
  go_enter Tryd.func4, Tryd.ntmps4
  go_wp2_with fail
  refine (unhide HG0).mono ?_
  rintro e w1 ⟨hb1, A1, n1, c1, rfl, _, _, _, _⟩
  have hw1 : Below w.heap.size w w1 := ((Below.refl w.heap.size w).alloc (Nat.le_refl _) _).trans (hb1.mono (by simp))
  have HW1 := hide hw1
  clear hw1 hb1 HG0
  go_wp2_with fail
  refine (putHead_7 w1.heap.size n (w1.alloc (.cells #[.int .u64 fm, .bool false] 41)) ⟨fm, false, hfm, Blk.new _ _ _⟩ hn).mono ?_
  rintro e w2 ⟨v, bs, hbs, rfl, hown, hg2, hF2⟩
  have hw2 : Below w.heap.size w w2 := ((unhide HW1).alloc (unhide HW1).size _).grown hg2 (by simp; exact Nat.le_succ_of_le (unhide HW1).size) (fun k hk => by injection hk with hk; subst hk; exact (unhide HW1).size)
  obtain ⟨A2, c2, rfl, hc2, hcm2, hr2⟩ := own_slice hown
  unfold maxLen at hcm2
  have hpl := head_not7 n bs hbs []
  have hl1 := hpl.2.2.1
  have hl9 := hpl.2.2.2
  have htk : RB w2 (fun b => b < w2.heap.size) A2 (bs.take (bs.length - 1)) := RB.take (RB.sub (S := fun b => (w1.alloc (.cells #[.int .u64 fm, .bool false] 41)).heap.size ≤ b ∧ b < w2.heap.size) hr2 (fun b hb => hb.2)) (by omega)
  have hG := getArr_any (fun b => b < w2.heap.size) A2 (bs.take (bs.length - 1)) (bs.length - 1) c2 w2 (hE.on hw2) (by rw [List.length_take]; omega) htk (by omega) (by omega) (fun b hb => hb) (by omega)
  rw [hpl.2.1] at hG
  have e1 : (bs.length : Int) - 1 = ((bs.length - 1 : Nat) : Int) := by omega
  have hc3 : bs.length - 1 ≤ c2 := by omega
  generalize bs.length - 1 = q at *
  have HG := hide hG
  have HW2 := hide hw2
  clear hG hw2 hown hr2 htk hpl hbs hg2 hF2
  go_wp2_with fail
  refine (unhide HG).mono ?_
  rintro e w3 ⟨hb3, rfl⟩
  have hw3 := (unhide HW2).trans (hb3.mono (unhide HW2).size)
  have HW3 := hide hw3
  clear hb3 hw3
  go_wp2
  go_ret
  exact ⟨rfl, unhide HW3⟩
set_option maxRecDepth 100000 in
set_option maxHeartbeats 3200000 in
theorem FnGetArrayHead_all7 (n : Nat) (fm : Nat) (A : Option Addr) (zs : List UInt8) (m cap : Nat) (w : World) (hE : ErrAt w) (hmz : m = zs.length) (hm : m ≤ 100) (hrz : RB w (Lt w.heap.size) A zs) (hn : n < 4294967296) (hfm : fm < 18446744073709551616) :
    Calls Tryd.prog 4 #[.int .i64 7, .int .u32 n, .int .u64 fm, .slice A m cap, .bool false] w fun e w' => e = .returned (.bool true) ∧ Below w.heap.size w w' := by
  have HMZ := hide hmz
  have HRZ0 := hide hrz
  clear hmz hrz
  have hG0 := getArr_any (Lt (w.heap.size + 1)) (some ⟨w.heap.size, 0, none⟩) [149] 1 1 (w.alloc (.cells #[.int .u8 149] 5)) (hE.on ((Below.refl _ _).alloc (Nat.le_refl _) _)) rfl (one_rb w 149) (Nat.le_refl _) (by omega) (fun b hb => by simp [Lt] at hb ⊢; omega) (by omega)
  rw [show arrH [149] = some (5, []) from rfl] at hG0
  have HG0 := hide hG0
  clear hG0
  go_enter Tryd.func4, Tryd.ntmps4
  go_wp2_with fail
  refine (unhide HG0).mono ?_
  rintro e w1 ⟨hb1, A1, n1, c1, rfl, _, _, _, _⟩
  have hw1 : Below w.heap.size w w1 := ((Below.refl w.heap.size w).alloc (Nat.le_refl _) _).trans (hb1.mono (by simp))
  have HW1 := hide hw1
  clear hw1 hb1 HG0
  go_wp2_with fail
  refine (putHead_7 w1.heap.size n (w1.alloc (.cells #[.int .u64 fm, .bool false] 41)) ⟨fm, false, hfm, Blk.new _ _ _⟩ hn).mono ?_
  rintro e w2 ⟨v, bs, hbs, rfl, hown, hg2, hF2⟩
  have hw2 : Below w.heap.size w w2 := ((unhide HW1).alloc (unhide HW1).size _).grown hg2 (by simp; exact Nat.le_succ_of_le (unhide HW1).size) (fun k hk => by injection hk with hk; subst hk; exact (unhide HW1).size)
  obtain ⟨A2, c2, rfl, hc2, hcm2, hr2⟩ := own_slice hown
  unfold maxLen at hcm2
  have hpl := head_not7 n bs hbs zs
  have hl1 := hpl.2.2.1
  have hl9 := hpl.2.2.2
  have hz2 := hw2.size
  have hgl : w.heap.size ≤ w1.heap.size := (unhide HW1).size
  have hw1s : (w1.alloc (.cells #[.int .u64 fm, .bool false] 41)).heap.size = w1.heap.size + 1 := by simp
  rw [hw1s] at hown hr2
  have hbl := hide hg2.size
  have HOWN := hide hown
  have HW2 := hide hw2
  have HPL := hide hpl
  have HRZ := hide (((unhide HRZ0).below hw2).sub (T := Lt w2.heap.size) (fun b hb => Nat.lt_of_lt_of_le hb hz2))
  have hbase : w1.heap.size + 1 ≤ w2.heap.size := by have := unhide hbl; simpa using this
  clear hown hw2 hpl hr2 hg2 hF2 hbs hw1s hl1
  go_wp2_with (at_builtin; obtain ⟨i0, hi0, hz0, hz1', hz2'⟩ := info_parts infoB; go_loud (refine wpList_append_any (S := Lt w2.heap.size) _ rfl _ _ _ rfl (w1.heap.size + 1) 5 i0 _ 1 1 Tryd.underlying26 hi0 hz0 hz1' hz2' ?x1 ?x2 (.slice A2 bs.length c2) bs.length (bs.map u8) ?x3 ?x8 A m cap (zs.map u8) ?x4 ?x5 (u8_one zs) ?c3 ?x7 ?c4 ?_; (case x1 => rfl); (case x2 => omega); (case x3 => rfl); (case x4 => rfl); (case x5 => rw [unhide HMZ]; exact unhide HRZ); (case x7 => omega); (case x8 => exact unhide HOWN); (case c3 => unfold maxLen; omega); (case c4 => omega); clear hi0 hz0 hz1' hz2'; intro v3 w3 hown3 hgrow hat; have hw3 : Below w.heap.size w w3 := (unhide HW2).grown hgrow hz2 (fun k hk => by have h := (own_ge' (unhide HOWN) _ hk).1; omega); obtain ⟨A3, c3, rfl, hc3, hcm3, hr3⟩ := own_slice hown3; have HR3 := hide hr3; have HW3 := hide hw3; clear hown3 hgrow hat hr3 hw3))
  have hw3 := unhide HW3
  have hrb3 : RB w3 (fun b => b < w3.heap.size) A3 (bs ++ zs) := by
    have h := (unhide HR3).sub (T := fun b => b < w3.heap.size) (fun b hb => hb.2)
    unfold RB
    rw [List.length_append, List.map_append, ← unhide HMZ]
    exact h
  unfold maxLen at hcm3
  have hG := getArr_any (fun b => b < w3.heap.size) A3 (bs ++ zs) (bs.length + m) c3 w3 (hE.on hw3) (by rw [List.length_append, unhide HMZ]) hrb3 hc3 (by omega) (fun b hb => hb) (by omega)
  rw [(unhide HPL).1] at hG
  have HG := hide hG
  clear hG hrb3 hw3
  go_wp2_with fail
  refine (unhide HG).mono ?_
  rintro e w4 ⟨hb4, rfl⟩
  have hw4 := (unhide HW3).trans (hb4.mono (unhide HW3).size)
  have HW4 := hide hw4
  clear hb4 hw4
  go_wp2
  go_ret
  exact ⟨rfl, unhide HW4⟩
set_option maxRecDepth 100000 in
set_option maxHeartbeats 3200000 in
theorem FnGetArrayHead_cut8 (n : Nat) (fm : Nat) (A : Option Addr) (m cap : Nat) (w : World) (hE : ErrAt w) (hm : m ≤ 100) (hn : n < 4294967296) (hfm : fm < 18446744073709551616) :
    Calls Tryd.prog 4 #[.int .i64 8, .int .u32 n, .int .u64 fm, .slice A m cap, .bool true] w fun e w' => e = .returned (.bool true) ∧ Below w.heap.size w w' := by
  have hG0 := getArr_any (Lt (w.heap.size + 1)) (some ⟨w.heap.size, 0, none⟩) [149] 1 1 (w.alloc (.cells #[.int .u8 149] 5)) (hE.on ((Below.refl _ _).alloc (Nat.le_refl _) _)) rfl (one_rb w 149) (Nat.le_refl _) (by omega) (fun b hb => by simp [Lt] at hb ⊢; omega) (by omega)
  rw [show arrH [149] = some (5, []) from rfl] at hG0
  have HG0 := hide hG0
  clear hG0
  go_enter Tryd.func4, Tryd.ntmps4
  go_wp2_with fail
  refine (unhide HG0).mono ?_
  rintro e w1 ⟨hb1, A1, n1, c1, rfl, _, _, _, _⟩
  have hw1 : Below w.heap.size w w1 := ((Below.refl w.heap.size w).alloc (Nat.le_refl _) _).trans (hb1.mono (by simp))
  have HW1 := hide hw1
  clear hw1 hb1 HG0
  go_wp2_with fail
  refine (putHead_8 w1.heap.size n (w1.alloc (.cells #[.int .u64 fm, .bool false] 41)) ⟨fm, false, hfm, Blk.new _ _ _⟩ hn).mono ?_
  rintro e w2 ⟨v, bs, hbs, rfl, hown, hg2, hF2⟩
  have hw2 : Below w.heap.size w w2 := ((unhide HW1).alloc (unhide HW1).size _).grown hg2 (by simp; exact Nat.le_succ_of_le (unhide HW1).size) (fun k hk => by injection hk with hk; subst hk; exact (unhide HW1).size)
  obtain ⟨A2, c2, rfl, hc2, hcm2, hr2⟩ := own_slice hown
  unfold maxLen at hcm2
  have hpl := head_arr n hn bs hbs []
  have hl1 := hpl.2.2.1
  have hl9 := hpl.2.2.2
  have htk : RB w2 (fun b => b < w2.heap.size) A2 (bs.take (bs.length - 1)) := RB.take (RB.sub (S := fun b => (w1.alloc (.cells #[.int .u64 fm, .bool false] 41)).heap.size ≤ b ∧ b < w2.heap.size) hr2 (fun b hb => hb.2)) (by omega)
  have hG := getArr_any (fun b => b < w2.heap.size) A2 (bs.take (bs.length - 1)) (bs.length - 1) c2 w2 (hE.on hw2) (by rw [List.length_take]; omega) htk (by omega) (by omega) (fun b hb => hb) (by omega)
  rw [hpl.2.1] at hG
  have e1 : (bs.length : Int) - 1 = ((bs.length - 1 : Nat) : Int) := by omega
  have hc3 : bs.length - 1 ≤ c2 := by omega
  generalize bs.length - 1 = q at *
  have HG := hide hG
  have HW2 := hide hw2
  clear hG hw2 hown hr2 htk hpl hbs hg2 hF2
  go_wp2_with fail
  refine (unhide HG).mono ?_
  rintro e w3 ⟨hb3, rfl⟩
  have hw3 := (unhide HW2).trans (hb3.mono (unhide HW2).size)
  have HW3 := hide hw3
  clear hb3 hw3
  go_wp2
  go_ret
  exact ⟨rfl, unhide HW3⟩
set_option maxRecDepth 100000 in
set_option maxHeartbeats 3200000 in
theorem FnGetArrayHead_all8 (n : Nat) (fm : Nat) (A : Option Addr) (zs : List UInt8) (m cap : Nat) (w : World) (hE : ErrAt w) (hmz : m = zs.length) (hm : m ≤ 100) (hrz : RB w (Lt w.heap.size) A zs) (hn : n < 4294967296) (hfm : fm < 18446744073709551616) :
    Calls Tryd.prog 4 #[.int .i64 8, .int .u32 n, .int .u64 fm, .slice A m cap, .bool false] w fun e w' => e = .returned (.bool true) ∧ Below w.heap.size w w' := by
  have HMZ := hide hmz
  have HRZ0 := hide hrz
  clear hmz hrz
  have hG0 := getArr_any (Lt (w.heap.size + 1)) (some ⟨w.heap.size, 0, none⟩) [149] 1 1 (w.alloc (.cells #[.int .u8 149] 5)) (hE.on ((Below.refl _ _).alloc (Nat.le_refl _) _)) rfl (one_rb w 149) (Nat.le_refl _) (by omega) (fun b hb => by simp [Lt] at hb ⊢; omega) (by omega)
  rw [show arrH [149] = some (5, []) from rfl] at hG0
  have HG0 := hide hG0
  clear hG0
  go_enter Tryd.func4, Tryd.ntmps4
  go_wp2_with fail
  refine (unhide HG0).mono ?_
  rintro e w1 ⟨hb1, A1, n1, c1, rfl, _, _, _, _⟩
  have hw1 : Below w.heap.size w w1 := ((Below.refl w.heap.size w).alloc (Nat.le_refl _) _).trans (hb1.mono (by simp))
  have HW1 := hide hw1
  clear hw1 hb1 HG0
  go_wp2_with fail
  refine (putHead_8 w1.heap.size n (w1.alloc (.cells #[.int .u64 fm, .bool false] 41)) ⟨fm, false, hfm, Blk.new _ _ _⟩ hn).mono ?_
  rintro e w2 ⟨v, bs, hbs, rfl, hown, hg2, hF2⟩
  have hw2 : Below w.heap.size w w2 := ((unhide HW1).alloc (unhide HW1).size _).grown hg2 (by simp; exact Nat.le_succ_of_le (unhide HW1).size) (fun k hk => by injection hk with hk; subst hk; exact (unhide HW1).size)
  obtain ⟨A2, c2, rfl, hc2, hcm2, hr2⟩ := own_slice hown
  unfold maxLen at hcm2
  have hpl := head_arr n hn bs hbs zs
  have hl1 := hpl.2.2.1
  have hl9 := hpl.2.2.2
  have hz2 := hw2.size
  have hgl : w.heap.size ≤ w1.heap.size := (unhide HW1).size
  have hw1s : (w1.alloc (.cells #[.int .u64 fm, .bool false] 41)).heap.size = w1.heap.size + 1 := by simp
  rw [hw1s] at hown hr2
  have hbl := hide hg2.size
  have HOWN := hide hown
  have HW2 := hide hw2
  have HPL := hide hpl
  have HRZ := hide (((unhide HRZ0).below hw2).sub (T := Lt w2.heap.size) (fun b hb => Nat.lt_of_lt_of_le hb hz2))
  have hbase : w1.heap.size + 1 ≤ w2.heap.size := by have := unhide hbl; simpa using this
  clear hown hw2 hpl hr2 hg2 hF2 hbs hw1s hl1
  go_wp2_with (at_builtin; obtain ⟨i0, hi0, hz0, hz1', hz2'⟩ := info_parts infoB; go_loud (refine wpList_append_any (S := Lt w2.heap.size) _ rfl _ _ _ rfl (w1.heap.size + 1) 5 i0 _ 1 1 Tryd.underlying26 hi0 hz0 hz1' hz2' ?x1 ?x2 (.slice A2 bs.length c2) bs.length (bs.map u8) ?x3 ?x8 A m cap (zs.map u8) ?x4 ?x5 (u8_one zs) ?c3 ?x7 ?c4 ?_; (case x1 => rfl); (case x2 => omega); (case x3 => rfl); (case x4 => rfl); (case x5 => rw [unhide HMZ]; exact unhide HRZ); (case x7 => omega); (case x8 => exact unhide HOWN); (case c3 => unfold maxLen; omega); (case c4 => omega); clear hi0 hz0 hz1' hz2'; intro v3 w3 hown3 hgrow hat; have hw3 : Below w.heap.size w w3 := (unhide HW2).grown hgrow hz2 (fun k hk => by have h := (own_ge' (unhide HOWN) _ hk).1; omega); obtain ⟨A3, c3, rfl, hc3, hcm3, hr3⟩ := own_slice hown3; have HR3 := hide hr3; have HW3 := hide hw3; clear hown3 hgrow hat hr3 hw3))
  have hw3 := unhide HW3
  have hrb3 : RB w3 (fun b => b < w3.heap.size) A3 (bs ++ zs) := by
    have h := (unhide HR3).sub (T := fun b => b < w3.heap.size) (fun b hb => hb.2)
    unfold RB
    rw [List.length_append, List.map_append, ← unhide HMZ]
    exact h
  unfold maxLen at hcm3
  have hG := getArr_any (fun b => b < w3.heap.size) A3 (bs ++ zs) (bs.length + m) c3 w3 (hE.on hw3) (by rw [List.length_append, unhide HMZ]) hrb3 hc3 (by omega) (fun b hb => hb) (by omega)
  rw [(unhide HPL).1] at hG
  have HG := hide hG
  clear hG hrb3 hw3
  go_wp2_with fail
  refine (unhide HG).mono ?_
  rintro e w4 ⟨hb4, A4, n4, c4, rfl, hn4, hc4, hcm4, hr4⟩
  have hw4 := (unhide HW3).trans (hb4.mono (unhide HW3).size)
  have HLS := hide (left_same (Made w3 w4) (Lt w.heap.size) A4 A zs n4 m c4 cap w4 hn4 (unhide HMZ) hr4 ((unhide HRZ0).below hw4))
  have HW4 := hide hw4
  clear hb4 hw4 hr4 hn4
  go_wp2_with fail
  refine (unhide HLS).mono ?_
  rintro e w5 ⟨rfl, rfl⟩
  go_wp2
  go_ret
  exact ⟨rfl, unhide HW4⟩
set_option maxRecDepth 100000 in
set_option maxHeartbeats 3200000 in
theorem FnGetArrayHead_cut9 (n : Nat) (fm : Nat) (A : Option Addr) (m cap : Nat) (w : World) (hE : ErrAt w) (hm : m ≤ 100) (hn : n < 4294967296) (hfm : fm < 18446744073709551616) :
    Calls Tryd.prog 4 #[.int .i64 9, .int .u32 n, .int .u64 fm, .slice A m cap, .bool true] w fun e w' => e = .returned (.bool true) ∧ Below w.heap.size w w' := by
  have hG0 := getArr_any (Lt (w.heap.size + 1)) (some ⟨w.heap.size, 0, none⟩) [149] 1 1 (w.alloc (.cells #[.int .u8 149] 5)) (hE.on ((Below.refl _ _).alloc (Nat.le_refl _) _)) rfl (one_rb w 149) (Nat.le_refl _) (by omega) (fun b hb => by simp [Lt] at hb ⊢; omega) (by omega)
  rw [show arrH [149] = some (5, []) from rfl] at hG0
  have HG0 := hide hG0
  clear hG0
  go_enter Tryd.func4, Tryd.ntmps4
  go_wp2_with fail
  refine (unhide HG0).mono ?_
  rintro e w1 ⟨hb1, A1, n1, c1, rfl, _, _, _, _⟩
  have hw1 : Below w.heap.size w w1 := ((Below.refl w.heap.size w).alloc (Nat.le_refl _) _).trans (hb1.mono (by simp))
  have HW1 := hide hw1
  clear hw1 hb1 HG0
  go_wp2_with fail
  refine (putHead_9 w1.heap.size n (w1.alloc (.cells #[.int .u64 fm, .bool false] 41)) ⟨fm, false, hfm, Blk.new _ _ _⟩ hn).mono ?_
  rintro e w2 ⟨v, bs, hbs, rfl, hown, hg2, hF2⟩
  have hw2 : Below w.heap.size w w2 := ((unhide HW1).alloc (unhide HW1).size _).grown hg2 (by simp; exact Nat.le_succ_of_le (unhide HW1).size) (fun k hk => by injection hk with hk; subst hk; exact (unhide HW1).size)
  obtain ⟨A2, c2, rfl, hc2, hcm2, hr2⟩ := own_slice hown
  unfold maxLen at hcm2
  have hpl := head_not9 n bs hbs []
  have hl1 := hpl.2.2.1
  have hl9 := hpl.2.2.2
  have htk : RB w2 (fun b => b < w2.heap.size) A2 (bs.take (bs.length - 1)) := RB.take (RB.sub (S := fun b => (w1.alloc (.cells #[.int .u64 fm, .bool false] 41)).heap.size ≤ b ∧ b < w2.heap.size) hr2 (fun b hb => hb.2)) (by omega)
  have hG := getArr_any (fun b => b < w2.heap.size) A2 (bs.take (bs.length - 1)) (bs.length - 1) c2 w2 (hE.on hw2) (by rw [List.length_take]; omega) htk (by omega) (by omega) (fun b hb => hb) (by omega)
  rw [hpl.2.1] at hG
  have e1 : (bs.length : Int) - 1 = ((bs.length - 1 : Nat) : Int) := by omega
  have hc3 : bs.length - 1 ≤ c2 := by omega
  generalize bs.length - 1 = q at *
  have HG := hide hG
  have HW2 := hide hw2
  clear hG hw2 hown hr2 htk hpl hbs hg2 hF2
  go_wp2_with fail
  refine (unhide HG).mono ?_
  rintro e w3 ⟨hb3, rfl⟩
  have hw3 := (unhide HW2).trans (hb3.mono (unhide HW2).size)
  have HW3 := hide hw3
  clear hb3 hw3
  go_wp2
  go_ret
  exact ⟨rfl, unhide HW3⟩
set_option maxRecDepth 100000 in
set_option maxHeartbeats 3200000 in
theorem FnGetArrayHead_all9 (n : Nat) (fm : Nat) (A : Option Addr) (zs : List UInt8) (m cap : Nat) (w : World) (hE : ErrAt w) (hmz : m = zs.length) (hm : m ≤ 100) (hrz : RB w (Lt w.heap.size) A zs) (hn : n < 4294967296) (hfm : fm < 18446744073709551616) :
    Calls Tryd.prog 4 #[.int .i64 9, .int .u32 n, .int .u64 fm, .slice A m cap, .bool false] w fun e w' => e = .returned (.bool true) ∧ Below w.heap.size w w' := by
  have HMZ := hide hmz
  have HRZ0 := hide hrz
  clear hmz hrz
  have hG0 := getArr_any (Lt (w.heap.size + 1)) (some ⟨w.heap.size, 0, none⟩) [149] 1 1 (w.alloc (.cells #[.int .u8 149] 5)) (hE.on ((Below.refl _ _).alloc (Nat.le_refl _) _)) rfl (one_rb w 149) (Nat.le_refl _) (by omega) (fun b hb => by simp [Lt] at hb ⊢; omega) (by omega)
  rw [show arrH [149] = some (5, []) from rfl] at hG0
  have HG0 := hide hG0
  clear hG0
  go_enter Tryd.func4, Tryd.ntmps4
  go_wp2_with fail
  refine (unhide HG0).mono ?_
  rintro e w1 ⟨hb1, A1, n1, c1, rfl, _, _, _, _⟩
  have hw1 : Below w.heap.size w w1 := ((Below.refl w.heap.size w).alloc (Nat.le_refl _) _).trans (hb1.mono (by simp))
  have HW1 := hide hw1
  clear hw1 hb1 HG0
  go_wp2_with fail
  refine (putHead_9 w1.heap.size n (w1.alloc (.cells #[.int .u64 fm, .bool false] 41)) ⟨fm, false, hfm, Blk.new _ _ _⟩ hn).mono ?_
  rintro e w2 ⟨v, bs, hbs, rfl, hown, hg2, hF2⟩
  have hw2 : Below w.heap.size w w2 := ((unhide HW1).alloc (unhide HW1).size _).grown hg2 (by simp; exact Nat.le_succ_of_le (unhide HW1).size) (fun k hk => by injection hk with hk; subst hk; exact (unhide HW1).size)
  obtain ⟨A2, c2, rfl, hc2, hcm2, hr2⟩ := own_slice hown
  unfold maxLen at hcm2
  have hpl := head_not9 n bs hbs zs
  have hl1 := hpl.2.2.1
  have hl9 := hpl.2.2.2
  have hz2 := hw2.size
  have hgl : w.heap.size ≤ w1.heap.size := (unhide HW1).size
  have hw1s : (w1.alloc (.cells #[.int .u64 fm, .bool false] 41)).heap.size = w1.heap.size + 1 := by simp
  rw [hw1s] at hown hr2
  have hbl := hide hg2.size
  have HOWN := hide hown
  have HW2 := hide hw2
  have HPL := hide hpl
  have HRZ := hide (((unhide HRZ0).below hw2).sub (T := Lt w2.heap.size) (fun b hb => Nat.lt_of_lt_of_le hb hz2))
  have hbase : w1.heap.size + 1 ≤ w2.heap.size := by have := unhide hbl; simpa using this
  clear hown hw2 hpl hr2 hg2 hF2 hbs hw1s hl1
  go_wp2_with (at_builtin; obtain ⟨i0, hi0, hz0, hz1', hz2'⟩ := info_parts infoB; go_loud (refine wpList_append_any (S := Lt w2.heap.size) _ rfl _ _ _ rfl (w1.heap.size + 1) 5 i0 _ 1 1 Tryd.underlying26 hi0 hz0 hz1' hz2' ?x1 ?x2 (.slice A2 bs.length c2) bs.length (bs.map u8) ?x3 ?x8 A m cap (zs.map u8) ?x4 ?x5 (u8_one zs) ?c3 ?x7 ?c4 ?_; (case x1 => rfl); (case x2 => omega); (case x3 => rfl); (case x4 => rfl); (case x5 => rw [unhide HMZ]; exact unhide HRZ); (case x7 => omega); (case x8 => exact unhide HOWN); (case c3 => unfold maxLen; omega); (case c4 => omega); clear hi0 hz0 hz1' hz2'; intro v3 w3 hown3 hgrow hat; have hw3 : Below w.heap.size w w3 := (unhide HW2).grown hgrow hz2 (fun k hk => by have h := (own_ge' (unhide HOWN) _ hk).1; omega); obtain ⟨A3, c3, rfl, hc3, hcm3, hr3⟩ := own_slice hown3; have HR3 := hide hr3; have HW3 := hide hw3; clear hown3 hgrow hat hr3 hw3))
  have hw3 := unhide HW3
  have hrb3 : RB w3 (fun b => b < w3.heap.size) A3 (bs ++ zs) := by
    have h := (unhide HR3).sub (T := fun b => b < w3.heap.size) (fun b hb => hb.2)
    unfold RB
    rw [List.length_append, List.map_append, ← unhide HMZ]
    exact h
  unfold maxLen at hcm3
  have hG := getArr_any (fun b => b < w3.heap.size) A3 (bs ++ zs) (bs.length + m) c3 w3 (hE.on hw3) (by rw [List.length_append, unhide HMZ]) hrb3 hc3 (by omega) (fun b hb => hb) (by omega)
  rw [(unhide HPL).1] at hG
  have HG := hide hG
  clear hG hrb3 hw3
  go_wp2_with fail
  refine (unhide HG).mono ?_
  rintro e w4 ⟨hb4, rfl⟩
  have hw4 := (unhide HW3).trans (hb4.mono (unhide HW3).size)
  have HW4 := hide hw4
  clear hb4 hw4
  go_wp2
  go_ret
  exact ⟨rfl, unhide HW4⟩
theorem FnGetArrayHead_walk (a0 a1 a2 : Int) (a3 : Option Addr) (len3 cap3 : Nat) (z3 : List Int) (a4 : Bool) (w : World) (hE : ErrAt w) (w0 : (Lit.int .i64 a0).wf = true) (w1 : (Lit.int .u32 a1).wf = true) (w2 : (Lit.int .u64 a2).wf = true) (w3 : RowIn .u8 w a3 len3 cap3 z3) :
    Calls Tryd.prog 4 #[.int .i64 a0, .int .u32 a1, .int .u64 a2, .slice a3 len3 cap3, .bool a4] w fun e w' => e = .returned (.bool true) ∧ Below w.heap.size w w' := by
  obtain ⟨bs, hl, hr, hc, hm⟩ := bytes_of_row w3
  have hx1 : 0 ≤ a1 ∧ a1 ≤ 4294967295 := by simpa [Lit.wf, IntKind.min, IntKind.max, IntKind.signed, IntKind.bits] using w1
  have hx2 : 0 ≤ a2 ∧ a2 ≤ 18446744073709551615 := by simpa [Lit.wf, IntKind.min, IntKind.max, IntKind.signed, IntKind.bits] using w2
  unfold maxLen at hm
  by_cases h1 : 2147483647 < len3
  · exact FnGetArrayHead_far a0 a1 a2 a3 len3 cap3 a4 w h1 (by omega)
  obtain ⟨n, rfl⟩ := Int.eq_ofNat_of_zero_le hx1.1
  obtain ⟨fm, rfl⟩ := Int.eq_ofNat_of_zero_le hx2.1
  have hn : n < 4294967296 := by omega
  have hf : fm < 18446744073709551616 := by omega
  by_cases k8 : a0 = 8
  · subst k8
    by_cases h2 : 100 < len3
    · exact FnGetArrayHead_many8 n fm a3 len3 cap3 a4 w hE (by omega) h2
    cases a4
    · exact FnGetArrayHead_all8 n fm a3 bs len3 cap3 w hE hl (by omega) hr hn hf
    · exact FnGetArrayHead_cut8 n fm a3 len3 cap3 w hE (by omega) hn hf
  by_cases k9 : a0 = 9
  · subst k9
    by_cases h2 : 100 < len3
    · exact FnGetArrayHead_many9 n fm a3 len3 cap3 a4 w hE (by omega) h2
    cases a4
    · exact FnGetArrayHead_all9 n fm a3 bs len3 cap3 w hE hl (by omega) hr hn hf
    · exact FnGetArrayHead_cut9 n fm a3 len3 cap3 w hE (by omega) hn hf
  by_cases k7 : a0 = 7
  · subst k7
    by_cases h2 : 100 < len3
    · exact FnGetArrayHead_many7 n fm a3 len3 cap3 a4 w hE (by omega) h2
    cases a4
    · exact FnGetArrayHead_all7 n fm a3 bs len3 cap3 w hE hl (by omega) hr hn hf
    · exact FnGetArrayHead_cut7 n fm a3 len3 cap3 w hE (by omega) hn hf
  by_cases k6 : a0 = 6
  · subst k6
    by_cases h2 : 100 < len3
    · exact FnGetArrayHead_many6 n fm a3 len3 cap3 a4 w hE (by omega) h2
    cases a4
    · exact FnGetArrayHead_all6 n fm a3 bs len3 cap3 w hE hl (by omega) hr hn hf
    · exact FnGetArrayHead_cut6 n fm a3 len3 cap3 w hE (by omega) hn hf
  exact FnGetArrayHead_kind a0 n fm a3 len3 cap3 a4 w hE (by omega) k8 k9 k7 k6
end Go.Proofs.YtpmcljjhjjmlfaaDoor
