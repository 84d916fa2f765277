/-
  The walk of the law FnGetArrayHead. Conditions: msgp.ErrShortBytes is not nil.
-/
import Derived.Test.YtlnpiigdjjadiaaDoorGGetSetByteg
import Derived.Test.YtlnpiigdjjadiaaDoorGGetSetBytee
import Derived.Test.YtlnpiigdjjadiaaDoorGGetSetBytea
namespace Go.Proofs.YtlnpiigdjjadiaaDoor
set_option linter.unusedSimpArgs false
set_option linter.unusedVariables false
open Go.RowKit
theorem bigU_beL2 (n : Nat) (h : n < 65536) : bigU (beL n 2) = n := by
  simp [bigU, beL]
  omega
theorem bigU_beL4 (n : Nat) (h : n < 4294967296) : bigU (beL n 4) = n := by
  simp [bigU, beL]
  omega
theorem arrH_cons (b : UInt8) (r : List UInt8) : arrH (b :: r) = if 144 ≤ b.toNat ∧ b.toNat < 160 then some (b.toNat % 16, r) else if b.toNat = 220 then (if r.length < 2 then none else some (bigU (r.take 2), r.drop 2))
    else if b.toNat = 221 then (if r.length < 4 then none else some (bigU (r.take 4), r.drop 4)) else none := rfl
theorem arrH_no (b : UInt8) (r : List UInt8) (h : ¬ (144 ≤ b.toNat ∧ b.toNat < 160)) (h1 : b.toNat ≠ 220) (h2 : b.toNat ≠ 221) : arrH (b :: r) = none := by
  rw [arrH_cons, if_neg h, if_neg h1, if_neg h2]
theorem head_arr (n : Nat) (hn : n < 4294967296) (bs : List UInt8) (h : HeadIs 8 n bs) (bh : List UInt8) : arrH (bs ++ bh) = some (n, bh) ∧ arrH (bs.take (bs.length - 1)) = none ∧ 0 < bs.length ∧ bs.length ≤ 9 := by
  unfold HeadIs at h
  simp only [Nat.reduceEqDiff, false_and, false_or, or_false, true_and] at h
  rcases h with ⟨_, hu, rfl⟩ | ⟨f, hf, _, hfit, rfl⟩
  · have e : (UInt8.ofNat ((144 : Int).toNat + n)).toNat = 144 + n := by
      simp
      omega
    refine ⟨?_, rfl, by simp, by simp⟩
    rw [List.singleton_append, arrH_cons, e, if_pos (by omega)]
    congr 2
    omega
  · simp only [List.mem_cons, List.not_mem_nil, or_false] at hf
    rcases hf with rfl | rfl
    · have hn2 : n < 65536 := by simpa using hfit
      refine ⟨?_, rfl, by simp, by simp [beL]⟩
      rw [List.cons_append, arrH_cons, show (UInt8.ofNat 220).toNat = 220 from rfl, if_neg (by omega), if_pos rfl]
      have hl : (beL n 2).length = 2 := rfl
      rw [if_neg (by rw [List.length_append, hl]; omega), List.take_left' hl, List.drop_left' hl, bigU_beL2 n hn2]
    · refine ⟨?_, rfl, by simp, by simp [beL]⟩
      rw [List.cons_append, arrH_cons, show (UInt8.ofNat 221).toNat = 221 from rfl, if_neg (by omega), if_neg (by omega), if_pos rfl]
      have hl : (beL n 4).length = 4 := rfl
      rw [if_neg (by rw [List.length_append, hl]; omega), List.take_left' hl, List.drop_left' hl, bigU_beL4 n hn]
theorem arrH_lead (b : UInt8) (r bh : List UInt8) (h : ¬ (144 ≤ b.toNat ∧ b.toNat < 160)) (h1 : b.toNat ≠ 220) (h2 : b.toNat ≠ 221) : arrH (b :: r ++ bh) = none ∧ arrH ((b :: r).take ((b :: r).length - 1)) = none := by
  refine ⟨arrH_no b _ h h1 h2, ?_⟩
  rcases r with _ | ⟨c, r⟩
  · rfl
  · exact arrH_no b _ h h1 h2
theorem head_not9 (n : Nat) (bs : List UInt8) (h : HeadIs 9 n bs) (bh : List UInt8) : arrH (bs ++ bh) = none ∧ arrH (bs.take (bs.length - 1)) = none ∧ 0 < bs.length ∧ bs.length ≤ 9 := by
  unfold HeadIs at h
  simp only [Nat.reduceEqDiff, false_and, false_or, or_false, true_and] at h
  rcases h with ⟨h0, hu, rfl⟩ | ⟨f, hf, _, hfit, rfl⟩
  · have e : (UInt8.ofNat ((128 : Int).toNat + n)).toNat = 128 + n := by
      simp
      omega
    have h := arrH_lead (UInt8.ofNat ((128 : Int).toNat + n)) [] bh (by rw [e]; omega) (by rw [e]; omega) (by rw [e]; omega)
    exact ⟨h.1, h.2, by simp, by simp⟩
  · simp only [List.mem_cons, List.not_mem_nil, or_false] at hf
    rcases hf with rfl | rfl
    · have h := arrH_lead (UInt8.ofNat 222) (beL n 2) bh (by decide) (by decide) (by decide)
      exact ⟨h.1, h.2, by simp, by simp [beL]⟩
    · have h := arrH_lead (UInt8.ofNat 223) (beL n 4) bh (by decide) (by decide) (by decide)
      exact ⟨h.1, h.2, by simp, by simp [beL]⟩
theorem head_not7 (n : Nat) (bs : List UInt8) (h : HeadIs 7 n bs) (bh : List UInt8) : arrH (bs ++ bh) = none ∧ arrH (bs.take (bs.length - 1)) = none ∧ 0 < bs.length ∧ bs.length ≤ 9 := by
  unfold HeadIs at h
  simp only [Nat.reduceEqDiff, false_and, false_or, or_false, true_and] at h
  rcases h with ⟨h0, hu, rfl⟩ | ⟨f, hf, _, hfit, rfl⟩
  · omega
  · simp only [List.mem_cons, List.not_mem_nil, or_false] at hf
    rcases hf with rfl | rfl | rfl
    · have h := arrH_lead (UInt8.ofNat 196) (beL n 1) bh (by decide) (by decide) (by decide)
      exact ⟨h.1, h.2, by simp, by simp [beL]⟩
    · have h := arrH_lead (UInt8.ofNat 197) (beL n 2) bh (by decide) (by decide) (by decide)
      exact ⟨h.1, h.2, by simp, by simp [beL]⟩
    · have h := arrH_lead (UInt8.ofNat 198) (beL n 4) bh (by decide) (by decide) (by decide)
      exact ⟨h.1, h.2, by simp, by simp [beL]⟩
theorem head_not6 (n : Nat) (bs : List UInt8) (h : HeadIs 6 n bs) (bh : List UInt8) : arrH (bs ++ bh) = none ∧ arrH (bs.take (bs.length - 1)) = none ∧ 0 < bs.length ∧ bs.length ≤ 9 := by
  unfold HeadIs at h
  simp only [Nat.reduceEqDiff, false_and, false_or, or_false, true_and] at h
  rcases h with ⟨h0, hu, rfl⟩ | ⟨f, hf, _, hfit, rfl⟩
  · have e : (UInt8.ofNat ((160 : Int).toNat + n)).toNat = 160 + n := by
      simp
      omega
    have h := arrH_lead (UInt8.ofNat ((160 : Int).toNat + n)) [] bh (by rw [e]; omega) (by rw [e]; omega) (by rw [e]; omega)
    exact ⟨h.1, h.2, by simp, by simp⟩
  · simp only [List.mem_cons, List.not_mem_nil, or_false] at hf
    rcases hf with rfl | rfl | rfl
    · have h := arrH_lead (UInt8.ofNat 217) (beL n 1) bh (by decide) (by decide) (by decide)
      exact ⟨h.1, h.2, by simp, by simp [beL]⟩
    · have h := arrH_lead (UInt8.ofNat 218) (beL n 2) bh (by decide) (by decide) (by decide)
      exact ⟨h.1, h.2, by simp, by simp [beL]⟩
    · have h := arrH_lead (UInt8.ofNat 219) (beL n 4) bh (by decide) (by decide) (by decide)
      exact ⟨h.1, h.2, by simp, by simp [beL]⟩
theorem left_same (S S' : Nat → Prop) (A B : Option Addr) (bs : List UInt8) (n m c c' : Nat) (w : World) (hn : n = bs.length) (hm : m = bs.length) (hr : RB w S A bs) (hr' : RB w S' B bs) :
    Calls Tryd.prog 12 #[.slice A n c, .slice B m c'] w fun e w' => e = .returned (.bool true) ∧ w = w' := by
  subst hn
  subst hm
  have c1 := run_string_of_bytes (P := Tryd.prog) 24 9 5 Tryd.underlying24 Tryd.underlying5 Tryd.underlying9 hr c
  have c2 := run_string_of_bytes (P := Tryd.prog) 24 9 5 Tryd.underlying24 Tryd.underlying5 Tryd.underlying9 hr' c'
  go_enter Tryd.func12, Tryd.ntmps12
  go_wp2
  go_ret
  exact ⟨rfl, rfl⟩
theorem one_rb (w : World) (b : UInt8) : RB (w.alloc (.cells #[u8 b] 5)) (Lt (w.heap.size + 1)) (some ⟨w.heap.size, 0, none⟩) [b] :=
  reads_blk (S := Lt (w.heap.size + 1)) (t := 5) (cs := #[u8 b]) (Blk.new _ _ _) (Nat.lt_succ_self _) 1 1 rfl
end Go.Proofs.YtlnpiigdjjadiaaDoor
