/-
  impl.NextType, laws.nextKind, the law FnNextType: its walk. No condition.
-/
import Derived.Test.YtpmcljjhjjmlfaaLead
import Derived.Test.YtpmcljjhjjmlfaaNext
import Derived.Test.YtpmcljjhjjmlfaaOpenG
namespace Go.Proofs.Ytpmcljjhjjmlfaa
set_option linter.unusedSimpArgs false
set_option linter.unusedVariables false
set_option linter.unusedVariables false
open Go.RowKit
def wantK (k e : Int) : Int :=
  if k = 0 then 10 else if k = 1 then 7 else if k = 4 then 6 else if k = 5 then 5 else if k = 6 then 1 else if k = 7 then 2 else if k = 8 then 4 else if k = 9 then 3 else
  if k = 10 then (if e = 3 ∨ e = 4 ∨ e = 5 ∨ e < 0 then 0 else 12) else 8
set_option maxHeartbeats 800000 in
theorem nextKind_0 (_ : Unit) (n : Int) (t : ByteArray) (e : Int) (K : Option Addr) (m kc : Nat) (w : World) : Calls Try.prog 7 #[.agg #[.int .i64 0, .int .u64 n, .string t, .int .i64 e, .slice K m kc]] w fun x w' => x = .returned (.int .i64 10) ∧ Below w.heap.size w w' := by
  go_enter Try.func7, Try.ntmps7
  go_wp2
  go_ret
  exact ⟨rfl, (by repeat (first | with_reducible exact Below.refl _ _ | with_reducible exact x | with_reducible refine Below.alloc ?_ (by first | omega | (simp; omega) | (simp; done)) _ | with_reducible refine Below.setCell ?_ (by first | omega | (simp; omega) | (simp; done)) _ | with_reducible refine Below.drew ?_ | with_reducible refine below_drewN ?_ _))⟩
set_option maxHeartbeats 800000 in
theorem nextKind_1 (_ : Unit) (n : Int) (t : ByteArray) (e : Int) (K : Option Addr) (m kc : Nat) (w : World) : Calls Try.prog 7 #[.agg #[.int .i64 1, .int .u64 n, .string t, .int .i64 e, .slice K m kc]] w fun x w' => x = .returned (.int .i64 7) ∧ Below w.heap.size w w' := by
  go_enter Try.func7, Try.ntmps7
  go_wp2
  go_ret
  exact ⟨rfl, (by repeat (first | with_reducible exact Below.refl _ _ | with_reducible exact x | with_reducible refine Below.alloc ?_ (by first | omega | (simp; omega) | (simp; done)) _ | with_reducible refine Below.setCell ?_ (by first | omega | (simp; omega) | (simp; done)) _ | with_reducible refine Below.drew ?_ | with_reducible refine below_drewN ?_ _))⟩
set_option maxHeartbeats 800000 in
theorem nextKind_4 (_ : Unit) (n : Int) (t : ByteArray) (e : Int) (K : Option Addr) (m kc : Nat) (w : World) : Calls Try.prog 7 #[.agg #[.int .i64 4, .int .u64 n, .string t, .int .i64 e, .slice K m kc]] w fun x w' => x = .returned (.int .i64 6) ∧ Below w.heap.size w w' := by
  go_enter Try.func7, Try.ntmps7
  go_wp2
  go_ret
  exact ⟨rfl, (by repeat (first | with_reducible exact Below.refl _ _ | with_reducible exact x | with_reducible refine Below.alloc ?_ (by first | omega | (simp; omega) | (simp; done)) _ | with_reducible refine Below.setCell ?_ (by first | omega | (simp; omega) | (simp; done)) _ | with_reducible refine Below.drew ?_ | with_reducible refine below_drewN ?_ _))⟩
set_option maxHeartbeats 800000 in
theorem nextKind_5 (_ : Unit) (n : Int) (t : ByteArray) (e : Int) (K : Option Addr) (m kc : Nat) (w : World) : Calls Try.prog 7 #[.agg #[.int .i64 5, .int .u64 n, .string t, .int .i64 e, .slice K m kc]] w fun x w' => x = .returned (.int .i64 5) ∧ Below w.heap.size w w' := by
  go_enter Try.func7, Try.ntmps7
  go_wp2
  go_ret
  exact ⟨rfl, (by repeat (first | with_reducible exact Below.refl _ _ | with_reducible exact x | with_reducible refine Below.alloc ?_ (by first | omega | (simp; omega) | (simp; done)) _ | with_reducible refine Below.setCell ?_ (by first | omega | (simp; omega) | (simp; done)) _ | with_reducible refine Below.drew ?_ | with_reducible refine below_drewN ?_ _))⟩
set_option maxHeartbeats 800000 in
theorem nextKind_6 (_ : Unit) (n : Int) (t : ByteArray) (e : Int) (K : Option Addr) (m kc : Nat) (w : World) : Calls Try.prog 7 #[.agg #[.int .i64 6, .int .u64 n, .string t, .int .i64 e, .slice K m kc]] w fun x w' => x = .returned (.int .i64 1) ∧ Below w.heap.size w w' := by
  go_enter Try.func7, Try.ntmps7
  go_wp2
  go_ret
  exact ⟨rfl, (by repeat (first | with_reducible exact Below.refl _ _ | with_reducible exact x | with_reducible refine Below.alloc ?_ (by first | omega | (simp; omega) | (simp; done)) _ | with_reducible refine Below.setCell ?_ (by first | omega | (simp; omega) | (simp; done)) _ | with_reducible refine Below.drew ?_ | with_reducible refine below_drewN ?_ _))⟩
set_option maxHeartbeats 800000 in
theorem nextKind_7 (_ : Unit) (n : Int) (t : ByteArray) (e : Int) (K : Option Addr) (m kc : Nat) (w : World) : Calls Try.prog 7 #[.agg #[.int .i64 7, .int .u64 n, .string t, .int .i64 e, .slice K m kc]] w fun x w' => x = .returned (.int .i64 2) ∧ Below w.heap.size w w' := by
  go_enter Try.func7, Try.ntmps7
  go_wp2
  go_ret
  exact ⟨rfl, (by repeat (first | with_reducible exact Below.refl _ _ | with_reducible exact x | with_reducible refine Below.alloc ?_ (by first | omega | (simp; omega) | (simp; done)) _ | with_reducible refine Below.setCell ?_ (by first | omega | (simp; omega) | (simp; done)) _ | with_reducible refine Below.drew ?_ | with_reducible refine below_drewN ?_ _))⟩
set_option maxHeartbeats 800000 in
theorem nextKind_8 (_ : Unit) (n : Int) (t : ByteArray) (e : Int) (K : Option Addr) (m kc : Nat) (w : World) : Calls Try.prog 7 #[.agg #[.int .i64 8, .int .u64 n, .string t, .int .i64 e, .slice K m kc]] w fun x w' => x = .returned (.int .i64 4) ∧ Below w.heap.size w w' := by
  go_enter Try.func7, Try.ntmps7
  go_wp2
  go_ret
  exact ⟨rfl, (by repeat (first | with_reducible exact Below.refl _ _ | with_reducible exact x | with_reducible refine Below.alloc ?_ (by first | omega | (simp; omega) | (simp; done)) _ | with_reducible refine Below.setCell ?_ (by first | omega | (simp; omega) | (simp; done)) _ | with_reducible refine Below.drew ?_ | with_reducible refine below_drewN ?_ _))⟩
set_option maxHeartbeats 800000 in
theorem nextKind_9 (_ : Unit) (n : Int) (t : ByteArray) (e : Int) (K : Option Addr) (m kc : Nat) (w : World) : Calls Try.prog 7 #[.agg #[.int .i64 9, .int .u64 n, .string t, .int .i64 e, .slice K m kc]] w fun x w' => x = .returned (.int .i64 3) ∧ Below w.heap.size w w' := by
  go_enter Try.func7, Try.ntmps7
  go_wp2
  go_ret
  exact ⟨rfl, (by repeat (first | with_reducible exact Below.refl _ _ | with_reducible exact x | with_reducible refine Below.alloc ?_ (by first | omega | (simp; omega) | (simp; done)) _ | with_reducible refine Below.setCell ?_ (by first | omega | (simp; omega) | (simp; done)) _ | with_reducible refine Below.drew ?_ | with_reducible refine below_drewN ?_ _))⟩
set_option maxHeartbeats 800000 in
theorem nextKind_10a (_ : Unit) (n : Int) (t : ByteArray) (e : Int) (K : Option Addr) (m kc : Nat) (w : World) (h : e = 3) : Calls Try.prog 7 #[.agg #[.int .i64 10, .int .u64 n, .string t, .int .i64 e, .slice K m kc]] w fun x w' => x = .returned (.int .i64 0) ∧ Below w.heap.size w w' := by
  subst h
  go_enter Try.func7, Try.ntmps7
  go_wp2
  go_ret
  exact ⟨rfl, (by repeat (first | with_reducible exact Below.refl _ _ | with_reducible exact x | with_reducible refine Below.alloc ?_ (by first | omega | (simp; omega) | (simp; done)) _ | with_reducible refine Below.setCell ?_ (by first | omega | (simp; omega) | (simp; done)) _ | with_reducible refine Below.drew ?_ | with_reducible refine below_drewN ?_ _))⟩
set_option maxHeartbeats 800000 in
theorem nextKind_10b (_ : Unit) (n : Int) (t : ByteArray) (e : Int) (K : Option Addr) (m kc : Nat) (w : World) (h : e = 4) : Calls Try.prog 7 #[.agg #[.int .i64 10, .int .u64 n, .string t, .int .i64 e, .slice K m kc]] w fun x w' => x = .returned (.int .i64 0) ∧ Below w.heap.size w w' := by
  subst h
  go_enter Try.func7, Try.ntmps7
  go_wp2
  go_ret
  exact ⟨rfl, (by repeat (first | with_reducible exact Below.refl _ _ | with_reducible exact x | with_reducible refine Below.alloc ?_ (by first | omega | (simp; omega) | (simp; done)) _ | with_reducible refine Below.setCell ?_ (by first | omega | (simp; omega) | (simp; done)) _ | with_reducible refine Below.drew ?_ | with_reducible refine below_drewN ?_ _))⟩
set_option maxHeartbeats 800000 in
theorem nextKind_10c (_ : Unit) (n : Int) (t : ByteArray) (e : Int) (K : Option Addr) (m kc : Nat) (w : World) (h : e = 5) : Calls Try.prog 7 #[.agg #[.int .i64 10, .int .u64 n, .string t, .int .i64 e, .slice K m kc]] w fun x w' => x = .returned (.int .i64 0) ∧ Below w.heap.size w w' := by
  subst h
  go_enter Try.func7, Try.ntmps7
  go_wp2
  go_ret
  exact ⟨rfl, (by repeat (first | with_reducible exact Below.refl _ _ | with_reducible exact x | with_reducible refine Below.alloc ?_ (by first | omega | (simp; omega) | (simp; done)) _ | with_reducible refine Below.setCell ?_ (by first | omega | (simp; omega) | (simp; done)) _ | with_reducible refine Below.drew ?_ | with_reducible refine below_drewN ?_ _))⟩
set_option maxHeartbeats 800000 in
theorem nextKind_10d (_ : Unit) (n : Int) (t : ByteArray) (e : Int) (K : Option Addr) (m kc : Nat) (w : World) (h : e < 0) : Calls Try.prog 7 #[.agg #[.int .i64 10, .int .u64 n, .string t, .int .i64 e, .slice K m kc]] w fun x w' => x = .returned (.int .i64 0) ∧ Below w.heap.size w w' := by
  have e3 : (e == 3) = false := by simp; omega
  have e4 : (e == 4) = false := by simp; omega
  have e5 : (e == 5) = false := by simp; omega
  go_enter Try.func7, Try.ntmps7
  go_wp2
  go_ret
  exact ⟨rfl, (by repeat (first | with_reducible exact Below.refl _ _ | with_reducible exact x | with_reducible refine Below.alloc ?_ (by first | omega | (simp; omega) | (simp; done)) _ | with_reducible refine Below.setCell ?_ (by first | omega | (simp; omega) | (simp; done)) _ | with_reducible refine Below.drew ?_ | with_reducible refine below_drewN ?_ _))⟩
set_option maxHeartbeats 800000 in
theorem nextKind_10e (_ : Unit) (n : Int) (t : ByteArray) (e : Int) (K : Option Addr) (m kc : Nat) (w : World) (h3 : e ≠ 3) (h4 : e ≠ 4) (h5 : e ≠ 5) (h : ¬ e < 0) : Calls Try.prog 7 #[.agg #[.int .i64 10, .int .u64 n, .string t, .int .i64 e, .slice K m kc]] w fun x w' => x = .returned (.int .i64 12) ∧ Below w.heap.size w w' := by
  have e3 : (e == 3) = false := by simp; omega
  have e4 : (e == 4) = false := by simp; omega
  have e5 : (e == 5) = false := by simp; omega
  clear h3 h4 h5
  go_enter Try.func7, Try.ntmps7
  go_wp2
  go_ret
  exact ⟨rfl, (by repeat (first | with_reducible exact Below.refl _ _ | with_reducible exact x | with_reducible refine Below.alloc ?_ (by first | omega | (simp; omega) | (simp; done)) _ | with_reducible refine Below.setCell ?_ (by first | omega | (simp; omega) | (simp; done)) _ | with_reducible refine Below.drew ?_ | with_reducible refine below_drewN ?_ _))⟩
set_option maxHeartbeats 800000 in
theorem nextKind_x (k : Int) (n : Int) (t : ByteArray) (e : Int) (K : Option Addr) (m kc : Nat) (w : World) (h0 : k ≠ 0) (h1 : k ≠ 1) (h4 : k ≠ 4) (h5 : k ≠ 5) (h6 : k ≠ 6) (h7 : k ≠ 7) (h8 : k ≠ 8) (h9 : k ≠ 9) (h10 : k ≠ 10) : Calls Try.prog 7 #[.agg #[.int .i64 k, .int .u64 n, .string t, .int .i64 e, .slice K m kc]] w fun x w' => x = .returned (.int .i64 8) ∧ Below w.heap.size w w' := by
  have k0 : (k == 0) = false := by simpa using h0
  have k1 : (k == 1) = false := by simpa using h1
  have k4 : (k == 4) = false := by simpa using h4
  have k5 : (k == 5) = false := by simpa using h5
  have k6 : (k == 6) = false := by simpa using h6
  have k7 : (k == 7) = false := by simpa using h7
  have k8 : (k == 8) = false := by simpa using h8
  have k9 : (k == 9) = false := by simpa using h9
  have k10 : (k == 10) = false := by simpa using h10
  clear h0 h1 h4 h5 h6 h7 h8 h9 h10
  go_enter Try.func7, Try.ntmps7
  go_wp2
  go_ret
  exact ⟨rfl, (by repeat (first | with_reducible exact Below.refl _ _ | with_reducible exact x | with_reducible refine Below.alloc ?_ (by first | omega | (simp; omega) | (simp; done)) _ | with_reducible refine Below.setCell ?_ (by first | omega | (simp; omega) | (simp; done)) _ | with_reducible refine Below.drew ?_ | with_reducible refine below_drewN ?_ _))⟩
theorem nextKind_any (k n : Int) (t : ByteArray) (e : Int) (K : Option Addr) (m kc : Nat) (w : World) : Calls Try.prog 7 #[.agg #[.int .i64 k, .int .u64 n, .string t, .int .i64 e, .slice K m kc]] w fun x w' => x = .returned (.int .i64 (wantK k e)) ∧ Below w.heap.size w w' := by
  unfold wantK
  by_cases h0 : k = 0
  · subst h0
    simpa using nextKind_0 () n t e K m kc w
  by_cases h1 : k = 1
  · subst h1
    simpa using nextKind_1 () n t e K m kc w
  by_cases h4 : k = 4
  · subst h4
    simpa using nextKind_4 () n t e K m kc w
  by_cases h5 : k = 5
  · subst h5
    simpa using nextKind_5 () n t e K m kc w
  by_cases h6 : k = 6
  · subst h6
    simpa using nextKind_6 () n t e K m kc w
  by_cases h7 : k = 7
  · subst h7
    simpa using nextKind_7 () n t e K m kc w
  by_cases h8 : k = 8
  · subst h8
    simpa using nextKind_8 () n t e K m kc w
  by_cases h9 : k = 9
  · subst h9
    simpa using nextKind_9 () n t e K m kc w
  by_cases h10 : k = 10
  · subst h10
    by_cases a3 : e = 3
    · simpa [a3] using nextKind_10a () n t e K m kc w a3
    by_cases a4 : e = 4
    · simpa [a4] using nextKind_10b () n t e K m kc w a4
    by_cases a5 : e = 5
    · simpa [a5] using nextKind_10c () n t e K m kc w a5
    by_cases a6 : e < 0
    · simpa [a6] using nextKind_10d () n t e K m kc w a6
    · simpa [a3, a4, a5, a6] using nextKind_10e () n t e K m kc w a3 a4 a5 a6
  rw [if_neg h0, if_neg h1, if_neg h4, if_neg h5, if_neg h6, if_neg h7, if_neg h8, if_neg h9, if_neg h10]
  exact nextKind_x k n t e K m kc w h0 h1 h4 h5 h6 h7 h8 h9 h10
theorem implNext (t : Nat) (ht : t ≤ 255) (A : Option Addr) (n c : Nat) (w : World) (h : Calls Try.prog 8 #[.slice A n c] w (TypeR t w)) :
    Calls Try.prog 5 #[.slice A n c] w fun e w' => e = .returned (.int .i64 (t : Nat)) ∧ Below w.heap.size w w' := by
  have H := hide h
  clear h
  go_enter Try.func5, Try.ntmps5
  go_wp2_with (go_at_call 8; refine (unhide H).mono ?_; rintro e w1 ⟨rfl, hb1⟩; have HB := hide hb1; clear hb1)
  go_ret
  exact ⟨rfl, unhide HB⟩
theorem kind_types : ((List.range 256).all fun b => (decide (kindB b = 10) || decide (kindB b = 11)) || (decide (nty b ≠ 12) && (if kindB b = 3 then (decide (nty b = 8) || decide (nty b = 9)) else decide ((nty b : Int) = wantK (kindB b) 0)))) = true := by kernel_rfl
theorem type_of (b : Nat) (hb : b < 256) (k : Int) (hk0 : 0 ≤ k) (hk1 : k < 10) (h : kindB b = kindI k) : nty b ≠ 12 ∧ (((nty b : Nat) : Int) = wantK k 0 ∨ (wantK k 0 = 8 ∧ nty b = 9)) ∧ wantK k 0 ≠ 0 := by
  have h1 := List.all_eq_true.1 kind_types b (List.mem_range.2 hb)
  have h2 : kindB b ≠ 10 ∧ kindB b ≠ 11 := by rw [h]; unfold kindI; split <;> omega
  simp only [Bool.or_eq_true, Bool.and_eq_true, decide_eq_true_eq] at h1
  rcases h1 with (h1 | h1) | ⟨h1, h3⟩
  · exact absurd h1 h2.1
  · exact absurd h1 h2.2
  · refine ⟨h1, ?_, ?_⟩
    · rw [h] at h3
      unfold kindI at h3
      by_cases h22 : k = 2
      · subst h22
        simp at h3
        rcases h3 with h3 | h3
        · left; rw [h3]; rfl
        · right; exact ⟨rfl, h3⟩
      · rw [if_neg h22] at h3
        by_cases h23 : k = 3
        · subst h23
          simp at h3
          rcases h3 with h3 | h3
          · left; rw [h3]; rfl
          · right; exact ⟨rfl, h3⟩
        · rw [if_neg h23] at h3
          left
          simpa using h3
    · unfold wantK
      repeat' split
      all_goals omega
/-- The bytes of an extension: how many stand ahead, where its type stands. -/
theorem next_ext (S : Nat → Prop) (A : Option Addr) (e : Int) (he : -128 ≤ e) (he2 : e ≤ 127) (h3 : e ≠ 3) (h4 : e ≠ 4) (h5 : e ≠ 5) (h0 : ¬ e < 0) (t h zs : List UInt8) (n c : Nat) (w : World) (hh : extF t.length (UInt8.ofNat (e % 256).toNat) h) (hn : n = (h ++ t ++ zs).length) (hr : RB w S A (h ++ t ++ zs)) (hS : Old w S) :
    Calls Try.prog 8 #[.slice A n c] w (TypeR 12 w) := by
  subst hn
  have hy : (UInt8.ofNat (e % 256).toNat).toNat = e.toNat := by simp; omega
  have hb := fun b (hb : b < 256) => nspec_any b hb
  unfold extF at hh
  rcases hh with ⟨hl, rfl⟩ | ⟨hl, rfl⟩ | ⟨hl, rfl⟩ | ⟨hl, rfl⟩ | ⟨hl, rfl⟩ | ⟨hl, rfl⟩ | ⟨hl, rfl⟩ | ⟨hl, rfl⟩
  · by_cases hz : (t ++ zs).length + 1 + 1 ≤ 3
    · have h := nextT_ext0 S A 212 3 0 (UInt8.ofNat 212) (UInt8.ofNat (e % 256).toNat :: (t ++ zs)) c w (by simpa using hr) hS rfl (hb 212 (by omega)) (by simpa using hz) (by omega)
      simpa using h
    · have h := nextT_ext1 S A 212 3 e.toNat (UInt8.ofNat 212) (UInt8.ofNat (e % 256).toNat) (t ++ zs) c w (by simpa using hr) hS rfl hy (by omega) (by omega) (by omega) (by omega) (hb 212 (by omega)) (by omega) (by omega)
      simpa using h
  · by_cases hz : (t ++ zs).length + 1 + 1 ≤ 4
    · have h := nextT_ext0 S A 213 4 0 (UInt8.ofNat 213) (UInt8.ofNat (e % 256).toNat :: (t ++ zs)) c w (by simpa using hr) hS rfl (hb 213 (by omega)) (by simpa using hz) (by omega)
      simpa using h
    · have h := nextT_ext1 S A 213 4 e.toNat (UInt8.ofNat 213) (UInt8.ofNat (e % 256).toNat) (t ++ zs) c w (by simpa using hr) hS rfl hy (by omega) (by omega) (by omega) (by omega) (hb 213 (by omega)) (by omega) (by omega)
      simpa using h
  · by_cases hz : (t ++ zs).length + 1 + 1 ≤ 6
    · have h := nextT_ext0 S A 214 6 0 (UInt8.ofNat 214) (UInt8.ofNat (e % 256).toNat :: (t ++ zs)) c w (by simpa using hr) hS rfl (hb 214 (by omega)) (by simpa using hz) (by omega)
      simpa using h
    · have h := nextT_ext1 S A 214 6 e.toNat (UInt8.ofNat 214) (UInt8.ofNat (e % 256).toNat) (t ++ zs) c w (by simpa using hr) hS rfl hy (by omega) (by omega) (by omega) (by omega) (hb 214 (by omega)) (by omega) (by omega)
      simpa using h
  · by_cases hz : (t ++ zs).length + 1 + 1 ≤ 10
    · have h := nextT_ext0 S A 215 10 0 (UInt8.ofNat 215) (UInt8.ofNat (e % 256).toNat :: (t ++ zs)) c w (by simpa using hr) hS rfl (hb 215 (by omega)) (by simpa using hz) (by omega)
      simpa using h
    · have h := nextT_ext1 S A 215 10 e.toNat (UInt8.ofNat 215) (UInt8.ofNat (e % 256).toNat) (t ++ zs) c w (by simpa using hr) hS rfl hy (by omega) (by omega) (by omega) (by omega) (hb 215 (by omega)) (by omega) (by omega)
      simpa using h
  · by_cases hz : (t ++ zs).length + 1 + 1 ≤ 18
    · have h := nextT_ext0 S A 216 18 0 (UInt8.ofNat 216) (UInt8.ofNat (e % 256).toNat :: (t ++ zs)) c w (by simpa using hr) hS rfl (hb 216 (by omega)) (by simpa using hz) (by omega)
      simpa using h
    · have h := nextT_ext1 S A 216 18 e.toNat (UInt8.ofNat 216) (UInt8.ofNat (e % 256).toNat) (t ++ zs) c w (by simpa using hr) hS rfl hy (by omega) (by omega) (by omega) (by omega) (hb 216 (by omega)) (by omega) (by omega)
      simpa using h
  · have hlen : (UInt8.ofNat 199 :: beL t.length 1 ++ [UInt8.ofNat (e % 256).toNat] ++ t ++ zs).length = 3 + (t ++ zs).length := by simp [beL]; omega
    by_cases hz : (t ++ zs).length = 0
    · have h := nextT_ext0 S A 199 3 (-1) (UInt8.ofNat 199) (beL t.length 1 ++ [UInt8.ofNat (e % 256).toNat] ++ t ++ zs) c w (by simpa using hr) hS rfl (hb 199 (by omega)) (by rw [List.cons_append, List.cons_append, List.cons_append, List.length_cons] at hlen; omega) (by omega)
      simpa using h
    · exact nextT_ext2 S A 199 3 e.toNat (-1) _ _ c w rfl hr hS (by rw [hlen]; omega) rfl (by omega) (by omega) (by rw [hlen]; omega) (by simpa [beL] using hy) (by omega) (by omega) (by omega) (by omega) (by omega) (hb 199 (by omega)) (by rw [hlen]; omega)
  · have hlen : (UInt8.ofNat 200 :: beL t.length 2 ++ [UInt8.ofNat (e % 256).toNat] ++ t ++ zs).length = 4 + (t ++ zs).length := by simp [beL]; omega
    by_cases hz : (t ++ zs).length = 0
    · have h := nextT_ext0 S A 200 4 (-2) (UInt8.ofNat 200) (beL t.length 2 ++ [UInt8.ofNat (e % 256).toNat] ++ t ++ zs) c w (by simpa using hr) hS rfl (hb 200 (by omega)) (by rw [List.cons_append, List.cons_append, List.cons_append, List.length_cons] at hlen; omega) (by omega)
      simpa using h
    · exact nextT_ext2 S A 200 4 e.toNat (-2) _ _ c w rfl hr hS (by rw [hlen]; omega) rfl (by omega) (by omega) (by rw [hlen]; omega) (by simpa [beL] using hy) (by omega) (by omega) (by omega) (by omega) (by omega) (hb 200 (by omega)) (by rw [hlen]; omega)
  · have hlen : (UInt8.ofNat 201 :: beL t.length 4 ++ [UInt8.ofNat (e % 256).toNat] ++ t ++ zs).length = 6 + (t ++ zs).length := by simp [beL]; omega
    by_cases hz : (t ++ zs).length = 0
    · have h := nextT_ext0 S A 201 6 (-3) (UInt8.ofNat 201) (beL t.length 4 ++ [UInt8.ofNat (e % 256).toNat] ++ t ++ zs) c w (by simpa using hr) hS rfl (hb 201 (by omega)) (by rw [List.cons_append, List.cons_append, List.cons_append, List.length_cons] at hlen; omega) (by omega)
      simpa using h
    · exact nextT_ext2 S A 201 6 e.toNat (-3) _ _ c w rfl hr hS (by rw [hlen]; omega) rfl (by omega) (by omega) (by rw [hlen]; omega) (by simpa [beL] using hy) (by omega) (by omega) (by omega) (by omega) (by omega) (hb 201 (by omega)) (by rw [hlen]; omega)
theorem next_whole (S : Nat → Prop) (A : Option Addr) (p : Pack) (k : Int) (nm : Nat) (t : List UInt8) (e : Int) (ks : List Pack) (hp : p = .mk k nm t e ks) (h zs : List UInt8) (n c : Nat) (w : World) (hw : WrP p h) (hf : FitsP p) (hwf : WfP p) (hn : n = (h ++ zs).length) (hr : RB w S A (h ++ zs)) (hS : Old w S) (hwk : wantK k e ≠ 0) :
    ∃ got : Nat, got ≤ 255 ∧ (((got : Nat) : Int) = wantK k e ∨ (wantK k e = 8 ∧ got = 9)) ∧ Calls Try.prog 8 #[.slice A n c] w (TypeR got w) := by
  subst hp
  have hfk := hf
  unfold FitsP FitHd at hfk
  by_cases hk : k = 10
  · subst hk
    have hne : ¬ (e = 3 ∨ e = 4 ∨ e = 5 ∨ e < 0) := by
      intro hc
      apply hwk
      unfold wantK
      simp [hc]
    refine ⟨12, by omega, .inl (by unfold wantK; simp [hne]), ?_⟩
    have hw2 := hw
    unfold WrP at hw2
    obtain ⟨hd, hx, rfl⟩ : ∃ hd, extF t.length (UInt8.ofNat (e % 256).toNat) hd ∧ h = hd ++ t := by
      rcases hw2 with ⟨h, _⟩ | ⟨h, _⟩ | ⟨h, _⟩ | ⟨h, _⟩ | ⟨h, _⟩ | ⟨h, _⟩ | ⟨h, _⟩ | ⟨h, _⟩ | ⟨_, h⟩ | ⟨h, _⟩ | ⟨h, _⟩
      case inr.inr.inr.inr.inr.inr.inr.inr.inl => exact h
      all_goals omega
    exact next_ext S A e (by omega) (by omega) (by omega) (by omega) (by omega) (by omega) t hd zs n c w hx hn hr hS
  · obtain ⟨b, r, rfl, hb⟩ := WrP_lead hw hf hwf
    have hty := type_of b.toNat b.toNat_lt k (by omega) (by omega) hb
    have hwe : wantK k e = wantK k 0 := by unfold wantK; simp [hk]
    refine ⟨nty b.toNat, ?_, by rw [hwe]; exact hty.2.1, ?_⟩
    · rcases hty.2.1 with h | h
      · have : wantK k 0 ≤ 12 := by
          unfold wantK
          repeat' split
          all_goals omega
        omega
      · omega
    · subst hn
      have h2 := nextT_plain S A b.toNat (nsz b.toNat) (nty b.toNat) (nmd b.toNat) b (r ++ zs) c w (by simpa using hr) hS rfl (nspec_any b.toNat b.toNat_lt) hty.1
      simpa using h2
set_option maxRecDepth 100000 in
set_option maxHeartbeats 1600000 in
theorem FnNextType_far (k : Int) (num : Nat) (t : List UInt8) (e : Int) (K : Option Addr) (m kc fm : Nat) (sh : Bool) (B : Option Addr) (bl bc : Nat) (cut : Int) (w : World) (hbl : bl ≤ 9223372036854775807) (hf : 2147483647 < bl) :
    Calls Try.prog 3 #[.agg #[.int .i64 k, .int .u64 (num : Nat), .string ⟨t.toArray⟩, .int .i64 e, .slice K m kc, .int .u64 fm, .bool sh, .slice B bl bc, .int .i64 cut]] w (TrueR w) := by
  go_enter Try.func3, Try.ntmps3
  go_wp2_with fail
  refine (zz16 k num ⟨t.toArray⟩ e K m kc fm sh B bl bc cut _ (by omega)).mono ?_
  rintro e1 w1 ⟨rfl, hb1⟩
  have hw1 : Below w.heap.size w w1 := Below.trans (by repeat (first | with_reducible exact Below.refl _ _ | with_reducible exact x | with_reducible refine Below.alloc ?_ (by first | omega | (simp; omega) | (simp; done)) _ | with_reducible refine Below.setCell ?_ (by first | omega | (simp; omega) | (simp; done)) _ | with_reducible refine Below.drew ?_ | with_reducible refine below_drewN ?_ _)) (hb1.mono (by simp))
  have hB1 : Blk w1 w.heap.size 28 #[.int .i64 k, .int .u64 (num : Nat), .string ⟨t.toArray⟩, .int .i64 e, .slice K m kc, .int .u64 fm, .bool sh, .slice B bl bc, .int .i64 cut] := (Blk.new w _ _).below hb1 (by simp)
  rw [decide_eq_false (by omega)]
  have HW1 := hide hw1
  clear hw1 hb1 hB1
  go_wp2
  go_ret
  exact ⟨rfl, unhide HW1⟩
set_option maxRecDepth 100000 in
set_option maxHeartbeats 6400000 in
theorem FnNextType_near (k : Int) (num : Nat) (t : List UInt8) (e : Int) (p : Pack) (ps : List Pack) (K : Option Addr) (m kc fm : Nat) (sh : Bool) (B : Option Addr) (bl bc : Nat) (zs : List UInt8) (cut : Int) (w : World)
    (hp0 : p = .mk k num t e ps) (hG : GivenIn w #[.int .i64 k, .int .u64 (num : Nat), .string ⟨t.toArray⟩, .int .i64 e, .slice K m kc, .int .u64 fm, .bool sh, .slice B bl bc, .int .i64 cut] p k num ⟨t.toArray⟩ e K m kc fm sh B bl bc zs cut) (hf : bl ≤ 2147483647) :
    Calls Try.prog 3 #[.agg #[.int .i64 k, .int .u64 (num : Nat), .string ⟨t.toArray⟩, .int .i64 e, .slice K m kc, .int .u64 fm, .bool sh, .slice B bl bc, .int .i64 cut]] w (TrueR w) := by
  have HG := hide hG
  have HP0 := hide hp0
  have hcap := hG.cap
  have hcap2 := hG.cap2
  clear hG hp0
  go_enter Try.func3, Try.ntmps3
  go_wp2_with fail
  refine (zz16 k num ⟨t.toArray⟩ e K m kc fm sh B bl bc cut _ (by omega)).mono ?_
  rintro e1 w1 ⟨rfl, hb1⟩
  have hw1 : Below w.heap.size w w1 := Below.trans (by repeat (first | with_reducible exact Below.refl _ _ | with_reducible exact x | with_reducible refine Below.alloc ?_ (by first | omega | (simp; omega) | (simp; done)) _ | with_reducible refine Below.setCell ?_ (by first | omega | (simp; omega) | (simp; done)) _ | with_reducible refine Below.drew ?_ | with_reducible refine below_drewN ?_ _)) (hb1.mono (by simp))
  have hB1 : Blk w1 w.heap.size 28 #[.int .i64 k, .int .u64 (num : Nat), .string ⟨t.toArray⟩, .int .i64 e, .slice K m kc, .int .u64 fm, .bool sh, .slice B bl bc, .int .i64 cut] := (Blk.new w _ _).below hb1 (by simp)
  rw [decide_eq_true hf]
  obtain ⟨⟨x0, x1, x2, x3, x4⟩, x5, x6, x7, x8⟩ := nine_cells hB1
  have hz1 := hB1.lt
  have HW1 := hide hw1
  have HB1 := hide hB1
  have hN0 := implNext 10 (by omega) (some ⟨w1.heap.size, 0, none⟩) 1 1 (w1.alloc (.cells #[.int .u8 192] 5)) (nextT_plain (Lt (w1.heap.size + 1)) (some ⟨w1.heap.size, 0, none⟩) 192 1 10 0 192 [] 1 _ (one_rb w1 192) (old_one w1 _) rfl (nspec_any 192 (by omega)) (by omega))
  have HN0 := hide hN0
  have HN1 := hide (fun (W : World) => implNext 0 (by omega) none 0 0 W (nextT_nil none 0 W))
  clear hN0 hw1 hb1 hB1
  go_wp2_with fail
  refine (unhide HN0).mono ?_
  rintro e2 w2 ⟨rfl, hb2⟩
  have hw2 : Below w.heap.size w w2 := ((unhide HW1).alloc (unhide HW1).size _).trans (hb2.mono (by have := (unhide HW1).size; simp; omega))
  have hB2 : Blk w2 w.heap.size 28 #[.int .i64 k, .int .u64 (num : Nat), .string ⟨t.toArray⟩, .int .i64 e, .slice K m kc, .int .u64 fm, .bool sh, .slice B bl bc, .int .i64 cut] := ((unhide HB1).alloc _).below hb2 (by have := (unhide HB1).lt; simp; omega)
  have HW2 := hide hw2
  have HB2 := hide hB2
  clear hw2 hb2 hB2 HN0 x0 x1 x2 x3 x4 x5 x6 x7 x8
  go_wp2_with fail
  refine (unhide HN1 _).mono ?_
  rintro e2 w2' ⟨rfl, hb2'⟩
  have hw2 : Below w.heap.size w w2' := (unhide HW2).trans (hb2'.mono (unhide HW2).size)
  have hB2 := (unhide HB2).below hb2' (unhide HB2).lt
  obtain ⟨⟨y0, y1, y2, y3, y4⟩, y5, y6, y7, y8⟩ := nine_cells hB2
  have hz2 := hB2.lt
  clear HW2 HB2 HN1
  have HW2 := hide hw2
  have HB2 := hide hB2
  have hD := data_any p k num ⟨t.toArray⟩ e K m kc fm sh B bl bc zs cut (Lt w.heap.size) w2' (fun b hb => Nat.lt_of_lt_of_le hb hw2.size) (PackC.keep (Stays.of_below hw2) _ _ (unhide HG).pack) (unhide HG).wf (unhide HG).forms (unhide HG).len hcap hcap2 ((unhide HG).behind.below hw2)
  have HD := hide hD
  clear hD hw2 hb2' hB2
  go_wp2_with fail
  refine (unhide HD).mono ?_
  intro e3 w3 hd
  cases hd with
  | no _ hb3 =>
    have hw3 := (unhide HW2).trans (hb3.mono (unhide HW2).size)
    have HW3 := hide hw3
    have hB3 := (unhide HB2).below hb3 hz2
    obtain ⟨⟨z0, z1, z2, z3, z4⟩, z5, z6, z7, z8⟩ := nine_cells hB3
    have hz3 := hB3.lt
    clear hb3 hw3 hB3
    go_wp2_with (go_at_call 7; go_loud (refine (nextKind_any k num ⟨t.toArray⟩ e K m kc _).mono ?_; rintro e9 w9 ⟨rfl, hb9⟩))
    go_ret
    exact ⟨rfl, (unhide HW3).trans (hb9.mono (unhide HW3).size)⟩
  | cut _ hb3 hc0 hfit hcn h hwr q hq hl A3 c3 hqc hcm hr3 =>
    have hw3 := (unhide HW2).trans (hb3.mono (unhide HW2).size)
    have HW3 := hide hw3
    have hB3 := (unhide HB2).below hb3 hz2
    obtain ⟨⟨z0, z1, z2, z3, z4⟩, z5, z6, z7, z8⟩ := nine_cells hB3
    have hz3 := hB3.lt
    clear hb3 hw3 hB3 hwr hfit hr3 hq hl hqc hcm
    go_wp2_with (go_at_call 7; go_loud (refine (nextKind_any k num ⟨t.toArray⟩ e K m kc _).mono ?_; rintro e9 w9 ⟨rfl, hb9⟩))
    go_ret
    exact ⟨rfl, (unhide HW3).trans (hb9.mono (unhide HW3).size)⟩
  | whole _ hb3 hc0 hfit hcn hbl h hwr hl hl0 A3 n3 c3 hn3 hnc hcm hr3 =>
    have hw3 := (unhide HW2).trans (hb3.mono (unhide HW2).size)
    have hB3 := (unhide HB2).below hb3 hz2
    obtain ⟨⟨z0, z1, z2, z3, z4⟩, z5, z6, z7, z8⟩ := nine_cells hB3
    have hz3 := hB3.lt
    have HW3 := hide hw3
    have HR3 := hide hr3
    have HN3 := hide hn3
    have HWR := hide hwr
    have HFIT := hide hfit
    have HB3 := hide hb3
    clear hb3 hw3 hB3 hwr hfit hr3 hl hl0 hnc hcm hn3
    by_cases hwk : wantK k e = 0
    · go_wp2_with (go_at_call 7; go_loud (refine (nextKind_any k num ⟨t.toArray⟩ e K m kc _).mono ?_; rw [hwk]; rintro e9 w9 ⟨rfl, hb9⟩; have HB9 := hide hb9; clear hb9))
      go_ret
      exact ⟨rfl, (unhide HW3).trans ((unhide HB9).mono (unhide HW3).size)⟩
    · obtain ⟨W, hW⟩ : ∃ W, W = wantK k e := ⟨_, rfl⟩
      have hNK := fun w => nextKind_any k num ⟨t.toArray⟩ e K m kc w
      rw [← hW] at hNK
      have HNK := hide hNK
      have HWE := hide hW
      have HWK := hide hwk
      have hW0 : (W == 0) = false := by rw [hW]; simpa using hwk
      clear hNK hW hwk
      go_wp2_with fail
      refine (unhide HNK _).mono ?_
      rintro e9 w9 ⟨rfl, hb9⟩
      obtain ⟨got, hg255, hgw, hcall⟩ := next_whole (fun b => w2'.heap.size ≤ b ∧ b < w3.heap.size) A3 p k num t e ps (unhide HP0) h zs n3 c3 w9 (unhide HWR) (unhide HFIT) (unhide HG).wf (unhide HN3) ((unhide HR3).keep (fun b hb => hb9.block b hb.2)) (fun b hb => Nat.lt_of_lt_of_le hb.2 hb9.size) (unhide HWK)
      rw [← unhide HWE] at hgw
      have HC := hide (implNext got hg255 A3 n3 c3 w9 hcall)
      have HW9 := hide ((unhide HW3).trans (hb9.mono (unhide HW3).size))
      have hg0 : (0 : Int) ≤ got := by omega
      clear hcall hb9 HNK
      rcases hgw with hgw | ⟨hgw, hg9⟩
      · subst hgw
        go_wp2_with (go_at_call 5; go_loud (refine (unhide HC).mono ?_; rintro e10 w10 ⟨rfl, hb10⟩; have HB10 := hide hb10; clear hb10))
        all_goals (go_ret; exact ⟨rfl, (unhide HW9).trans ((unhide HB10).mono (unhide HW9).size)⟩)
      · subst hgw hg9
        go_wp2_with (go_at_call 5; go_loud (refine (unhide HC).mono ?_; rintro e10 w10 ⟨rfl, hb10⟩; have HB10 := hide hb10; clear hb10))
        all_goals (go_ret; exact ⟨rfl, (unhide HW9).trans ((unhide HB10).mono (unhide HW9).size)⟩)
theorem FnNextType_walk (cs : Array Value) (p : Pack) (k n : Int) (T : ByteArray) (e : Int) (K : Option Addr) (m kc fm : Nat) (sh : Bool) (B : Option Addr) (bl bc : Nat) (zs : List UInt8) (cut : Int) (w : World) (hG : GivenIn w cs p k n T e K m kc fm sh B bl bc zs cut) :
    Calls Try.prog 3 #[.agg cs] w fun e w' => e = .returned (.bool true) ∧ Below w.heap.size w w' := by
  obtain ⟨num, t, ps, rfl, rfl, rfl, rfl⟩ := given_pack hG.pack
  have hc := hG.cells
  subst hc
  by_cases hf : 2147483647 < bl
  · exact FnNextType_far k num t e K ps.length kc fm sh B bl bc cut w (Nat.le_trans hG.cap hG.cap2) hf
  · exact FnNextType_near k num t e _ ps K ps.length kc fm sh B bl bc zs cut w rfl hG (by omega)
end Go.Proofs.Ytpmcljjhjjmlfaa
