/-
  spec.Integer, FitsInt, FitsUint (of 32 bits). Conditions: numbers of 64 bits.
-/
import Derived.Test.YtpmcljjhjjmlfaaDoorFix
import Derived.BigGuardPart
namespace Go.Proofs.YtpmcljjhjjmlfaaDoor
set_option linter.unusedSimpArgs false
set_option linter.unusedVariables false
set_option linter.unusedVariables false
open Go.RowKit
def isI (k : Int) : Bool := decide (k = 2 ∨ k = 3)
theorem integer_any (k : Int) (num : Nat) (T : ByteArray) (e : Int) (K : Option Addr) (m kc : Nat) (w : World) :
    Calls Tryd.prog 35 #[.agg #[.int .i64 k, .int .u64 (num : Nat), .string T, .int .i64 e, .slice K m kc]] w fun x w' => x = .returned (.bool (isI k)) ∧ Below w.heap.size w w' := by
  by_cases h2 : k = 2
  · subst h2
    go_enter Tryd.func35, Tryd.ntmps35
    go_wp2
    go_ret
    exact ⟨rfl, (by repeat (first | with_reducible exact Below.refl _ _ | with_reducible exact x | with_reducible refine Below.alloc ?_ (by first | omega | (simp; omega) | (simp; done)) _ | with_reducible refine Below.setCell ?_ (by first | omega | (simp; omega) | (simp; done)) _ | with_reducible refine Below.drew ?_ | with_reducible refine below_drewN ?_ _))⟩
  by_cases h3 : k = 3
  · subst h3
    go_enter Tryd.func35, Tryd.ntmps35
    go_wp2
    go_ret
    exact ⟨rfl, (by repeat (first | with_reducible exact Below.refl _ _ | with_reducible exact x | with_reducible refine Below.alloc ?_ (by first | omega | (simp; omega) | (simp; done)) _ | with_reducible refine Below.setCell ?_ (by first | omega | (simp; omega) | (simp; done)) _ | with_reducible refine Below.drew ?_ | with_reducible refine below_drewN ?_ _))⟩
  have e : isI k = false := decide_eq_false (by omega)
  rw [e]
  have e2 : (k == 2) = false := by simpa using h2
  have e3 : (k == 3) = false := by simpa using h3
  clear e h2 h3
  go_enter Tryd.func35, Tryd.ntmps35
  go_wp2
  go_ret
  exact ⟨rfl, (by repeat (first | with_reducible exact Below.refl _ _ | with_reducible exact x | with_reducible refine Below.alloc ?_ (by first | omega | (simp; omega) | (simp; done)) _ | with_reducible refine Below.setCell ?_ (by first | omega | (simp; omega) | (simp; done)) _ | with_reducible refine Below.drew ?_ | with_reducible refine below_drewN ?_ _))⟩
def fitI (k : Int) (num : Nat) : Bool := isI k && !(k == 3 && decide (9223372036854775808 ≤ num)) && decide (-2147483648 ≤ sgn 8 num ∧ sgn 8 num ≤ 2147483647)
def fitU (k : Int) (num : Nat) : Bool := isI k && !(k == 2 && decide (9223372036854775808 ≤ num)) && decide (num ≤ 4294967295)
theorem wr32 (v : Int) (h : -9223372036854775808 ≤ v ∧ v ≤ 9223372036854775807) : (wrap64 (v * 4294967296) / 4294967296 == v) = decide (-2147483648 ≤ v ∧ v ≤ 2147483647) := by
  unfold wrap64
  rw [Bool.eq_iff_iff]
  simp
  omega
theorem wr32u (n : Nat) (h : n < 18446744073709551616) : (IntKind.u64.wrap ((n : Int) * 4294967296) / 4294967296 == (n : Int)) = decide (n ≤ 4294967295) := by
  rw [Bool.eq_iff_iff]
  simp [IntKind.wrap, IntKind.bits, IntKind.signed]
  omega
set_option maxRecDepth 100000 in
set_option maxHeartbeats 1600000 in
theorem fitsInt_any (k : Int) (num : Nat) (T : ByteArray) (e : Int) (K : Option Addr) (m kc : Nat) (w : World) (hn : num < 18446744073709551616) :
    Calls Tryd.prog 20 #[.agg #[.int .i64 k, .int .u64 (num : Nat), .string T, .int .i64 e, .slice K m kc], .int .i64 32] w fun x w' => x = .returned (.bool (fitI k num)) ∧ Below w.heap.size w w' := by
  have hs := sgn8 num hn
  have hl := sgn_lo 8 num (by omega) (by omega)
  have hd : (9223372036854775808 ≤ num) = (sgn 8 num < 0) := by simp [sgn]; split <;> omega
  obtain ⟨b, hb⟩ : ∃ b, b = fitI k num := ⟨_, rfl⟩
  rw [← hb]
  unfold fitI at hb
  simp only [hd] at hb
  clear hd
  generalize sgn 8 num = v at *
  have hw := wr32 v hl
  have HW := hide hw
  have HB := hide hb
  clear hb hw
  by_cases h2 : k = 2
  · subst h2
    go_enter Tryd.func20, Tryd.ntmps20
    go_wp2_with (go_at_call 35; go_loud (refine (integer_any _ _ _ _ _ _ _ _).mono ?_; rintro e1 w1 ⟨rfl, hb1⟩; rw [show isI 2 = true from rfl]))
    go_ret
    refine ⟨?_, Below.trans (by repeat (first | with_reducible exact Below.refl _ _ | with_reducible exact x | with_reducible refine Below.alloc ?_ (by first | omega | (simp; omega) | (simp; done)) _ | with_reducible refine Below.setCell ?_ (by first | omega | (simp; omega) | (simp; done)) _ | with_reducible refine Below.drew ?_ | with_reducible refine below_drewN ?_ _)) (hb1.mono (by simp))⟩
    rw [unhide HB]
    exact congrArg (fun b => Ending.returned (Value.bool b)) ((unhide HW).trans (by simp [isI]))
  by_cases h3 : k = 3
  · subst h3
    clear h2
    by_cases h4 : v < 0
    · go_enter Tryd.func20, Tryd.ntmps20
      go_wp2
      go_ret
      refine ⟨?_, (by repeat (first | with_reducible exact Below.refl _ _ | with_reducible exact x | with_reducible refine Below.alloc ?_ (by first | omega | (simp; omega) | (simp; done)) _ | with_reducible refine Below.setCell ?_ (by first | omega | (simp; omega) | (simp; done)) _ | with_reducible refine Below.drew ?_ | with_reducible refine below_drewN ?_ _))⟩
      rw [unhide HB]
      simp [isI]
      omega
    · go_enter Tryd.func20, Tryd.ntmps20
      go_wp2_with (go_at_call 35; go_loud (refine (integer_any _ _ _ _ _ _ _ _).mono ?_; rintro e1 w1 ⟨rfl, hb1⟩; rw [show isI 3 = true from rfl]))
      go_ret
      refine ⟨?_, Below.trans (by repeat (first | with_reducible exact Below.refl _ _ | with_reducible exact x | with_reducible refine Below.alloc ?_ (by first | omega | (simp; omega) | (simp; done)) _ | with_reducible refine Below.setCell ?_ (by first | omega | (simp; omega) | (simp; done)) _ | with_reducible refine Below.drew ?_ | with_reducible refine below_drewN ?_ _)) (hb1.mono (by simp))⟩
      rw [unhide HB]
      exact congrArg (fun b => Ending.returned (Value.bool b)) ((unhide HW).trans (by simp [isI]; omega))
  have e : isI k = false := decide_eq_false (by omega)
  have e3 : (k == 3) = false := by simpa using h3
  have HI := hide e
  clear e h2 h3
  go_enter Tryd.func20, Tryd.ntmps20
  go_wp2_with (go_at_call 35; go_loud (refine (integer_any _ _ _ _ _ _ _ _).mono ?_; rintro e1 w1 ⟨rfl, hb1⟩; rw [unhide HI]))
  go_ret
  refine ⟨?_, Below.trans (by repeat (first | with_reducible exact Below.refl _ _ | with_reducible exact x | with_reducible refine Below.alloc ?_ (by first | omega | (simp; omega) | (simp; done)) _ | with_reducible refine Below.setCell ?_ (by first | omega | (simp; omega) | (simp; done)) _ | with_reducible refine Below.drew ?_ | with_reducible refine below_drewN ?_ _)) (hb1.mono (by simp))⟩
  rw [unhide HB, unhide HI]
  rfl
end Go.Proofs.YtpmcljjhjjmlfaaDoor
