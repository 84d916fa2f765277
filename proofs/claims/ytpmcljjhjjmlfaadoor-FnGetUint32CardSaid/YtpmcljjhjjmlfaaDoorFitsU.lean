/-
  spec.FitsUint (of 32 bits). Conditions: numbers of 64 bits.
-/
import Derived.Test.YtpmcljjhjjmlfaaDoorFitsI
import Derived.Deep.RegionHeld3
import Derived.Deep.RegionWith
namespace Go.Proofs.YtpmcljjhjjmlfaaDoor
set_option linter.unusedSimpArgs false
set_option linter.unusedVariables false
set_option linter.unusedVariables false
open Go.RowKit
theorem integerU_any (k : Int) (num : Nat) (T : ByteArray) (e : Int) (K : Option Addr) (m kc : Nat) (w : World) (hI : Calls Tryd.prog 35 #[.agg #[.int .i64 k, .int .u64 (num : Nat), .string T, .int .i64 e, .slice K m kc]] w fun x w' => x = .returned (.bool (isI k)) ∧ Below w.heap.size w w') : True := trivial
set_option maxRecDepth 100000 in
set_option maxHeartbeats 12800000 in
theorem fitsUint_any (k : Int) (num : Nat) (T : ByteArray) (e : Int) (K : Option Addr) (m kc : Nat) (w : World) (hn : num < 18446744073709551616) :
    Calls Tryd.prog 22 #[.agg #[.int .i64 k, .int .u64 (num : Nat), .string T, .int .i64 e, .slice K m kc], .int .i64 32] w fun x w' => x = .returned (.bool (fitU k num)) ∧ Below w.heap.size w w' := by
  have hs := sgn8 num hn
  have hl := sgn_lo 8 num (by omega) (by omega)
  have hd : (9223372036854775808 ≤ num) = (sgn 8 num < 0) := by simp [sgn]; split <;> omega
  obtain ⟨b, hb⟩ : ∃ b, b = fitU k num := ⟨_, rfl⟩
  rw [← hb]
  unfold fitU at hb
  simp only [hd] at hb
  clear hd
  generalize sgn 8 num = v at *
  have hw := wr32u num hn
  have hx : (num : Int) ≤ 18446744073709551615 := by omega
  have a32 : IntKind.i64.wrap 32 = 32 := by decide
  have HW := hide hw
  have HB := hide hb
  clear hb hw hn
  by_cases h2 : k = 2
  · subst h2
    by_cases h4 : v < 0
    · go_enter Tryd.func22, Tryd.ntmps22
      go_wp2
      go_ret
      refine ⟨?_, (by repeat (first | with_reducible exact Below.refl _ _ | with_reducible exact x | with_reducible refine Below.alloc ?_ (by first | omega | (simp; omega) | (simp; done)) _ | with_reducible refine Below.setCell ?_ (by first | omega | (simp; omega) | (simp; done)) _ | with_reducible refine Below.drew ?_ | with_reducible refine below_drewN ?_ _))⟩
      rw [unhide HB]
      simp [isI]
      omega
    · go_enter Tryd.func22, Tryd.ntmps22
      go_wp2
      have s0 : (w.alloc (.cells #[.int .i64 2, .int .u64 (num : Nat), .string T, .int .i64 e, .slice K m kc] 25)).cell? ⟨w.heap.size, 0, none⟩ = some (.int .i64 2) := by go_simp
      have s1 : (w.alloc (.cells #[.int .i64 2, .int .u64 (num : Nat), .string T, .int .i64 e, .slice K m kc] 25)).cell? ⟨w.heap.size, 1, none⟩ = some (.int .u64 (num : Nat)) := by go_simp
      have s2 : (w.alloc (.cells #[.int .i64 2, .int .u64 (num : Nat), .string T, .int .i64 e, .slice K m kc] 25)).cell? ⟨w.heap.size, 2, none⟩ = some (.string T) := by go_simp
      have s3 : (w.alloc (.cells #[.int .i64 2, .int .u64 (num : Nat), .string T, .int .i64 e, .slice K m kc] 25)).cell? ⟨w.heap.size, 3, none⟩ = some (.int .i64 e) := by go_simp
      have s4 : (w.alloc (.cells #[.int .i64 2, .int .u64 (num : Nat), .string T, .int .i64 e, .slice K m kc] 25)).cell? ⟨w.heap.size, 4, none⟩ = some (.slice K m kc) := by go_simp
      go_region_held3 (fun W => W.cell? ⟨w.heap.size, 0, none⟩ = some (.int .i64 2) ∧ W.cell? ⟨w.heap.size, 1, none⟩ = some (.int .u64 (num : Nat)) ∧ W.cell? ⟨w.heap.size, 2, none⟩ = some (.string T) ∧ W.cell? ⟨w.heap.size, 3, none⟩ = some (.int .i64 e) ∧ W.cell? ⟨w.heap.size, 4, none⟩ = some (.slice K m kc)) (go_keep)
        ((go_at_call 35; go_loud (refine (integer_any _ _ _ _ _ _ _ _).mono ?_; rintro e1 w1 ⟨rfl, hb1⟩; rw [show isI 2 = true from rfl]; obtain ⟨hc1, _⟩ := bcell hb1; have hw1 : Below w.heap.size w w1 := Below.trans (by repeat (first | with_reducible exact Below.refl _ _ | with_reducible exact x | with_reducible refine Below.alloc ?_ (by first | omega | (simp; omega) | (simp; done)) _ | with_reducible refine Below.setCell ?_ (by first | omega | (simp; omega) | (simp; done)) _ | with_reducible refine Below.drew ?_ | with_reducible refine below_drewN ?_ _)) (hb1.mono (by first | omega | (simp; omega) | (simp; done))); have HW1 := hide hw1; have q0 : w1.cell? ⟨w.heap.size, 0, none⟩ = some (.int .i64 2) := (hc1 w.heap.size 0 (by first | omega | (simp; omega) | (simp; done))).trans (by go_simp); have q1 : w1.cell? ⟨w.heap.size, 1, none⟩ = some (.int .u64 (num : Nat)) := (hc1 w.heap.size 1 (by first | omega | (simp; omega) | (simp; done))).trans (by go_simp); have q2 : w1.cell? ⟨w.heap.size, 2, none⟩ = some (.string T) := (hc1 w.heap.size 2 (by first | omega | (simp; omega) | (simp; done))).trans (by go_simp); have q3 : w1.cell? ⟨w.heap.size, 3, none⟩ = some (.int .i64 e) := (hc1 w.heap.size 3 (by first | omega | (simp; omega) | (simp; done))).trans (by go_simp); have q4 : w1.cell? ⟨w.heap.size, 4, none⟩ = some (.slice K m kc) := (hc1 w.heap.size 4 (by first | omega | (simp; omega) | (simp; done))).trans (by go_simp); clear hc1 hb1 hw1)))
      all_goals (
        go_wp2
        go_ret
        refine ⟨?_, by have h := unhide HW1; exact (by repeat (first | with_reducible exact Below.refl _ _ | with_reducible exact h | with_reducible refine Below.alloc ?_ (by first | omega | (simp; omega) | (simp; done)) _ | with_reducible refine Below.setCell ?_ (by first | omega | (simp; omega) | (simp; done)) _ | with_reducible refine Below.drew ?_ | with_reducible refine below_drewN ?_ _))⟩
        rw [unhide HB]
        exact congrArg (fun b => Ending.returned (Value.bool b)) ((unhide HW).trans (by simp [isI]; omega)))
  have e2 : (k == 2) = false := by simpa using h2
  by_cases h3 : k = 3
  · subst h3
    clear h2
    go_enter Tryd.func22, Tryd.ntmps22
    go_wp2
    have s0 : (w.alloc (.cells #[.int .i64 3, .int .u64 (num : Nat), .string T, .int .i64 e, .slice K m kc] 25)).cell? ⟨w.heap.size, 0, none⟩ = some (.int .i64 3) := by go_simp
    have s1 : (w.alloc (.cells #[.int .i64 3, .int .u64 (num : Nat), .string T, .int .i64 e, .slice K m kc] 25)).cell? ⟨w.heap.size, 1, none⟩ = some (.int .u64 (num : Nat)) := by go_simp
    have s2 : (w.alloc (.cells #[.int .i64 3, .int .u64 (num : Nat), .string T, .int .i64 e, .slice K m kc] 25)).cell? ⟨w.heap.size, 2, none⟩ = some (.string T) := by go_simp
    have s3 : (w.alloc (.cells #[.int .i64 3, .int .u64 (num : Nat), .string T, .int .i64 e, .slice K m kc] 25)).cell? ⟨w.heap.size, 3, none⟩ = some (.int .i64 e) := by go_simp
    have s4 : (w.alloc (.cells #[.int .i64 3, .int .u64 (num : Nat), .string T, .int .i64 e, .slice K m kc] 25)).cell? ⟨w.heap.size, 4, none⟩ = some (.slice K m kc) := by go_simp
    go_region_held3 (fun W => W.cell? ⟨w.heap.size, 0, none⟩ = some (.int .i64 3) ∧ W.cell? ⟨w.heap.size, 1, none⟩ = some (.int .u64 (num : Nat)) ∧ W.cell? ⟨w.heap.size, 2, none⟩ = some (.string T) ∧ W.cell? ⟨w.heap.size, 3, none⟩ = some (.int .i64 e) ∧ W.cell? ⟨w.heap.size, 4, none⟩ = some (.slice K m kc)) (go_keep)
      ((go_at_call 35; go_loud (refine (integer_any _ _ _ _ _ _ _ _).mono ?_; rintro e1 w1 ⟨rfl, hb1⟩; rw [show isI 3 = true from rfl]; obtain ⟨hc1, _⟩ := bcell hb1; have hw1 : Below w.heap.size w w1 := Below.trans (by repeat (first | with_reducible exact Below.refl _ _ | with_reducible exact x | with_reducible refine Below.alloc ?_ (by first | omega | (simp; omega) | (simp; done)) _ | with_reducible refine Below.setCell ?_ (by first | omega | (simp; omega) | (simp; done)) _ | with_reducible refine Below.drew ?_ | with_reducible refine below_drewN ?_ _)) (hb1.mono (by first | omega | (simp; omega) | (simp; done))); have HW1 := hide hw1; have q0 : w1.cell? ⟨w.heap.size, 0, none⟩ = some (.int .i64 3) := (hc1 w.heap.size 0 (by first | omega | (simp; omega) | (simp; done))).trans (by go_simp); have q1 : w1.cell? ⟨w.heap.size, 1, none⟩ = some (.int .u64 (num : Nat)) := (hc1 w.heap.size 1 (by first | omega | (simp; omega) | (simp; done))).trans (by go_simp); have q2 : w1.cell? ⟨w.heap.size, 2, none⟩ = some (.string T) := (hc1 w.heap.size 2 (by first | omega | (simp; omega) | (simp; done))).trans (by go_simp); have q3 : w1.cell? ⟨w.heap.size, 3, none⟩ = some (.int .i64 e) := (hc1 w.heap.size 3 (by first | omega | (simp; omega) | (simp; done))).trans (by go_simp); have q4 : w1.cell? ⟨w.heap.size, 4, none⟩ = some (.slice K m kc) := (hc1 w.heap.size 4 (by first | omega | (simp; omega) | (simp; done))).trans (by go_simp); clear hc1 hb1 hw1)))
    all_goals (
      go_wp2
      go_ret
      refine ⟨?_, by have h := unhide HW1; exact (by repeat (first | with_reducible exact Below.refl _ _ | with_reducible exact h | with_reducible refine Below.alloc ?_ (by first | omega | (simp; omega) | (simp; done)) _ | with_reducible refine Below.setCell ?_ (by first | omega | (simp; omega) | (simp; done)) _ | with_reducible refine Below.drew ?_ | with_reducible refine below_drewN ?_ _))⟩
      rw [unhide HB]
      exact congrArg (fun b => Ending.returned (Value.bool b)) ((unhide HW).trans (by simp [isI])))
  have hei : isI k = false := decide_eq_false (by omega)
  have HI := hide hei
  have HINT := hide (fun (W : World) => integer_any k num T e K m kc W)
  rw [hei] at HINT
  clear hei h2 h3
  go_enter Tryd.func22, Tryd.ntmps22
  go_wp2
  have s0 : (w.alloc (.cells #[.int .i64 k, .int .u64 (num : Nat), .string T, .int .i64 e, .slice K m kc] 25)).cell? ⟨w.heap.size, 0, none⟩ = some (.int .i64 k) := by go_simp
  have s1 : (w.alloc (.cells #[.int .i64 k, .int .u64 (num : Nat), .string T, .int .i64 e, .slice K m kc] 25)).cell? ⟨w.heap.size, 1, none⟩ = some (.int .u64 (num : Nat)) := by go_simp
  have s2 : (w.alloc (.cells #[.int .i64 k, .int .u64 (num : Nat), .string T, .int .i64 e, .slice K m kc] 25)).cell? ⟨w.heap.size, 2, none⟩ = some (.string T) := by go_simp
  have s3 : (w.alloc (.cells #[.int .i64 k, .int .u64 (num : Nat), .string T, .int .i64 e, .slice K m kc] 25)).cell? ⟨w.heap.size, 3, none⟩ = some (.int .i64 e) := by go_simp
  have s4 : (w.alloc (.cells #[.int .i64 k, .int .u64 (num : Nat), .string T, .int .i64 e, .slice K m kc] 25)).cell? ⟨w.heap.size, 4, none⟩ = some (.slice K m kc) := by go_simp
  refine wp_region_any (by kernel_rfl) ?_
  try (change wpAny _ _ _ _ _ _ _ (World.drew _))
  refine wpAny_ready (rs := [0]) (by kernel_rfl) (by simp) ?_
  refine AllReady.cons rfl (fun X hX => ?_) AllReady.nil
  go_simp
  refine hX _ _ ?_
  clear hX X
  refine wpAny_ready (rs := [1]) (by kernel_rfl) (by simp) ?_
  refine AllReady.cons rfl (fun X hX => ?_) AllReady.nil
  go_simp
  refine (unhide HINT _).mono ?_
  rintro e1 w1 ⟨rfl, hb1⟩
  have hw1 : Below w.heap.size w w1 := Below.trans (by repeat (first | with_reducible exact Below.refl _ _ | with_reducible exact x | with_reducible refine Below.alloc ?_ (by first | omega | (simp; omega) | (simp; done)) _ | with_reducible refine Below.setCell ?_ (by first | omega | (simp; omega) | (simp; done)) _ | with_reducible refine Below.drew ?_ | with_reducible refine below_drewN ?_ _)) (hb1.mono (by first | omega | (simp; omega) | (simp; done)))
  have HW1 := hide hw1
  clear hb1 hw1
  go_simp
  refine hX _ _ ?_
  clear hX X
  refine wpAny_take (i := 2) (v := .bool false) rfl (by kernel_rfl) (by kernel_rfl) (by kernel_rfl) (fun _ _ _ h => h) (Or.inl ⟨by kernel_rfl, fun w => by go_simp⟩) ?_
  refine wpAny_take (i := 3) (v := undef) rfl (by kernel_rfl) (by kernel_rfl) (by kernel_rfl) (fun _ _ _ h => h) (Or.inr ⟨by kernel_rfl, rfl⟩) ?_
  refine wpAny_take (i := 4) (v := undef) rfl (by kernel_rfl) (by kernel_rfl) (by kernel_rfl) (fun _ _ _ h => h) (Or.inr ⟨by kernel_rfl, rfl⟩) ?_
  refine wpAny_take (i := 5) (v := undef) rfl (by kernel_rfl) (by kernel_rfl) (by kernel_rfl) (fun _ _ _ h => h) (Or.inr ⟨by kernel_rfl, rfl⟩) ?_
  refine wpAny_take (i := 6) (v := undef) rfl (by kernel_rfl) (by kernel_rfl) (by kernel_rfl) (fun _ _ _ h => h) (Or.inr ⟨by kernel_rfl, rfl⟩) ?_
  refine wpAny_take (i := 7) (v := undef) rfl (by kernel_rfl) (by kernel_rfl) (by kernel_rfl) (fun _ _ _ h => h) (Or.inr ⟨by kernel_rfl, rfl⟩) ?_
  refine wpAny_take (i := 8) (v := undef) rfl (by kernel_rfl) (by kernel_rfl) (by kernel_rfl) (fun _ _ _ h => h) (Or.inr ⟨by kernel_rfl, rfl⟩) ?_
  refine wpAny_take (i := 9) (v := undef) rfl (by kernel_rfl) (by kernel_rfl) (by kernel_rfl) (fun _ _ _ h => h) (Or.inr ⟨by kernel_rfl, rfl⟩) ?_
  refine wpAny_take (i := 10) (v := undef) rfl (by kernel_rfl) (by kernel_rfl) (by kernel_rfl) (fun _ _ _ h => h) (Or.inr ⟨by kernel_rfl, rfl⟩) ?_
  refine wpAny_take (i := 11) (v := undef) rfl (by kernel_rfl) (by kernel_rfl) (by kernel_rfl) (fun _ _ _ h => h) (Or.inr ⟨by kernel_rfl, rfl⟩) ?_
  refine wpAny_take (i := 12) (v := undef) rfl (by kernel_rfl) (by kernel_rfl) (by kernel_rfl) (fun _ _ _ h => h) (Or.inr ⟨by kernel_rfl, rfl⟩) ?_
  refine wpAny_take (i := 13) (v := undef) rfl (by kernel_rfl) (by kernel_rfl) (by kernel_rfl) (fun _ _ _ h => h) (Or.inr ⟨by kernel_rfl, rfl⟩) ?_
  refine wpAny_take (i := 14) (v := .bool false) rfl (by kernel_rfl) (by kernel_rfl) (by kernel_rfl) (fun _ _ _ h => h) (Or.inl ⟨by kernel_rfl, fun w => by go_simp⟩) ?_
  refine wpAny_take (i := 15) (v := .bool false) rfl (by kernel_rfl) (by kernel_rfl) (by kernel_rfl) (fun _ _ _ h => h) (Or.inl ⟨by kernel_rfl, fun w => by go_simp⟩) ?_
  refine wpAny_done (by kernel_rfl) ?_ _
  go_simp
  go_wp2
  go_ret
  refine ⟨?_, by have h := unhide HW1; exact (by repeat (first | with_reducible exact Below.refl _ _ | with_reducible exact h | with_reducible refine Below.alloc ?_ (by first | omega | (simp; omega) | (simp; done)) _ | with_reducible refine Below.setCell ?_ (by first | omega | (simp; omega) | (simp; done)) _ | with_reducible refine Below.drew ?_ | with_reducible refine below_drewN ?_ _))⟩
  rw [unhide HB, unhide HI]
  rfl
end Go.Proofs.YtpmcljjhjjmlfaaDoor
