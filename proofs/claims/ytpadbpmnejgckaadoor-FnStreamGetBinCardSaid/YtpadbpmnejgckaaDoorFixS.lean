/-
  msgp.isfixint, rfixint, isnfixint, rnfixint. No condition.
-/
import Derived.Test.YtpadbpmnejgckaaDoorSgn
namespace Go.Proofs.YtpadbpmnejgckaaDoor
set_option linter.unusedSimpArgs false
set_option linter.unusedVariables false
open Go.RowKit
theorem and224_e0S : ∀ b : Nat, b < 256 → (bits BinOp.and IntKind.u8 (b : Int) 224 == 224) = decide (224 ≤ b) := by decide +kernel
theorem and15S : ∀ b : Nat, b < 256 → bits BinOp.and IntKind.u8 (b : Int) 15 = ((b % 16 : Nat) : Int) := by decide +kernel
theorem and240_80S : ∀ b : Nat, b < 256 → (bits BinOp.and IntKind.u8 (b : Int) 240 == 128) = decide (128 ≤ b ∧ b < 144) := by decide +kernel
theorem isnfS_any (b : Nat) (hb : b < 256) (w : World) : Calls Tryd.prog 126 #[.int .u8 b] w fun e w' => e = .returned (.bool (decide (224 ≤ b))) ∧ w = w' := by
  have hf := hide (and224_e0S b hb)
  go_enter Tryd.func126, Tryd.ntmps126
  go_wp2
  go_ret
  refine ⟨?_, rfl⟩
  rw [← unhide hf]
  rfl
theorem isfixmapS_any (b : Nat) (hb : b < 256) (w : World) : Calls Tryd.prog 104 #[.int .u8 b] w fun e w' => e = .returned (.bool (decide (128 ≤ b ∧ b < 144))) ∧ w = w' := by
  have hf := hide (and240_80S b hb)
  go_enter Tryd.func104, Tryd.ntmps104
  go_wp2
  go_ret
  refine ⟨?_, rfl⟩
  rw [← unhide hf]
  rfl
theorem rfixmapS_any (b : Nat) (hb : b < 256) (w : World) : Calls Tryd.prog 105 #[.int .u8 b] w fun e w' => e = .returned (.int .u8 ((b : Int) % 16)) ∧ w = w' := by
  go_enter Tryd.func105, Tryd.ntmps105
  go_wp2
  go_ret
  exact ⟨rfl, rfl⟩
theorem isfixint_yes (b : Nat) (h : b < 128) (w : World) : Calls Tryd.prog 124 #[.int .u8 b] w fun e w' => e = .returned (.bool true) ∧ w = w' := by
  have h2 : (b : Int) < 128 := by omega
  have h3 : (((b : Int) / 128) == 0) = true := by simp; omega
  clear h
  go_enter Tryd.func124, Tryd.ntmps124
  go_wp2
  go_ret
  exact ⟨rfl, rfl⟩
theorem isfixint_no (b : Nat) (h : 128 ≤ b) (hb : b < 256) (w : World) : Calls Tryd.prog 124 #[.int .u8 b] w fun e w' => e = .returned (.bool false) ∧ w = w' := by
  have h2 : (b : Int) < 256 := by omega
  have h3 : (((b : Int) / 128) == 0) = false := by simp; omega
  clear h
  go_enter Tryd.func124, Tryd.ntmps124
  go_wp2
  go_ret
  exact ⟨rfl, rfl⟩
theorem rfixint_any (b : Nat) (w : World) : Calls Tryd.prog 125 #[.int .u8 b] w fun e w' => e = .returned (.int .u8 b) ∧ w = w' := by
  go_enter Tryd.func125, Tryd.ntmps125
  go_wp2
  go_ret
  exact ⟨rfl, rfl⟩
theorem isnfixint_yes (b : Nat) (h : 224 ≤ b) (hb : b < 256) (w : World) : Calls Tryd.prog 126 #[.int .u8 b] w fun e w' => e = .returned (.bool true) ∧ w = w' := by
  refine (isnfS_any b hb w).mono ?_
  rintro e w' ⟨rfl, rfl⟩
  exact ⟨by rw [decide_eq_true h], rfl⟩
theorem isnfixint_no (b : Nat) (h : b < 224) (w : World) : Calls Tryd.prog 126 #[.int .u8 b] w fun e w' => e = .returned (.bool false) ∧ w = w' := by
  refine (isnfS_any b (by omega) w).mono ?_
  rintro e w' ⟨rfl, rfl⟩
  exact ⟨by rw [decide_eq_false (by omega)], rfl⟩
theorem rnfixint_any (b : Nat) (h : 224 ≤ b) (hb : b < 256) (w : World) : Calls Tryd.prog 127 #[.int .u8 b] w fun e w' => e = .returned (.int .i8 ((b : Int) - 256)) ∧ w = w' := by
  have h2 : IntKind.i8.wrap (b : Int) = (b : Int) - 256 := by simp [IntKind.wrap, IntKind.bits, IntKind.signed]; omega
  generalize (b : Int) - 256 = s at *
  clear h hb
  go_enter Tryd.func127, Tryd.ntmps127
  go_wp2
  go_ret
  exact ⟨rfl, rfl⟩
end Go.Proofs.YtpadbpmnejgckaaDoor
