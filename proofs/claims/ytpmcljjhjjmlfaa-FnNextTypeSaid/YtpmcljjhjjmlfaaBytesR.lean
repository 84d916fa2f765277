/-
  encoding/binary's BigEndian.Uint16, Uint32, Uint64: the number in the first bytes. Conditions: as many bytes are there.
-/
import Derived.Test.YtpmcljjhjjmlfaaWords
import Derived.Test.YtpmcljjhjjmlfaaProg
import Derived.BigQuiet
import Derived.Deep.QuietTactic
namespace Go.Proofs.Ytpmcljjhjjmlfaa
set_option linter.unusedSimpArgs false
set_option linter.unusedVariables false
open Go.RowKit
/-- A number, the highest byte first. -/
def bigU (bs : List UInt8) : Nat := bs.foldl (fun a b => a * 256 + b.toNat) 0
theorem or_shift (a b k : Nat) (h : a < 2 ^ k) : a ||| b * 2 ^ k = b * 2 ^ k + a := by
  rw [Nat.or_comm, Nat.mul_comm, Nat.two_pow_add_eq_or_of_lt h]
theorem or_u16_8 (a b : Int) (h1 : 0 ≤ a) (h2 : a < 256) (h3 : 0 ≤ b) (h4 : b < 256) : bits BinOp.or IntKind.u16 a (b * 256) = b * 256 + a := by
  obtain ⟨A, rfl⟩ := Int.eq_ofNat_of_zero_le h1
  obtain ⟨B, rfl⟩ := Int.eq_ofNat_of_zero_le h3
  have h := u16_or_nat A (B * 256) (by omega) (by omega)
  have e : ((B * 256 : Nat) : Int) = (B : Int) * 256 := by omega
  rw [e] at h
  have h0 := or_shift A B 8 (by simp only [Nat.reducePow]; omega)
  simp only [Nat.reducePow] at h0
  have h5 : ((A ||| B * 256 : Nat) : Int) = ((B * 256 + A : Nat) : Int) := congrArg _ h0
  have h6 := h.trans h5
  clear h h0 h5 e
  have h7 : ((B * 256 + A : Nat) : Int) = (B : Int) * 256 + A := by omega
  exact h6.trans h7
theorem or_u32_8 (a b : Int) (h1 : 0 ≤ a) (h2 : a < 256) (h3 : 0 ≤ b) (h4 : b < 256) : bits BinOp.or IntKind.u32 a (b * 256) = b * 256 + a := by
  obtain ⟨A, rfl⟩ := Int.eq_ofNat_of_zero_le h1
  obtain ⟨B, rfl⟩ := Int.eq_ofNat_of_zero_le h3
  have h := u32_or_nat A (B * 256) (by omega) (by omega)
  have e : ((B * 256 : Nat) : Int) = (B : Int) * 256 := by omega
  rw [e] at h
  have h0 := or_shift A B 8 (by simp only [Nat.reducePow]; omega)
  simp only [Nat.reducePow] at h0
  have h5 : ((A ||| B * 256 : Nat) : Int) = ((B * 256 + A : Nat) : Int) := congrArg _ h0
  have h6 := h.trans h5
  clear h h0 h5 e
  have h7 : ((B * 256 + A : Nat) : Int) = (B : Int) * 256 + A := by omega
  exact h6.trans h7
theorem or_u32_16 (a b : Int) (h1 : 0 ≤ a) (h2 : a < 65536) (h3 : 0 ≤ b) (h4 : b < 256) : bits BinOp.or IntKind.u32 a (b * 65536) = b * 65536 + a := by
  obtain ⟨A, rfl⟩ := Int.eq_ofNat_of_zero_le h1
  obtain ⟨B, rfl⟩ := Int.eq_ofNat_of_zero_le h3
  have h := u32_or_nat A (B * 65536) (by omega) (by omega)
  have e : ((B * 65536 : Nat) : Int) = (B : Int) * 65536 := by omega
  rw [e] at h
  have h0 := or_shift A B 16 (by simp only [Nat.reducePow]; omega)
  simp only [Nat.reducePow] at h0
  have h5 : ((A ||| B * 65536 : Nat) : Int) = ((B * 65536 + A : Nat) : Int) := congrArg _ h0
  have h6 := h.trans h5
  clear h h0 h5 e
  have h7 : ((B * 65536 + A : Nat) : Int) = (B : Int) * 65536 + A := by omega
  exact h6.trans h7
theorem or_u32_24 (a b : Int) (h1 : 0 ≤ a) (h2 : a < 16777216) (h3 : 0 ≤ b) (h4 : b < 256) : bits BinOp.or IntKind.u32 a (b * 16777216) = b * 16777216 + a := by
  obtain ⟨A, rfl⟩ := Int.eq_ofNat_of_zero_le h1
  obtain ⟨B, rfl⟩ := Int.eq_ofNat_of_zero_le h3
  have h := u32_or_nat A (B * 16777216) (by omega) (by omega)
  have e : ((B * 16777216 : Nat) : Int) = (B : Int) * 16777216 := by omega
  rw [e] at h
  have h0 := or_shift A B 24 (by simp only [Nat.reducePow]; omega)
  simp only [Nat.reducePow] at h0
  have h5 : ((A ||| B * 16777216 : Nat) : Int) = ((B * 16777216 + A : Nat) : Int) := congrArg _ h0
  have h6 := h.trans h5
  clear h h0 h5 e
  have h7 : ((B * 16777216 + A : Nat) : Int) = (B : Int) * 16777216 + A := by omega
  exact h6.trans h7
theorem or_u64_8 (a b : Int) (h1 : 0 ≤ a) (h2 : a < 256) (h3 : 0 ≤ b) (h4 : b < 256) : bits BinOp.or IntKind.u64 a (b * 256) = b * 256 + a := by
  obtain ⟨A, rfl⟩ := Int.eq_ofNat_of_zero_le h1
  obtain ⟨B, rfl⟩ := Int.eq_ofNat_of_zero_le h3
  have h := u64_or_nat A (B * 256) (by omega) (by omega)
  have e : ((B * 256 : Nat) : Int) = (B : Int) * 256 := by omega
  rw [e] at h
  have h0 := or_shift A B 8 (by simp only [Nat.reducePow]; omega)
  simp only [Nat.reducePow] at h0
  have h5 : ((A ||| B * 256 : Nat) : Int) = ((B * 256 + A : Nat) : Int) := congrArg _ h0
  have h6 := h.trans h5
  clear h h0 h5 e
  have h7 : ((B * 256 + A : Nat) : Int) = (B : Int) * 256 + A := by omega
  exact h6.trans h7
theorem or_u64_16 (a b : Int) (h1 : 0 ≤ a) (h2 : a < 65536) (h3 : 0 ≤ b) (h4 : b < 256) : bits BinOp.or IntKind.u64 a (b * 65536) = b * 65536 + a := by
  obtain ⟨A, rfl⟩ := Int.eq_ofNat_of_zero_le h1
  obtain ⟨B, rfl⟩ := Int.eq_ofNat_of_zero_le h3
  have h := u64_or_nat A (B * 65536) (by omega) (by omega)
  have e : ((B * 65536 : Nat) : Int) = (B : Int) * 65536 := by omega
  rw [e] at h
  have h0 := or_shift A B 16 (by simp only [Nat.reducePow]; omega)
  simp only [Nat.reducePow] at h0
  have h5 : ((A ||| B * 65536 : Nat) : Int) = ((B * 65536 + A : Nat) : Int) := congrArg _ h0
  have h6 := h.trans h5
  clear h h0 h5 e
  have h7 : ((B * 65536 + A : Nat) : Int) = (B : Int) * 65536 + A := by omega
  exact h6.trans h7
theorem or_u64_24 (a b : Int) (h1 : 0 ≤ a) (h2 : a < 16777216) (h3 : 0 ≤ b) (h4 : b < 256) : bits BinOp.or IntKind.u64 a (b * 16777216) = b * 16777216 + a := by
  obtain ⟨A, rfl⟩ := Int.eq_ofNat_of_zero_le h1
  obtain ⟨B, rfl⟩ := Int.eq_ofNat_of_zero_le h3
  have h := u64_or_nat A (B * 16777216) (by omega) (by omega)
  have e : ((B * 16777216 : Nat) : Int) = (B : Int) * 16777216 := by omega
  rw [e] at h
  have h0 := or_shift A B 24 (by simp only [Nat.reducePow]; omega)
  simp only [Nat.reducePow] at h0
  have h5 : ((A ||| B * 16777216 : Nat) : Int) = ((B * 16777216 + A : Nat) : Int) := congrArg _ h0
  have h6 := h.trans h5
  clear h h0 h5 e
  have h7 : ((B * 16777216 + A : Nat) : Int) = (B : Int) * 16777216 + A := by omega
  exact h6.trans h7
theorem or_u64_32 (a b : Int) (h1 : 0 ≤ a) (h2 : a < 4294967296) (h3 : 0 ≤ b) (h4 : b < 256) : bits BinOp.or IntKind.u64 a (b * 4294967296) = b * 4294967296 + a := by
  obtain ⟨A, rfl⟩ := Int.eq_ofNat_of_zero_le h1
  obtain ⟨B, rfl⟩ := Int.eq_ofNat_of_zero_le h3
  have h := u64_or_nat A (B * 4294967296) (by omega) (by omega)
  have e : ((B * 4294967296 : Nat) : Int) = (B : Int) * 4294967296 := by omega
  rw [e] at h
  have h0 := or_shift A B 32 (by simp only [Nat.reducePow]; omega)
  simp only [Nat.reducePow] at h0
  have h5 : ((A ||| B * 4294967296 : Nat) : Int) = ((B * 4294967296 + A : Nat) : Int) := congrArg _ h0
  have h6 := h.trans h5
  clear h h0 h5 e
  have h7 : ((B * 4294967296 + A : Nat) : Int) = (B : Int) * 4294967296 + A := by omega
  exact h6.trans h7
theorem or_u64_40 (a b : Int) (h1 : 0 ≤ a) (h2 : a < 1099511627776) (h3 : 0 ≤ b) (h4 : b < 256) : bits BinOp.or IntKind.u64 a (b * 1099511627776) = b * 1099511627776 + a := by
  obtain ⟨A, rfl⟩ := Int.eq_ofNat_of_zero_le h1
  obtain ⟨B, rfl⟩ := Int.eq_ofNat_of_zero_le h3
  have h := u64_or_nat A (B * 1099511627776) (by omega) (by omega)
  have e : ((B * 1099511627776 : Nat) : Int) = (B : Int) * 1099511627776 := by omega
  rw [e] at h
  have h0 := or_shift A B 40 (by simp only [Nat.reducePow]; omega)
  simp only [Nat.reducePow] at h0
  have h5 : ((A ||| B * 1099511627776 : Nat) : Int) = ((B * 1099511627776 + A : Nat) : Int) := congrArg _ h0
  have h6 := h.trans h5
  clear h h0 h5 e
  have h7 : ((B * 1099511627776 + A : Nat) : Int) = (B : Int) * 1099511627776 + A := by omega
  exact h6.trans h7
theorem or_u64_48 (a b : Int) (h1 : 0 ≤ a) (h2 : a < 281474976710656) (h3 : 0 ≤ b) (h4 : b < 256) : bits BinOp.or IntKind.u64 a (b * 281474976710656) = b * 281474976710656 + a := by
  obtain ⟨A, rfl⟩ := Int.eq_ofNat_of_zero_le h1
  obtain ⟨B, rfl⟩ := Int.eq_ofNat_of_zero_le h3
  have h := u64_or_nat A (B * 281474976710656) (by omega) (by omega)
  have e : ((B * 281474976710656 : Nat) : Int) = (B : Int) * 281474976710656 := by omega
  rw [e] at h
  have h0 := or_shift A B 48 (by simp only [Nat.reducePow]; omega)
  simp only [Nat.reducePow] at h0
  have h5 : ((A ||| B * 281474976710656 : Nat) : Int) = ((B * 281474976710656 + A : Nat) : Int) := congrArg _ h0
  have h6 := h.trans h5
  clear h h0 h5 e
  have h7 : ((B * 281474976710656 + A : Nat) : Int) = (B : Int) * 281474976710656 + A := by omega
  exact h6.trans h7
theorem or_u64_56 (a b : Int) (h1 : 0 ≤ a) (h2 : a < 72057594037927936) (h3 : 0 ≤ b) (h4 : b < 256) : bits BinOp.or IntKind.u64 a (b * 72057594037927936) = b * 72057594037927936 + a := by
  obtain ⟨A, rfl⟩ := Int.eq_ofNat_of_zero_le h1
  obtain ⟨B, rfl⟩ := Int.eq_ofNat_of_zero_le h3
  have h := u64_or_nat A (B * 72057594037927936) (by omega) (by omega)
  have e : ((B * 72057594037927936 : Nat) : Int) = (B : Int) * 72057594037927936 := by omega
  rw [e] at h
  have h0 := or_shift A B 56 (by simp only [Nat.reducePow]; omega)
  simp only [Nat.reducePow] at h0
  have h5 : ((A ||| B * 72057594037927936 : Nat) : Int) = ((B * 72057594037927936 + A : Nat) : Int) := congrArg _ h0
  have h6 := h.trans h5
  clear h h0 h5 e
  have h7 : ((B * 72057594037927936 + A : Nat) : Int) = (B : Int) * 72057594037927936 + A := by omega
  exact h6.trans h7
end Go.Proofs.Ytpmcljjhjjmlfaa
