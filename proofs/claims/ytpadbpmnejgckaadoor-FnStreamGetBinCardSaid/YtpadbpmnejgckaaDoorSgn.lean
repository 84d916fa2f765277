/-
  A number of so many bytes, as one with a sign. No Go in it but for the names.
-/
import Derived.Test.YtpadbpmnejgckaaDoorBytesR
namespace Go.Proofs.YtpadbpmnejgckaaDoor
set_option linter.unusedSimpArgs false
set_option linter.unusedVariables false
open Go.RowKit
/-- A number of so many bytes, as one with a sign. -/
def sgn (s u : Nat) : Int := if u < 2 ^ (8 * s - 1) then (u : Int) else (u : Int) - 2 ^ (8 * s)
theorem sgn1 (u : Nat) (h : u < 256) : IntKind.i8.wrap (u : Int) = sgn 1 u := by simp [IntKind.wrap, IntKind.bits, IntKind.signed, sgn]; split <;> omega
theorem sgn2 (u : Nat) (h : u < 65536) : IntKind.i16.wrap (u : Int) = sgn 2 u := by simp [IntKind.wrap, IntKind.bits, IntKind.signed, sgn]; split <;> omega
theorem sgn4 (u : Nat) (h : u < 4294967296) : IntKind.i32.wrap (u : Int) = sgn 4 u := by simp [IntKind.wrap, IntKind.bits, IntKind.signed, sgn]; split <;> omega
theorem sgn8 (u : Nat) (h : u < 18446744073709551616) : wrap64 (u : Int) = sgn 8 u := by unfold wrap64; simp [sgn]; split <;> omega
theorem sgn_lo (s u : Nat) (hs : s = 1 ∨ s = 2 ∨ s = 4 ∨ s = 8) (h : u < 256 ^ s) : -9223372036854775808 ≤ sgn s u ∧ sgn s u ≤ 9223372036854775807 := by
  rcases hs with rfl | rfl | rfl | rfl <;> simp [sgn] at h ⊢ <;> split <;> omega
theorem sgn_lo1 (u : Nat) (h : u < 256) : -128 ≤ sgn 1 u ∧ sgn 1 u ≤ 127 := by simp [sgn]; split <;> omega
theorem sgn_lo2 (u : Nat) (h : u < 65536) : -32768 ≤ sgn 2 u ∧ sgn 2 u ≤ 32767 := by simp [sgn]; split <;> omega
theorem sgn_lo4 (u : Nat) (h : u < 4294967296) : -2147483648 ≤ sgn 4 u ∧ sgn 4 u ≤ 2147483647 := by simp [sgn]; split <;> omega
end Go.Proofs.YtpadbpmnejgckaaDoor
