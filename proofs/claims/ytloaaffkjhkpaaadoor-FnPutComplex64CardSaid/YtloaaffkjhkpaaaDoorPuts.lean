/-
  The small writers of msgp (integers.go): each writes a code and the bytes of a number behind what a row holds. Conditions: there is room in the row.
-/
import Derived.Test.YtloaaffkjhkpaaaDoorPut1
namespace Go.Proofs.YtloaaffkjhkpaaaDoor
set_option linter.unusedSimpArgs false
set_option linter.unusedVariables false
open Go.RowKit
/-- The bytes of a number, s of them, the highest first. -/
def be : Int → Nat → List UInt8
  | _, 0 => []
  | x, s + 1 => be (x / 256) s ++ [UInt8.ofNat (x % 256).toNat]
theorem u8_ofInt (x : Int) : u8 (UInt8.ofNat (x % 256).toNat) = .int .u8 (x % 256) := by
  unfold u8
  simp
  omega
theorem Row.cast {w : World} {t : TypeId} {g cap : Nat} {xs ys : List Value} (e : xs = ys) (h : Row w t g cap xs) : Row w t g cap ys := e ▸ h
end Go.Proofs.YtloaaffkjhkpaaaDoor
