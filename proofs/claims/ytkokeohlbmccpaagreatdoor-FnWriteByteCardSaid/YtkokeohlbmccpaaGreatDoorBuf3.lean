/-
  encoding.WriteDouble into a buffer of one's own; impl.noData where nothing panics. Conditions: fewer than 2^40 bytes.
-/
import Derived.Test.YtkokeohlbmccpaaGreatDoorBuf2
import Derived.Laws.Externs
import Derived.Recover
namespace Go.Proofs.YtkokeohlbmccpaaGreatDoor
set_option linter.unusedSimpArgs false
set_option linter.unusedVariables false
open Go.RowKit
theorem bits64 (n : Nat) (w : World) : (callFunc 67 #[.float .f64 n]).run Tryz.prog w = .ok (.value (.int .u64 n)) w := by
  rw [run_callFunc_extern (e := Extern.MathFloatBits.float64bits) Tryz.func67 (by kernel_rfl) (by kernel_rfl) (by kernel_rfl) (by kernel_rfl)]
  rfl
/-- The eight bytes of a number, the highest first. -/
def be8 (n : Nat) : List UInt8 := [UInt8.ofNat (n / 72057594037927936), UInt8.ofNat (n / 281474976710656), UInt8.ofNat (n / 1099511627776), UInt8.ofNat (n / 4294967296), UInt8.ofNat (n / 16777216), UInt8.ofNat (n / 65536), UInt8.ofNat (n / 256), UInt8.ofNat n]
set_option maxHeartbeats 400000 in
theorem writeDouble_any (p : Nat) (bs : List UInt8) (n : Nat) (hn : n < 18446744073709551616) (w : World) (h : Buf w p bs) (hlen : bs.length ≤ 1000000) :
    Calls Tryz.prog 34 #[.pointer (some ⟨p, 0, none⟩), .float .f64 n] w fun e w' => e = .returned (.tuple #[]) ∧ Buf w' p (bs ++ 130 :: be8 n) ∧ Below p w w' := by
  have hbits := bits64 n
  go_enter Tryz.func34, Tryz.ntmps34
  go_wp2_with (first
    | (go_at_call 26; go_loud (refine (appendByte_any p bs 130 _ h (by omega)).mono ?_; rintro e w1 ⟨rfl, hb1, hw1⟩))
    | (go_at_call 64; go_loud (refine (appendUint64_any p (bs ++ [130]) n _ hb1 (by simp; omega) hn).mono ?_; rintro e w2 ⟨rfl, hb2, hw2⟩)))
  go_end0
  exact ⟨rfl, by simpa [be8] using hb2, hw1.trans hw2⟩
end Go.Proofs.YtkokeohlbmccpaaGreatDoor
