/-
  Plain: the bytes that msgp writes for numbers and heads of texts. No Go in it but names.
-/
import Derived.Test.YtapkehellkdkjaaPuts
namespace Go.Proofs.Ytapkehellkdkjaa
set_option linter.unusedSimpArgs false
set_option linter.unusedVariables false
def encU (x : Int) : List UInt8 :=
  if x ≤ 127 then [UInt8.ofNat x.toNat] else if x ≤ 255 then 204 :: be x 1 else if x ≤ 65535 then 205 :: be x 2 else if x ≤ 4294967295 then 206 :: be x 4 else 207 :: be x 8
def encI (x : Int) : List UInt8 :=
  if 0 ≤ x then (if x ≤ 127 then [UInt8.ofNat x.toNat] else if x ≤ 32767 then 209 :: be x 2 else if x ≤ 2147483647 then 210 :: be x 4 else 211 :: be x 8)
  else (if -32 ≤ x then [UInt8.ofNat (x + 256).toNat] else if -128 ≤ x then 208 :: be x 1 else if -32768 ≤ x then 209 :: be x 2 else if -2147483648 ≤ x then 210 :: be x 4 else 211 :: be x 8)
def encT (x : Int) : List UInt8 :=
  if x ≤ 31 then [UInt8.ofNat (160 + x).toNat] else if x ≤ 255 then 217 :: be x 1 else if x ≤ 65535 then 218 :: be x 2 else 219 :: be x 4
theorem be_cons (x : Int) (s : Nat) : be x (s + 1) = be (x / 256) s ++ [UInt8.ofNat (x % 256).toNat] := rfl
theorem be_mod1 (x y : Int) (h : x % 256 = y % 256) : be x 1 = be y 1 := by
  rw [be_cons x, be_cons y, h]
  rfl
theorem be_mod2 (x y : Int) (h : x % 65536 = y % 65536) : be x 2 = be y 2 := by
  rw [be_cons x, be_cons y, be_mod1 (x / 256) (y / 256) (by omega), show x % 256 = y % 256 by omega]
theorem be_mod3 (x y : Int) (h : x % 16777216 = y % 16777216) : be x 3 = be y 3 := by
  rw [be_cons x, be_cons y, be_mod2 (x / 256) (y / 256) (by omega), show x % 256 = y % 256 by omega]
theorem be_mod4 (x y : Int) (h : x % 4294967296 = y % 4294967296) : be x 4 = be y 4 := by
  rw [be_cons x, be_cons y, be_mod3 (x / 256) (y / 256) (by omega), show x % 256 = y % 256 by omega]
theorem be_mod5 (x y : Int) (h : x % 1099511627776 = y % 1099511627776) : be x 5 = be y 5 := by
  rw [be_cons x, be_cons y, be_mod4 (x / 256) (y / 256) (by omega), show x % 256 = y % 256 by omega]
theorem be_mod6 (x y : Int) (h : x % 281474976710656 = y % 281474976710656) : be x 6 = be y 6 := by
  rw [be_cons x, be_cons y, be_mod5 (x / 256) (y / 256) (by omega), show x % 256 = y % 256 by omega]
theorem be_mod7 (x y : Int) (h : x % 72057594037927936 = y % 72057594037927936) : be x 7 = be y 7 := by
  rw [be_cons x, be_cons y, be_mod6 (x / 256) (y / 256) (by omega), show x % 256 = y % 256 by omega]
theorem be_mod8 (x y : Int) (h : x % 18446744073709551616 = y % 18446744073709551616) : be x 8 = be y 8 := by
  rw [be_cons x, be_cons y, be_mod7 (x / 256) (y / 256) (by omega), show x % 256 = y % 256 by omega]
theorem be_length : ∀ (s : Nat) (x : Int), (be x s).length = s
  | 0, _ => rfl
  | s + 1, x => by simp [be, be_length s]
theorem encU_len (x : Int) : (encU x).length ≤ 9 ∧ 0 < (encU x).length := by
  unfold encU
  repeat' split
  all_goals simp [be_length]
theorem encI_len (x : Int) : (encI x).length ≤ 9 ∧ 0 < (encI x).length := by
  unfold encI
  repeat' split
  all_goals simp [be_length]
theorem encT_len (x : Int) : (encT x).length ≤ 9 ∧ 0 < (encT x).length := by
  unfold encT
  repeat' split
  all_goals simp [be_length]
end Go.Proofs.Ytapkehellkdkjaa
