/-
  Plain: numbers and texts that a Writer wrote are read back by spec.TakePack, whatever stands behind them.
-/
import Derived.Test.YtapkehellkdkjaaEncs
import Derived.Test.YtapkehellkdkjaaInOrder
import Derived.Test.YtapkehellkdkjaaWritten
namespace Go.Proofs.Ytapkehellkdkjaa
set_option linter.unusedSimpArgs false
set_option linter.unusedVariables false
set_option linter.unusedVariables false
open Go.RowKit
theorem bigN_step (x : Int) (s : Nat) : bigN (be x (s + 1)) = bigN (be (x / 256) s) * 256 + (x % 256).toNat := by
  show bigN (be (x / 256) s ++ [_]) = _
  rw [bigN_snoc]
  congr 1
  simp
  omega
theorem bigN_be1 (x : Int) : bigN (be x 1) = (x % 256).toNat := by
  rw [bigN_step]
  simp [be, bigN]
theorem bigN_be2 (x : Int) : bigN (be x 2) = (x % 65536).toNat := by
  rw [bigN_step, bigN_be1]
  omega
theorem bigN_be3 (x : Int) : bigN (be x 3) = (x % 16777216).toNat := by
  rw [bigN_step, bigN_be2]
  omega
theorem bigN_be4 (x : Int) : bigN (be x 4) = (x % 4294967296).toNat := by
  rw [bigN_step, bigN_be3]
  omega
theorem bigN_be5 (x : Int) : bigN (be x 5) = (x % 1099511627776).toNat := by
  rw [bigN_step, bigN_be4]
  omega
theorem bigN_be6 (x : Int) : bigN (be x 6) = (x % 281474976710656).toNat := by
  rw [bigN_step, bigN_be5]
  omega
theorem bigN_be7 (x : Int) : bigN (be x 7) = (x % 72057594037927936).toNat := by
  rw [bigN_step, bigN_be6]
  omega
theorem bigN_be8 (x : Int) : bigN (be x 8) = (x % 18446744073709551616).toNat := by
  rw [bigN_step, bigN_be7]
  omega
theorem take_bez (x : Int) (s : Nat) (zs : List UInt8) : (be x s ++ zs).take s = be x s := List.take_left' (be_length s x)
theorem drop_bez (x : Int) (s : Nat) (zs : List UInt8) : (be x s ++ zs).drop s = zs := List.drop_left' (be_length s x)
theorem tPack_coded (lv : Nat) (c : UInt8) (r : List UInt8) (h : 192 ≤ c.toNat) (h' : c.toNat < 224) : tPack (lv + 1) (c :: r) = tCoded (tPack lv) c.toNat r := by
  simp only [tPack]
  rw [if_neg (by omega), if_neg (by omega), if_neg (by omega), if_neg (by omega), if_neg (by omega)]
theorem tCoded_uint (f : List UInt8 → Option (Pack × List UInt8)) (b s : Nat) (x : Int) (zs : List UInt8) (hs : codeSize b = s) (h1 : 204 ≤ b) (h2 : b ≤ 207) : tCoded f b (be x s ++ zs) = some (.mk 3 (bigN (be x s)) [] 0 [], zs) := by
  unfold tCoded
  simp only [hs]
  rw [if_neg (by rw [List.length_append, be_length]; omega), if_neg (by omega), if_neg (by omega), if_neg (by omega), if_neg (by omega), if_neg (by omega), if_neg (by omega), if_pos h2, take_bez, drop_bez]
theorem tCoded_int (f : List UInt8 → Option (Pack × List UInt8)) (b s : Nat) (x : Int) (zs : List UInt8) (hs : codeSize b = s) (h1 : 208 ≤ b) (h2 : b ≤ 211) :
    tCoded f b (be x s ++ zs) = if 0 ≤ signed s (bigN (be x s)) then some (.mk 3 (bigN (be x s)) [] 0 [], zs) else some (.mk 2 (signed s (bigN (be x s)) + 18446744073709551616).toNat [] 0 [], zs) := by
  unfold tCoded
  simp only [hs]
  rw [if_neg (by rw [List.length_append, be_length]; omega), if_neg (by omega), if_neg (by omega), if_neg (by omega), if_neg (by omega), if_neg (by omega), if_neg (by omega), if_neg (by omega), if_pos h2, take_bez, drop_bez]
theorem tCoded_text (f : List UInt8 → Option (Pack × List UInt8)) (b s : Nat) (x : Int) (zs : List UInt8) (hs : codeSize b = s) (h1 : 217 ≤ b) (h2 : b ≤ 219) : tCoded f b (be x s ++ zs) = tText 6 (bigN (be x s)) zs := by
  unfold tCoded
  simp only [hs]
  rw [if_neg (by rw [List.length_append, be_length]; omega), if_neg (by omega), if_neg (by omega), if_neg (by omega), if_neg (by omega), if_neg (by omega), if_neg (by omega), if_neg (by omega), if_neg (by omega), if_neg (by omega), if_pos h2, take_bez, drop_bez]
theorem encU_read (lv X : Nat) (hX : X < 18446744073709551616) (zs : List UInt8) : tPack (lv + 1) (encU (X : Int) ++ zs) = some (.mk 3 X [] 0 [], zs) := by
  unfold encU
  split
  · rename_i h
    have hc : (UInt8.ofNat ((X : Int).toNat)).toNat = X := by simp; omega
    rw [List.singleton_append]
    simp only [tPack]
    rw [hc, if_pos (by omega)]
  split
  · rw [List.cons_append, tPack_coded lv _ _ (by decide) (by decide), tCoded_uint _ _ 1 _ zs (by decide) (by decide) (by decide), bigN_be1]
    congr 3
    omega
  split
  · rw [List.cons_append, tPack_coded lv _ _ (by decide) (by decide), tCoded_uint _ _ 2 _ zs (by decide) (by decide) (by decide), bigN_be2]
    congr 3
    omega
  split
  · rw [List.cons_append, tPack_coded lv _ _ (by decide) (by decide), tCoded_uint _ _ 4 _ zs (by decide) (by decide) (by decide), bigN_be4]
    congr 3
    omega
  · rw [List.cons_append, tPack_coded lv _ _ (by decide) (by decide), tCoded_uint _ _ 8 _ zs (by decide) (by decide) (by decide), bigN_be8]
    congr 3
    omega
theorem encI_read (lv : Nat) (x : Int) (N : Nat) (zs : List UInt8) (h1 : -9223372036854775808 ≤ x) (h2 : x ≤ 9223372036854775807) (hN : (N : Int) = x % 18446744073709551616) :
    tPack (lv + 1) (encI x ++ zs) = some (if 0 ≤ x then .mk 3 N [] 0 [] else .mk 2 N [] 0 [], zs) := by
  unfold encI
  split
  · rename_i h0
    split
    · have hc : (UInt8.ofNat (x.toNat)).toNat = N := by simp; omega
      rw [List.singleton_append]
      simp only [tPack]
      rw [hc, if_pos (by omega)]
    split
    · rw [List.cons_append, tPack_coded lv _ _ (by decide) (by decide), tCoded_int _ _ 2 _ zs (by decide) (by decide) (by decide), bigN_be2, show (x % 65536).toNat = N by omega, if_pos (by unfold signed; simp; omega)]
    split
    · rw [List.cons_append, tPack_coded lv _ _ (by decide) (by decide), tCoded_int _ _ 4 _ zs (by decide) (by decide) (by decide), bigN_be4, show (x % 4294967296).toNat = N by omega, if_pos (by unfold signed; simp; omega)]
    · rw [List.cons_append, tPack_coded lv _ _ (by decide) (by decide), tCoded_int _ _ 8 _ zs (by decide) (by decide) (by decide), bigN_be8, show (x % 18446744073709551616).toNat = N by omega, if_pos (by unfold signed; simp; omega)]
  · rename_i h0
    split
    · have hc : (UInt8.ofNat ((x + 256).toNat)).toNat = (x + 256).toNat := by simp; omega
      rw [List.singleton_append]
      simp only [tPack]
      rw [hc, if_neg (by omega), if_pos (by omega)]
      congr 3
      omega
    split
    · rw [List.cons_append, tPack_coded lv _ _ (by decide) (by decide), tCoded_int _ _ 1 _ zs (by decide) (by decide) (by decide), bigN_be1]
      have hs : signed 1 (x % 256).toNat = x := by unfold signed; simp; omega
      rw [hs, if_neg h0]
      congr 3
      omega
    split
    · rw [List.cons_append, tPack_coded lv _ _ (by decide) (by decide), tCoded_int _ _ 2 _ zs (by decide) (by decide) (by decide), bigN_be2]
      have hs : signed 2 (x % 65536).toNat = x := by unfold signed; simp; omega
      rw [hs, if_neg h0]
      congr 3
      omega
    split
    · rw [List.cons_append, tPack_coded lv _ _ (by decide) (by decide), tCoded_int _ _ 4 _ zs (by decide) (by decide) (by decide), bigN_be4]
      have hs : signed 4 (x % 4294967296).toNat = x := by unfold signed; simp; omega
      rw [hs, if_neg h0]
      congr 3
      omega
    · rw [List.cons_append, tPack_coded lv _ _ (by decide) (by decide), tCoded_int _ _ 8 _ zs (by decide) (by decide) (by decide), bigN_be8]
      have hs : signed 8 (x % 18446744073709551616).toNat = x := by unfold signed; simp; omega
      rw [hs, if_neg h0]
      congr 3
      omega
theorem ordU : ∀ (xs : List Int), (∀ x ∈ xs, 0 ≤ x ∧ x ≤ 4294967295) → InOrd (xs.map fun x => .mk 3 x.toNat [] 0 []) (encs encU xs)
  | [], _ => rfl
  | x :: xs, h => by
    have hx := h x (by simp)
    have h1 := encU_read 1 x.toNat (by omega) (encs encU xs)
    rw [show ((x.toNat : Nat) : Int) = x by omega] at h1
    refine ⟨_, _, h1, by simp [samePk, samePs], ⟨by omega, by simp, trivial⟩, ⟨by omega, by simp, trivial⟩, ordU xs fun y hy => h y (by simp [hy])⟩
theorem ordI : ∀ (xs : List Int), (∀ x ∈ xs, -2147483648 ≤ x ∧ x ≤ 2147483647) → InOrd (xs.map fun x => .mk 2 (x % 18446744073709551616).toNat [] 0 []) (encs encI xs)
  | [], _ => rfl
  | x :: xs, h => by
    have hx := h x (by simp)
    have h1 := encI_read 1 x (x % 18446744073709551616).toNat (encs encI xs) (by omega) (by omega) (by omega)
    refine ⟨_, _, h1, ?_, ⟨by omega, by simp, trivial⟩, ?_, ordI xs fun y hy => h y (by simp [hy])⟩
    · split
      · unfold samePk nk
        rw [if_pos (by omega)]
        simp [samePs]
      · simp [samePk, samePs]
    · split
      · exact ⟨by omega, by simp, trivial⟩
      · exact ⟨by omega, by simp, trivial⟩
end Go.Proofs.Ytapkehellkdkjaa
