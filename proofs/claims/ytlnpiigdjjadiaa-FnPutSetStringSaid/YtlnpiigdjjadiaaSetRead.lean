/-
  Plain: the bytes of a set of numbers are read back by spec.TakePack as an array of them. Conditions: none.
-/
import Derived.Test.YtlnpiigdjjadiaaSetParts
import Derived.Test.YtlnpiigdjjadiaaPackSame
namespace Go.Proofs.Ytlnpiigdjjadiaa
set_option linter.unusedSimpArgs false
set_option linter.unusedVariables false
set_option linter.unusedVariables false
open Go.RowKit
theorem be_length : ∀ (s : Nat) (x : Int), (be x s).length = s
  | 0, _ => rfl
  | s + 1, x => by simp [be, be_length s]
theorem encU_posS (x : Int) : 0 < (encU x).length := by
  unfold encU
  repeat' split
  all_goals simp [be_length]
theorem encI_posS (x : Int) : 0 < (encI x).length := by
  unfold encI
  repeat' split
  all_goals simp [be_length]
theorem bigN_step (x : Int) (s : Nat) : bigN (be x (s + 1)) = bigN (be (x / 256) s) * 256 + (x % 256).toNat := by
  show bigN (be (x / 256) s ++ [_]) = _
  rw [bigN_snoc]
  congr 1
  simp
  omega
theorem bigN_be1 (x : Int) : bigN (be x 1) = (x % 256).toNat := by
  rw [bigN_step]
  simp [be, bigN]
theorem bigN_be2 (x : Int) : bigN (be x 2) = (x % 65536).toNat := by
  rw [bigN_step, bigN_be1]
  omega
theorem bigN_be3 (x : Int) : bigN (be x 3) = (x % 16777216).toNat := by
  rw [bigN_step, bigN_be2]
  omega
theorem bigN_be4 (x : Int) : bigN (be x 4) = (x % 4294967296).toNat := by
  rw [bigN_step, bigN_be3]
  omega
theorem bigN_be5 (x : Int) : bigN (be x 5) = (x % 1099511627776).toNat := by
  rw [bigN_step, bigN_be4]
  omega
theorem bigN_be6 (x : Int) : bigN (be x 6) = (x % 281474976710656).toNat := by
  rw [bigN_step, bigN_be5]
  omega
theorem bigN_be7 (x : Int) : bigN (be x 7) = (x % 72057594037927936).toNat := by
  rw [bigN_step, bigN_be6]
  omega
theorem bigN_be8 (x : Int) : bigN (be x 8) = (x % 18446744073709551616).toNat := by
  rw [bigN_step, bigN_be7]
  omega
theorem take_bez (x : Int) (s : Nat) (zs : List UInt8) : (be x s ++ zs).take s = be x s := List.take_left' (be_length s x)
theorem drop_bez (x : Int) (s : Nat) (zs : List UInt8) : (be x s ++ zs).drop s = zs := List.drop_left' (be_length s x)
theorem tPack_coded (lv : Nat) (c : UInt8) (r : List UInt8) (h : 192 ≤ c.toNat) (h' : c.toNat < 224) : tPack (lv + 1) (c :: r) = tCoded (tPack lv) c.toNat r := by
  simp only [tPack]
  rw [if_neg (by omega), if_neg (by omega), if_neg (by omega), if_neg (by omega), if_neg (by omega)]
theorem tCoded_uint (f : List UInt8 → Option (Pack × List UInt8)) (b s : Nat) (x : Int) (zs : List UInt8) (hs : codeSize b = s) (h1 : 204 ≤ b) (h2 : b ≤ 207) : tCoded f b (be x s ++ zs) = some (.mk 3 (bigN (be x s)) [] 0 [], zs) := by
  unfold tCoded
  simp only [hs]
  rw [if_neg (by rw [List.length_append, be_length]; omega), if_neg (by omega), if_neg (by omega), if_neg (by omega), if_neg (by omega), if_neg (by omega), if_neg (by omega), if_pos h2, take_bez, drop_bez]
theorem tCoded_int (f : List UInt8 → Option (Pack × List UInt8)) (b s : Nat) (x : Int) (zs : List UInt8) (hs : codeSize b = s) (h1 : 208 ≤ b) (h2 : b ≤ 211) :
    tCoded f b (be x s ++ zs) = if 0 ≤ signed s (bigN (be x s)) then some (.mk 3 (bigN (be x s)) [] 0 [], zs) else some (.mk 2 (signed s (bigN (be x s)) + 18446744073709551616).toNat [] 0 [], zs) := by
  unfold tCoded
  simp only [hs]
  rw [if_neg (by rw [List.length_append, be_length]; omega), if_neg (by omega), if_neg (by omega), if_neg (by omega), if_neg (by omega), if_neg (by omega), if_neg (by omega), if_neg (by omega), if_pos h2, take_bez, drop_bez]
theorem tCoded_text (f : List UInt8 → Option (Pack × List UInt8)) (b s : Nat) (x : Int) (zs : List UInt8) (hs : codeSize b = s) (h1 : 217 ≤ b) (h2 : b ≤ 219) : tCoded f b (be x s ++ zs) = tText 6 (bigN (be x s)) zs := by
  unfold tCoded
  simp only [hs]
  rw [if_neg (by rw [List.length_append, be_length]; omega), if_neg (by omega), if_neg (by omega), if_neg (by omega), if_neg (by omega), if_neg (by omega), if_neg (by omega), if_neg (by omega), if_neg (by omega), if_neg (by omega), if_pos h2, take_bez, drop_bez]
theorem encU_read (lv X : Nat) (hX : X < 18446744073709551616) (zs : List UInt8) : tPack (lv + 1) (encU (X : Int) ++ zs) = some (.mk 3 X [] 0 [], zs) := by
  unfold encU
  split
  · rename_i h
    have hc : (UInt8.ofNat ((X : Int).toNat)).toNat = X := by simp; omega
    rw [List.singleton_append]
    simp only [tPack]
    rw [hc, if_pos (by omega)]
  split
  · rw [List.cons_append, tPack_coded lv _ _ (by decide) (by decide), tCoded_uint _ _ 1 _ zs (by decide) (by decide) (by decide), bigN_be1]
    congr 3
    omega
  split
  · rw [List.cons_append, tPack_coded lv _ _ (by decide) (by decide), tCoded_uint _ _ 2 _ zs (by decide) (by decide) (by decide), bigN_be2]
    congr 3
    omega
  split
  · rw [List.cons_append, tPack_coded lv _ _ (by decide) (by decide), tCoded_uint _ _ 4 _ zs (by decide) (by decide) (by decide), bigN_be4]
    congr 3
    omega
  · rw [List.cons_append, tPack_coded lv _ _ (by decide) (by decide), tCoded_uint _ _ 8 _ zs (by decide) (by decide) (by decide), bigN_be8]
    congr 3
    omega
theorem encI_read (lv : Nat) (x : Int) (N : Nat) (zs : List UInt8) (h1 : -9223372036854775808 ≤ x) (h2 : x ≤ 9223372036854775807) (hN : (N : Int) = x % 18446744073709551616) :
    tPack (lv + 1) (encI x ++ zs) = some (if 0 ≤ x then .mk 3 N [] 0 [] else .mk 2 N [] 0 [], zs) := by
  unfold encI
  split
  · rename_i h0
    split
    · have hc : (UInt8.ofNat (x.toNat)).toNat = N := by simp; omega
      rw [List.singleton_append]
      simp only [tPack]
      rw [hc, if_pos (by omega)]
    split
    · rw [List.cons_append, tPack_coded lv _ _ (by decide) (by decide), tCoded_int _ _ 2 _ zs (by decide) (by decide) (by decide), bigN_be2, show (x % 65536).toNat = N by omega, if_pos (by unfold signed; simp; omega)]
    split
    · rw [List.cons_append, tPack_coded lv _ _ (by decide) (by decide), tCoded_int _ _ 4 _ zs (by decide) (by decide) (by decide), bigN_be4, show (x % 4294967296).toNat = N by omega, if_pos (by unfold signed; simp; omega)]
    · rw [List.cons_append, tPack_coded lv _ _ (by decide) (by decide), tCoded_int _ _ 8 _ zs (by decide) (by decide) (by decide), bigN_be8, show (x % 18446744073709551616).toNat = N by omega, if_pos (by unfold signed; simp; omega)]
  · rename_i h0
    split
    · have hc : (UInt8.ofNat ((x + 256).toNat)).toNat = (x + 256).toNat := by simp; omega
      rw [List.singleton_append]
      simp only [tPack]
      rw [hc, if_neg (by omega), if_pos (by omega)]
      congr 3
      omega
    split
    · rw [List.cons_append, tPack_coded lv _ _ (by decide) (by decide), tCoded_int _ _ 1 _ zs (by decide) (by decide) (by decide), bigN_be1]
      have hs : signed 1 (x % 256).toNat = x := by unfold signed; simp; omega
      rw [hs, if_neg h0]
      congr 3
      omega
    split
    · rw [List.cons_append, tPack_coded lv _ _ (by decide) (by decide), tCoded_int _ _ 2 _ zs (by decide) (by decide) (by decide), bigN_be2]
      have hs : signed 2 (x % 65536).toNat = x := by unfold signed; simp; omega
      rw [hs, if_neg h0]
      congr 3
      omega
    split
    · rw [List.cons_append, tPack_coded lv _ _ (by decide) (by decide), tCoded_int _ _ 4 _ zs (by decide) (by decide) (by decide), bigN_be4]
      have hs : signed 4 (x % 4294967296).toNat = x := by unfold signed; simp; omega
      rw [hs, if_neg h0]
      congr 3
      omega
    · rw [List.cons_append, tPack_coded lv _ _ (by decide) (by decide), tCoded_int _ _ 8 _ zs (by decide) (by decide) (by decide), bigN_be8]
      have hs : signed 8 (x % 18446744073709551616).toNat = x := by unfold signed; simp; omega
      rw [hs, if_neg h0]
      congr 3
      omega
/-- An array of things that are read back one behind the other. -/
theorem kids_read (lv : Nat) (f : Int → List UInt8) (g : Int → Pack) : ∀ (xs : List Int) (zs : List UInt8), (∀ x ∈ xs, ∀ zs, tPack lv (f x ++ zs) = some (g x, zs)) → tKids (tPack lv) xs.length ((xs.map f).flatten ++ zs) = some (xs.map g, zs)
  | [], zs, _ => by simp [tKids]
  | x :: xs, zs, h => by
    have h1 := h x (by simp) ((xs.map f).flatten ++ zs)
    have h2 := kids_read lv f g xs zs (fun y hy => h y (by simp [hy]))
    simp only [List.map_cons, List.flatten_cons, List.length_cons, List.append_assoc, tKids]
    rw [h1]
    simp only
    rw [h2]
theorem flat_len (f : Int → List UInt8) : ∀ xs : List Int, (∀ x ∈ xs, 0 < (f x).length) → xs.length ≤ ((xs.map f).flatten).length
  | [], _ => by simp
  | x :: xs, h => by
    have h1 := h x (by simp)
    have h2 := flat_len f xs (fun y hy => h y (by simp [hy]))
    simp only [List.map_cons, List.flatten_cons, List.length_cons, List.length_append]
    omega
theorem arr_read (lv : Nat) (f : Int → List UInt8) (g : Int → Pack) (xs : List Int) (hn : xs.length ≤ 100) (hpos : ∀ x ∈ xs, 0 < (f x).length) (h : ∀ x ∈ xs, ∀ zs, tPack lv (f x ++ zs) = some (g x, zs)) :
    tPack (lv + 1) (arrHead xs.length ++ (xs.map f).flatten) = some (.mk 8 0 [] 0 (xs.map g), []) := by
  have hk := kids_read lv f g xs [] h
  rw [List.append_nil] at hk
  have hl := flat_len f xs hpos
  unfold arrHead
  split
  · rename_i h15
    have hc : (UInt8.ofNat (144 + xs.length)).toNat = 144 + xs.length := by simp; omega
    rw [List.singleton_append]
    simp only [tPack]
    rw [hc, if_neg (by omega), if_neg (by omega), if_neg (by omega), if_pos (by omega), show (144 + xs.length) % 16 = xs.length by omega]
    unfold tList
    rw [hk]
    rfl
  · rename_i h15
    rw [List.cons_append, tPack_coded lv _ _ (by decide) (by decide)]
    unfold tCoded
    have hs : codeSize (220 : UInt8).toNat = 2 := by decide
    have hbl : (be (xs.length : Int) 2).length = 2 := by simp [be]
    have hb : bigN (be (xs.length : Int) 2) = xs.length := by
      rw [bigN_be2]
      omega
    simp only [hs]
    rw [if_neg (by simp [be]), List.take_left' hbl, List.drop_left' hbl, hb]
    rw [if_neg (by decide), if_neg (by decide), if_neg (by decide), if_neg (by decide), if_neg (by decide), if_neg (by decide), if_neg (by decide), if_neg (by decide), if_neg (by decide), if_neg (by decide), if_neg (by omega), if_pos (by decide)]
    unfold tList
    rw [hk]
    rfl
theorem goodPs_flat (g : Int → Pack) : ∀ xs : List Int, (∀ x ∈ xs, GoodP (g x)) → GoodPs (xs.map g)
  | [], _ => trivial
  | x :: xs, h => ⟨h x (by simp), goodPs_flat g xs (fun y hy => h y (by simp [hy]))⟩
theorem samePs_map (g g' : Int → Pack) : ∀ xs : List Int, (∀ x ∈ xs, samePk (g x) (g' x) = true) → samePs (xs.map g) (xs.map g') = true
  | [], _ => rfl
  | x :: xs, h => by
    simp only [List.map_cons, samePs, h x (by simp), samePs_map g g' xs (fun y hy => h y (by simp [hy])), Bool.and_self]
end Go.Proofs.Ytlnpiigdjjadiaa
