/-
  Plain: the bytes of a set of texts are read back by spec.TakePack as an array of them. Conditions: texts of at most 1000 bytes.
-/
import Derived.Test.YtlnpiigdjjadiaaSetRead
import Derived.Test.YtlnpiigdjjadiaaAppStr
import Derived.Test.YtlnpiigdjjadiaaSetS
namespace Go.Proofs.Ytlnpiigdjjadiaa
set_option linter.unusedSimpArgs false
set_option linter.unusedVariables false
set_option linter.unusedVariables false
open Go.RowKit
theorem tText_at (s zs : List UInt8) : tText 6 s.length (s ++ zs) = some (.mk 6 0 s 0 [], zs) := by
  unfold tText
  rw [if_neg (by simp), List.take_left' rfl, List.drop_left' rfl]
theorem encT_pos (s : Str) : 0 < (encT s).length := by
  unfold encT strHead
  repeat' split
  all_goals simp
theorem encT_read (lv : Nat) (s : Str) (h : s.length ≤ 1000) (zs : List UInt8) : tPack (lv + 1) (encT s ++ zs) = some (.mk 6 0 s 0 [], zs) := by
  unfold encT strHead
  rw [List.append_assoc]
  split
  · rename_i h1
    have hc : (UInt8.ofNat (160 + s.length)).toNat = 160 + s.length := by simp; omega
    rw [List.singleton_append]
    simp only [tPack]
    rw [hc, if_neg (by omega), if_neg (by omega), if_neg (by omega), if_neg (by omega), if_pos (by omega), show (160 + s.length) % 32 = s.length by omega, tText_at]
  split
  · rename_i h1 h2
    rw [List.cons_append, tPack_coded lv _ _ (by decide) (by decide), tCoded_text _ _ 1 _ _ (by decide) (by decide) (by decide), bigN_be1, show ((s.length : Int) % 256).toNat = s.length by omega, tText_at]
  · rename_i h1 h2
    rw [List.cons_append, tPack_coded lv _ _ (by decide) (by decide), tCoded_text _ _ 2 _ _ (by decide) (by decide) (by decide), bigN_be2, show ((s.length : Int) % 65536).toNat = s.length by omega, tText_at]
/-- An array of things that are read back one behind the other. -/
theorem kids_readS (lv : Nat) (f : Str → List UInt8) (g : Str → Pack) : ∀ (xs : List Str) (zs : List UInt8), (∀ x ∈ xs, ∀ zs, tPack lv (f x ++ zs) = some (g x, zs)) → tKids (tPack lv) xs.length ((xs.map f).flatten ++ zs) = some (xs.map g, zs)
  | [], zs, _ => by simp [tKids]
  | x :: xs, zs, h => by
    have h1 := h x (by simp) ((xs.map f).flatten ++ zs)
    have h2 := kids_readS lv f g xs zs (fun y hy => h y (by simp [hy]))
    simp only [List.map_cons, List.flatten_cons, List.length_cons, List.append_assoc, tKids]
    rw [h1]
    simp only
    rw [h2]
theorem flat_lenS (f : Str → List UInt8) : ∀ xs : List Str, (∀ x ∈ xs, 0 < (f x).length) → xs.length ≤ ((xs.map f).flatten).length
  | [], _ => by simp
  | x :: xs, h => by
    have h1 := h x (by simp)
    have h2 := flat_lenS f xs (fun y hy => h y (by simp [hy]))
    simp only [List.map_cons, List.flatten_cons, List.length_cons, List.length_append]
    omega
theorem arr_readS (lv : Nat) (f : Str → List UInt8) (g : Str → Pack) (xs : List Str) (hn : xs.length ≤ 100) (hpos : ∀ x ∈ xs, 0 < (f x).length) (h : ∀ x ∈ xs, ∀ zs, tPack lv (f x ++ zs) = some (g x, zs)) :
    tPack (lv + 1) (arrHead xs.length ++ (xs.map f).flatten) = some (.mk 8 0 [] 0 (xs.map g), []) := by
  have hk := kids_readS lv f g xs [] h
  rw [List.append_nil] at hk
  have hl := flat_lenS f xs hpos
  unfold arrHead
  split
  · rename_i h15
    have hc : (UInt8.ofNat (144 + xs.length)).toNat = 144 + xs.length := by simp; omega
    rw [List.singleton_append]
    simp only [tPack]
    rw [hc, if_neg (by omega), if_neg (by omega), if_neg (by omega), if_pos (by omega), show (144 + xs.length) % 16 = xs.length by omega]
    unfold tList
    rw [hk]
    rfl
  · rename_i h15
    rw [List.cons_append, tPack_coded lv _ _ (by decide) (by decide)]
    unfold tCoded
    have hs : codeSize (220 : UInt8).toNat = 2 := by decide
    have hbl : (be (xs.length : Int) 2).length = 2 := by simp [be]
    have hb : bigN (be (xs.length : Int) 2) = xs.length := by
      rw [bigN_be2]
      omega
    simp only [hs]
    rw [if_neg (by simp [be]), List.take_left' hbl, List.drop_left' hbl, hb]
    rw [if_neg (by decide), if_neg (by decide), if_neg (by decide), if_neg (by decide), if_neg (by decide), if_neg (by decide), if_neg (by decide), if_neg (by decide), if_neg (by decide), if_neg (by decide), if_neg (by omega), if_pos (by decide)]
    unfold tList
    rw [hk]
    rfl
theorem goodPs_flatS (g : Str → Pack) : ∀ xs : List Str, (∀ x ∈ xs, GoodP (g x)) → GoodPs (xs.map g)
  | [], _ => trivial
  | x :: xs, h => ⟨h x (by simp), goodPs_flatS g xs (fun y hy => h y (by simp [hy]))⟩
theorem samePs_mapS (g g' : Str → Pack) : ∀ xs : List Str, (∀ x ∈ xs, samePk (g x) (g' x) = true) → samePs (xs.map g) (xs.map g') = true
  | [], _ => rfl
  | x :: xs, h => by
    simp only [List.map_cons, samePs, h x (by simp), samePs_mapS g g' xs (fun y hy => h y (by simp [hy])), Bool.and_self]
end Go.Proofs.Ytlnpiigdjjadiaa
