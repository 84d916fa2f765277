/-
  Plain: texts that a Writer wrote are read back by spec.TakePack, whatever stands behind them.
-/
import Derived.Test.YtapkehellkdkjaaDoorEncRead
import Derived.Test.YtapkehellkdkjaaDoorWrittenT
namespace Go.Proofs.YtapkehellkdkjaaDoor
set_option linter.unusedSimpArgs false
set_option linter.unusedVariables false
set_option linter.unusedVariables false
open Go.RowKit
theorem tText_full (s zs : List UInt8) : tText 6 s.length (s ++ zs) = some (.mk 6 0 s 0 [], zs) := by
  unfold tText
  rw [if_neg (by rw [List.length_append]; omega), List.take_left, List.drop_left]
theorem encS_read (lv : Nat) (s zs : List UInt8) (h : s.length ≤ 65536) : tPack (lv + 1) (encS s ++ zs) = some (.mk 6 0 s 0 [], zs) := by
  unfold encS encT
  split
  · have hc : (UInt8.ofNat (160 + ((s.length : Nat) : Int)).toNat).toNat = 160 + s.length := by simp; omega
    rw [List.append_assoc, List.singleton_append]
    simp only [tPack]
    rw [hc, if_neg (by omega), if_neg (by omega), if_neg (by omega), if_neg (by omega), if_pos (by omega), show (160 + s.length) % 32 = s.length by omega]
    exact tText_full s zs
  split
  · rw [List.cons_append, List.cons_append, List.append_assoc, tPack_coded lv _ _ (by decide) (by decide), tCoded_text _ _ 1 _ _ (by decide) (by decide) (by decide), bigN_be1, show (((s.length : Nat) : Int) % 256).toNat = s.length by omega]
    exact tText_full s zs
  split
  · rw [List.cons_append, List.cons_append, List.append_assoc, tPack_coded lv _ _ (by decide) (by decide), tCoded_text _ _ 2 _ _ (by decide) (by decide) (by decide), bigN_be2, show (((s.length : Nat) : Int) % 65536).toNat = s.length by omega]
    exact tText_full s zs
  · rw [List.cons_append, List.cons_append, List.append_assoc, tPack_coded lv _ _ (by decide) (by decide), tCoded_text _ _ 4 _ _ (by decide) (by decide) (by decide), bigN_be4, show (((s.length : Nat) : Int) % 4294967296).toNat = s.length by omega]
    exact tText_full s zs
def pkT (s : List UInt8) : Pack := .mk 6 0 s 0 []
theorem ordT : ∀ (xs : List (List UInt8)), (∀ x ∈ xs, x.length ≤ 65536) → InOrd (xs.map pkT) (encs encS xs)
  | [], _ => rfl
  | x :: xs, h => by
    have hx := h x (by simp)
    have h1 := encS_read 1 x (encs encS xs) hx
    exact ⟨_, _, h1, by simp [samePk, samePs, pkT], ⟨by omega, by simp, trivial⟩, ⟨by omega, by simp, trivial⟩, ordT xs fun y hy => h y (by simp [hy])⟩
end Go.Proofs.YtapkehellkdkjaaDoor
