/-
  The reference's comparison of two values of MessagePack (spec.SamePack) computes the plain function samePk; conditions: both read as values in memory.
-/
import Derived.Test.YtloaaffkjhkpaaaDoorPackRead
import Derived.Deep.RegionHeld3
import Derived.Deep.DeepCutAuto
import Derived.StillTailTactics
namespace Go.Proofs.YtloaaffkjhkpaaaDoor
set_option linter.unusedSimpArgs false
set_option linter.unusedVariables false
set_option linter.unusedVariables false
open Go.RowKit
/-- Its kind, non-negative integers as unsigned ones. -/
def nk (kind : Int) (num : Nat) : Int := if kind = 2 ∧ num < 9223372036854775808 then 3 else kind
mutual
/-- A value whose numbers fit their cells, with lists of at most 2^40 elements. -/
def GoodP : Pack → Prop
  | .mk _ n _ _ ks => n < 18446744073709551616 ∧ ks.length ≤ 1099511627776 ∧ GoodPs ks
def GoodPs : List Pack → Prop
  | [] => True
  | p :: ps => GoodP p ∧ GoodPs ps
end
mutual
def samePk : Pack → Pack → Bool
  | .mk k n t e ks, .mk k' n' t' e' ks' => nk k n == nk k' n' && n == n' && t == t' && e == e' && samePs ks ks'
def samePs : List Pack → List Pack → Bool
  | [], [] => true
  | p :: ps, q :: qs => samePk p q && samePs ps qs
  | _, _ => false
end
theorem wrap64_pos (n : Nat) (h : n < 18446744073709551616) : (0 ≤ wrap64 (n : Int)) ↔ n < 9223372036854775808 := by
  unfold wrap64
  omega
/-- What the heads of two values must be. -/
def headB (k k' e e' : Int) (n n' : Nat) (t t' : List UInt8) (kl kl' : Nat) : Bool := nk k n == nk k' n' && n == n' && t == t' && e == e' && kl == kl'
theorem samePs_snoc : ∀ (ps qs : List Pack) (p q : Pack), ps.length = qs.length → samePs (ps ++ [p]) (qs ++ [q]) = (samePs ps qs && samePk p q)
  | [], [], p, q, _ => by simp [samePs]
  | [], _ :: _, _, _, h => by simp at h
  | _ :: _, [], _, _, h => by simp at h
  | a :: ps, b :: qs, p, q, h => by
    simp only [List.cons_append, samePs]
    rw [samePs_snoc ps qs p q (by simpa using h), Bool.and_assoc]
theorem samePs_false : ∀ (ps qs : List Pack) (k : Nat) (h1 : k < ps.length) (h2 : k < qs.length), samePk ps[k] qs[k] = false → samePs ps qs = false
  | [], _, k, h1, _, _ => by simp at h1
  | _ :: _, [], k, _, h2, _ => by simp at h2
  | p :: ps, q :: qs, 0, _, _, h => by
    simp only [List.getElem_cons_zero] at h
    simp [samePs, h]
  | p :: ps, q :: qs, k + 1, h1, h2, h => by
    simp only [List.getElem_cons_succ] at h
    simp [samePs, samePs_false ps qs k (by simpa using h1) (by simpa using h2) h]
theorem same_take (ps qs : List Pack) (k : Nat) (h1 : k < ps.length) (h2 : k < qs.length) (h : samePs (ps.take k) (qs.take k) = true) (hk : samePk ps[k] qs[k] = true) : samePs (ps.take (k + 1)) (qs.take (k + 1)) = true := by
  rw [List.take_succ_eq_append_getElem h1, List.take_succ_eq_append_getElem h2, samePs_snoc _ _ _ _ (by simp; omega), h, hk]
  rfl
theorem samePs_len : ∀ (ps qs : List Pack), ps.length ≠ qs.length → samePs ps qs = false
  | [], [], h => absurd rfl h
  | [], _ :: _, _ => rfl
  | _ :: _, [], _ => rfl
  | p :: ps, q :: qs, h => by
    simp only [samePs]
    rw [samePs_len ps qs (by simpa using h)]
    simp
theorem samePk_head {k k' e e' : Int} {n n' : Nat} {t t' : List UInt8} {ps qs : List Pack} (h : headB k k' e e' n n' t t' ps.length qs.length = false) : samePk (.mk k n t e ps) (.mk k' n' t' e' qs) = false := by
  unfold headB at h
  unfold samePk
  by_cases hl : ps.length = qs.length
  · rw [hl] at h
    simp only [beq_self_eq_true, Bool.and_true] at h
    rw [h]
    rfl
  · rw [samePs_len ps qs hl]
    simp
theorem goodPs_mem : ∀ (ps : List Pack), GoodPs ps → ∀ p ∈ ps, GoodP p
  | [], _, p, h => by simp at h
  | q :: qs, h, p, hp => by
    unfold GoodPs at h
    rcases List.mem_cons.1 hp with rfl | hp
    · exact h.1
    · exact goodPs_mem qs h.2 p hp
end Go.Proofs.YtloaaffkjhkpaaaDoor
