/-
  Plain: which values of MessagePack fit (spec.PackFits), how many values there are in one. No Go in it.
-/
import Derived.Test.YtpadbpmnejgckaaDoorPlain
namespace Go.Proofs.YtpadbpmnejgckaaDoor
set_option linter.unusedSimpArgs false
set_option linter.unusedVariables false
/-- What a value without its kids must be. -/
def FitHd (k : Int) (n : Nat) (t : List UInt8) (e : Int) (m : Nat) : Prop :=
  0 ≤ k ∧ k < 11 ∧ ((k = 8 ∨ k = 9) ∨ m = 0) ∧ ((k = 6 ∨ k = 7 ∨ k = 10) ∨ t = []) ∧ ((1 ≤ k ∧ k ≤ 5) ∨ n = 0) ∧ (k = 10 ∨ e = 0) ∧ -128 ≤ e ∧ e ≤ 127 ∧
  (k = 1 → n ≤ 1) ∧ (k = 4 → n < 4294967296) ∧ (k = 9 → m % 2 = 0) ∧ m ≤ 2000 ∧ t.length ≤ 131072
mutual
def FitsP : Pack → Prop
  | .mk k n t e ks => FitHd k n t e ks.length ∧ FitsPs ks
def FitsPs : List Pack → Prop
  | [] => True
  | p :: ps => FitsP p ∧ FitsPs ps
end
theorem FitsPs_snoc : ∀ (ps : List Pack) (p : Pack), FitsPs ps → FitsP p → FitsPs (ps ++ [p])
  | [], p, _, h => ⟨h, trivial⟩
  | q :: ps, p, h, hp => by
    unfold FitsPs at h
    simp only [List.cons_append]
    unfold FitsPs
    exact ⟨h.1, FitsPs_snoc ps p h.2 hp⟩
theorem FitsPs_at : ∀ (ps : List Pack), FitsPs ps → ∀ p ∈ ps, FitsP p
  | [], _, p, hp => by simp at hp
  | q :: ps, h, p, hp => by
    unfold FitsPs at h
    rcases List.mem_cons.1 hp with rfl | hp
    · exact h.1
    · exact FitsPs_at ps h.2 p hp
mutual
/-- The numbers are of 64 bits. -/
def WfP : Pack → Prop
  | .mk _ n _ _ ks => n < 18446744073709551616 ∧ WfPs ks
def WfPs : List Pack → Prop
  | [] => True
  | p :: ps => WfP p ∧ WfPs ps
end
theorem WfPs_at : ∀ (ps : List Pack), WfPs ps → ∀ p ∈ ps, WfP p
  | [], _, p, hp => by simp at hp
  | q :: ps, h, p, hp => by
    unfold WfPs at h
    rcases List.mem_cons.1 hp with rfl | hp
    · exact h.1
    · exact WfPs_at ps h.2 p hp
end Go.Proofs.YtpadbpmnejgckaaDoor
