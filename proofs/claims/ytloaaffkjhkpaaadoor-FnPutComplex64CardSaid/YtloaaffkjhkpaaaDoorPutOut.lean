/-
  impl.PutUintN, PutIntN, PutDuration: bytes of their own, what stood before and the number behind it. Conditions: what stands before is at most 2^40 bytes.
-/
import Derived.Test.YtloaaffkjhkpaaaDoorAppends
namespace Go.Proofs.YtloaaffkjhkpaaaDoor
set_option linter.unusedSimpArgs false
set_option linter.unusedVariables false
open Go.RowKit
/-- The blocks that w' has and w has not. -/
def Made (w w' : World) : Nat → Prop := fun b => w.heap.size ≤ b ∧ b < w'.heap.size
/-- Bytes bs of one's own behind w. -/
def Out (w : World) (bs : List UInt8) (e : Ending) (w' : World) : Prop :=
  ∃ A c, e = .returned (.slice A bs.length c) ∧ bs.length ≤ c ∧ c ≤ maxLen ∧ RB w' (Made w w') A bs ∧ Below w.heap.size w w'
theorem out_of_appd {w w1 w2 : World} {bs enc : List UInt8} {v : Value} {e : Ending} {n : Nat} {m : Nat} (_hn : n = bs.length) (hm : m = bs.length + enc.length) (hb : Below w.heap.size w w1) (hv : ∀ k, v.ownBlock = some k → w.heap.size ≤ k) {A : Option Addr} {c : Nat} (h1 : e = .returned (.slice A m c))
    (h2 : w2.ownsRow w.heap.size 5 1 (.slice A m c) m (bs.map u8 ++ enc.map u8)) (hg : w1.grownBy w2 v.ownBlock) (hc : m ≤ c) (hcm : c ≤ maxLen) : Out w (bs ++ enc) e w2 := by
  subst hm
  refine ⟨A, c, by rw [h1, List.length_append], by rw [List.length_append]; exact hc, hcm, ?_, hb.grown hg hb.size hv⟩
  have h := Reads.of_own h2
  rw [← List.map_append] at h
  unfold RB
  rw [List.length_append]
  exact h.sub fun b hb => ⟨hb.1, hb.2.1⟩
theorem own_blocks {w : World} {base n : Nat} {e : TypeId} {size : Nat} {v : Value} {xs : List Value} (h : w.ownsRow base e size v n xs) : ∀ k, v.ownBlock = some k → base ≤ k := by
  intro k hk
  rcases h.2 with ⟨rfl, rfl⟩ | ⟨g, cap, cur, rfl, hb, _⟩
  · simp [Value.ownBlock] at hk
  · simp [Value.ownBlock] at hk
    omega
end Go.Proofs.YtloaaffkjhkpaaaDoor
