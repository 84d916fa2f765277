/-
  Plain: bytes that are values one behind the other. No Go in it but for the names.
-/
import Derived.Test.YtpadbpmnejgckaaDoorWr
namespace Go.Proofs.YtpadbpmnejgckaaDoor
set_option linter.unusedSimpArgs false
set_option linter.unusedVariables false
open Go.RowKit
def EncsP {α : Type} (P : α → List UInt8 → Prop) : List α → List UInt8 → Prop
  | [], bs => bs = []
  | x :: xs, bs => ∃ a b, P x a ∧ EncsP P xs b ∧ bs = a ++ b
theorem EncsP.snoc {α : Type} {P : α → List UInt8 → Prop} : ∀ (xs : List α) (x : α) (a b : List UInt8), EncsP P xs a → P x b → EncsP P (xs ++ [x]) (a ++ b)
  | [], x, a, b, ha, hb => by
    have e : a = [] := ha
    subst e
    exact ⟨b, [], hb, rfl, by simp⟩
  | y :: ys, x, a, b, ha, hb => by
    obtain ⟨c, d, h1, h2, rfl⟩ := ha
    exact ⟨c, d ++ b, h1, EncsP.snoc ys x d b h2 hb, by simp⟩
theorem EncsP.len {α : Type} {P : α → List UInt8 → Prop} (c : Nat) (hc : ∀ x bs, P x bs → bs.length ≤ c) : ∀ (xs : List α) (bs : List UInt8), EncsP P xs bs → bs.length ≤ c * xs.length
  | [], bs, h => by
    have e : bs = [] := h
    subst e
    simp
  | x :: xs, bs, h => by
    obtain ⟨a, b, h1, h2, rfl⟩ := h
    have h3 := hc x a h1
    have h4 := EncsP.len c hc xs b h2
    rw [List.length_append, List.length_cons, Nat.mul_succ]
    omega
theorem EncsP.mono {α : Type} {P Q : α → List UInt8 → Prop} : ∀ (xs : List α) (bs : List UInt8), (∀ x ∈ xs, ∀ b, P x b → Q x b) → EncsP P xs bs → EncsP Q xs bs
  | [], bs, _, h => h
  | x :: xs, bs, hm, h => by
    obtain ⟨a, b, h1, h2, rfl⟩ := h
    exact ⟨a, b, hm x (by simp) a h1, EncsP.mono xs b (fun y hy => hm y (by simp [hy])) h2, rfl⟩
theorem EncsP.of_WrPs {α : Type} (f : α → Pack) : ∀ (xs : List α) (bs : List UInt8), WrPs (xs.map f) bs → EncsP (fun x => WrP (f x)) xs bs
  | [], bs, h => by
    rw [List.map_nil] at h
    unfold WrPs at h
    exact h
  | x :: xs, bs, h => by
    rw [List.map_cons] at h
    unfold WrPs at h
    obtain ⟨a, b, h1, h2, rfl⟩ := h
    exact ⟨a, b, h1, EncsP.of_WrPs f xs b h2, rfl⟩
end Go.Proofs.YtpadbpmnejgckaaDoor
