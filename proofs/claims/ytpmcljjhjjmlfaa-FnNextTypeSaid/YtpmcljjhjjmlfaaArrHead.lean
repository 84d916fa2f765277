/-
  msgp.ReadArrayHeaderBytes, impl.GetArrayHead: the head of an array, read. Conditions: the data read as bytes; msgp.ErrShortBytes is not nil.
-/
import Derived.Test.YtpmcljjhjjmlfaaSpec2
import Derived.Test.YtpmcljjhjjmlfaaBytesR
import Derived.Test.YtpmcljjhjjmlfaaCopiedG
namespace Go.Proofs.Ytpmcljjhjjmlfaa
set_option linter.unusedSimpArgs false
set_option linter.unusedVariables false
open Go.RowKit
/-- The head of an array: how many, and what stands behind. -/
def arrH : List UInt8 → Option (Nat × List UInt8)
  | [] => none
  | b :: r => if 144 ≤ b.toNat ∧ b.toNat < 160 then some (b.toNat % 16, r) else if b.toNat = 220 then (if r.length < 2 then none else some (bigU (r.take 2), r.drop 2))
    else if b.toNat = 221 then (if r.length < 4 then none else some (bigU (r.take 4), r.drop 4)) else none
/-- What a reader of a head answers. -/
def ReadH (S : Nat → Prop) (r : Option (Nat × List UInt8)) (w : World) (e : Ending) (w' : World) : Prop :=
  Below w.heap.size w w' ∧ match r with
  | none => ∃ k A n c t v, e = .returned (.tuple #[.int .u32 k, .slice A n c, .iface t v])
  | some (k, bs) => ∃ A n c, e = .returned (.tuple #[.int .u32 k, .slice A n c, .nilIface]) ∧ n = bs.length ∧ n ≤ c ∧ c ≤ maxLen ∧ RB w' S A bs
theorem arrH_le (bs : List UInt8) : ∀ k r, arrH bs = some (k, r) → r.length ≤ bs.length := by
  intro k r h
  rcases bs with _ | ⟨b, t⟩
  · cases h
  · simp only [arrH] at h
    repeat' split at h
    all_goals first | (simp only [reduceCtorEq] at h; done) | (simp only [Option.some.injEq, Prod.mk.injEq] at h; rw [← h.2]; simp only [List.length_drop, List.length_cons]; omega)
/-- What impl.GetArrayHead answers. -/
def GotH (r : Option (Nat × List UInt8)) (w : World) (e : Ending) (w' : World) : Prop :=
  Below w.heap.size w w' ∧ match r with
  | none => e = .returned (.tuple #[.int .u32 0, .slice none 0 0, .bool false])
  | some (k, bs) => ∃ A n c, e = .returned (.tuple #[.int .u32 k, .slice A n c, .bool true]) ∧ n = bs.length ∧ n ≤ c ∧ c ≤ maxLen ∧ RB w' (Made w w') A bs
end Go.Proofs.Ytpmcljjhjjmlfaa
