/-
  spec.PutHead: heads of arrays, maps, bytes and texts. No condition.
-/
import Derived.Test.YtpmcljjhjjmlfaaForms4
namespace Go.Proofs.Ytpmcljjhjjmlfaa
set_option linter.unusedSimpArgs false
set_option linter.unusedVariables false
open Go.RowKit
theorem PutH.more {P P' : List UInt8 → Prop} {g : Nat} {w w1 w' : World} {e : Ending} (h : PutH P g w1 e w') (hb : Below w.heap.size w w1) (hP : ∀ bs, P bs → P' bs) : PutH P' g w e w' := by
  obtain ⟨v, bs, h1, rfl, ⟨hl, ho⟩, h2, h3⟩ := h
  refine ⟨v, bs, hP _ h1, rfl, ⟨hl, ?_⟩, grown_trans' (only_of_below hb (some g)) h2 (fun _ h => by injection h with h; subst h; exact .inl rfl), h3⟩
  rcases ho with ⟨rfl, h2⟩ | ⟨b, cap, cur, rfl, hb', r⟩
  · exact .inl ⟨rfl, h2⟩
  · exact .inr ⟨b, cap, cur, rfl, Nat.le_trans hb.size hb', r⟩
/-- The head of so many values of a kind, in one of its forms. -/
def HeadIs (kind n : Nat) (bs : List UInt8) : Prop :=
  (kind = 8 ∧ HeadOK 144 16 n [(220, 2), (221, 4)] bs) ∨
  (kind = 9 ∧ HeadOK 128 16 n [(222, 2), (223, 4)] bs) ∨
  (kind = 7 ∧ HeadOK (-1) 0 n [(196, 1), (197, 2), (198, 4)] bs) ∨
  (kind = 6 ∧ HeadOK 160 32 n [(217, 1), (218, 2), (219, 4)] bs)
theorem or144 : ∀ n : Nat, n < 16 → bits BinOp.or IntKind.i64 144 (n : Int) = 144 + n := by decide +kernel
theorem or128 : ∀ n : Nat, n < 16 → bits BinOp.or IntKind.i64 128 (n : Int) = 128 + n := by decide +kernel
theorem or160 : ∀ n : Nat, n < 32 → bits BinOp.or IntKind.i64 160 (n : Int) = 160 + n := by decide +kernel
end Go.Proofs.Ytpmcljjhjjmlfaa
