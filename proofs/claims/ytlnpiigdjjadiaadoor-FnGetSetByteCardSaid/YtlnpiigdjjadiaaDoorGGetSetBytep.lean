/-
  spec.fewPacks, spec.Packs: a value of MessagePack counted. Conditions: it reads as a value in memory.
-/
import Derived.Test.YtlnpiigdjjadiaaDoorGGetSetByteo
import Derived.Test.YtlnpiigdjjadiaaDoorGGetSetBytee
import Derived.Test.YtlnpiigdjjadiaaDoorGGetSetBytea
import Derived.StillTailTactics
namespace Go.Proofs.YtlnpiigdjjadiaaDoor
set_option linter.unusedSimpArgs false
set_option linter.unusedVariables false
set_option linter.unusedVariables false
open Go.RowKit
mutual
/-- How many values a value is. -/
def cnt : Pack → Nat
  | .mk _ _ _ _ ks => 1 + cnts ks
def cnts : List Pack → Nat
  | [] => 0
  | p :: ps => cnt p + cnts ps
end
theorem cnts_snoc : ∀ (ps : List Pack) (p : Pack), cnts (ps ++ [p]) = cnts ps + cnt p
  | [], p => by simp [cnts]
  | q :: ps, p => by
    simp only [List.cons_append, cnts, cnts_snoc ps p]
    omega
theorem cnts_take (ps : List Pack) (k : Nat) (h : k < ps.length) : cnts (ps.take (k + 1)) = cnts (ps.take k) + cnt ps[k] := by
  rw [List.take_succ_eq_append_getElem h, cnts_snoc]
/-- What fewPacks answers: if true, as many have been taken away. -/
def FewR (g : Nat) (l n : Nat) (w : World) (e : Ending) (w' : World) : Prop :=
  ∃ (b : Bool) (l' : Int), e = .returned (.bool b) ∧ Blk w' g 3 #[.int .i64 l'] ∧ w.grownBy w' (some g) ∧ (b = true → l' = (l : Int) - n ∧ 0 ≤ l')
end Go.Proofs.YtlnpiigdjjadiaaDoor
