/-
  impl.noData where nothing panics; impl.WriteDouble. No condition.
-/
import Derived.Test.YtkokeohlbmccpaaGreatDoorBuf3
namespace Go.Proofs.YtkokeohlbmccpaaGreatDoor
set_option linter.unusedSimpArgs false
set_option linter.unusedVariables false
open Go.RowKit
theorem noData_idle (p q : Addr) (w : World) :
    CallsD Tryz.prog 13 #[.pointer (some p), .pointer (some q)] .returning w fun e u' w' => e = .returned (.tuple #[]) ∧ u' = .returning ∧ w' = w := by
  refine callsD_of_wpS Tryz.func13 rfl fun c₀ cs hu => ?_
  apply wpS_seq
  apply wpS_region
  simp [wpOpsS, go_sem, recoverD, hu, Tryz.ntmps13, Exit.thenS]
  refine wpS_cond (t := false) (by simp [Act.eval, Array.replicate]) ?_
  simp only [Bool.false_eq_true, if_false]
  refine wpS_of_wp (wp_skip ?_)
  cases c₀
  simp_all [bodyPostS, results, Tryz.results13]
/-- What a writer hands back: the bytes, in blocks of its own, and 'true'. -/
def Wrote (w : World) (bs : List UInt8) (e : Ending) (w' : World) : Prop :=
  ∃ A n c, e = .returned (.tuple #[.slice A n c, .bool true]) ∧ n = bs.length ∧ n ≤ c ∧ c ≤ maxLen ∧ RB w' (Made w w') A bs ∧ Below w.heap.size w w'
theorem own_nil (w : World) (B : Nat) (t : TypeId) (size : Nat) : w.ownsRow B t size (.slice none 0 0) 0 [] := World.ownsRow_nil _ _ _ _
end Go.Proofs.YtkokeohlbmccpaaGreatDoor
