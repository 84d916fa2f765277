/-
  msgp's getBytespec, getType; badPrefix is an error. Conditions: bytes.
-/
import Derived.Test.YtpmcljjhjjmlfaaSpec
namespace Go.Proofs.Ytpmcljjhjjmlfaa
set_option linter.unusedSimpArgs false
set_option linter.unusedVariables false
open Go.RowKit
theorem getBytespec_any (b : Nat) (hb : b < 256) (w : World) : Calls Try.prog 12 #[.int .u8 b] w fun e w' => e = .returned (specV b) ∧ Below w.heap.size w w' := by
  have hC := calc_any b hb
  simp only [specV] at hC ⊢
  generalize (bspec b).1 = s at *
  generalize (bspec b).2.1 = x at *
  generalize (bspec b).2.2 = t at *
  replace hC := hide hC
  go_enter Try.func12, Try.ntmps12
  go_wp2_with fail
  refine (unhide hC _).mono ?_
  rintro e w1 ⟨rfl, hb1⟩
  have hB : Blk w1 w.heap.size 44 #[.int .u8 0, .int .i8 0, .int .u8 0, .int .u8 0] := (Blk.new w _ _).below hb1 (by simp)
  have c0 := hB.cell 0
  have c1 := hB.cell 1
  have c2 := hB.cell 2
  have c3 := hB.cell 3
  have f0 := hB.frozen 0
  have f1 := hB.frozen 1
  have f2 := hB.frozen 2
  have f3 := hB.frozen 3
  have hz := hB.lt
  have hw1 : Below w.heap.size w w1 := ((Below.refl w.heap.size w).alloc (Nat.le_refl _) _).trans (hb1.mono (by simp))
  have HW := hide hw1
  clear hb1 hw1
  go_wp2
  refine bodyPost_ret (v := .agg #[.int .u8 s, .int .i8 x, .int .u8 t, .int .u8 0]) (by simp [results, Try.results12, go_sem, c0, c1, c2, c3, hz]) rfl ⟨rfl, ?_⟩
  have hw1 := unhide HW
  exact (by repeat (first | with_reducible exact Below.refl _ _ | with_reducible exact hw1 | with_reducible refine Below.alloc ?_ (by first | omega | (simp; omega) | (simp; done)) _ | with_reducible refine Below.setCell ?_ (by first | omega | (simp; omega) | (simp; done)) _ | with_reducible refine Below.drew ?_ | with_reducible refine below_drewN ?_ _))
theorem field_typ (s x t : Int) (w : World) : (Instr.field 44 (.agg #[.int .u8 s, .int .i8 x, .int .u8 t, .int .u8 0]) 2).run Try.prog w = .ok (.int .u8 t) w := by kernel_rfl
/-- An error. -/
def IsErr (w : World) (e : Ending) (w' : World) : Prop := ∃ t v, e = .returned (.iface t v) ∧ Below w.heap.size w w'
end Go.Proofs.Ytpmcljjhjjmlfaa
