/-
  spec.PackFits: if it answers true the value fits, and is at most 2000 values. Conditions: it reads as a value in memory.
-/
import Derived.Test.YtpmcljjhjjmlfaaFits3
import Derived.BigGuardPart
namespace Go.Proofs.Ytpmcljjhjjmlfaa
set_option linter.unusedSimpArgs false
set_option linter.unusedVariables false
set_option linter.unusedVariables false
open Go.RowKit
def PFitsR (p : Pack) (w : World) (e : Ending) (w' : World) : Prop := ∃ b : Bool, e = .returned (.bool b) ∧ Below w.heap.size w w' ∧ (b = true → FitsP p ∧ cnt p ≤ 2000)
set_option maxRecDepth 100000 in
set_option maxHeartbeats 1600000 in
theorem packFitsTop (p : Pack) (k : Int) (n : Int) (T : ByteArray) (e : Int) (K : Option Addr) (m kc : Nat) (S : Nat → Prop) (w : World) (hS : Old w S) (hp : PackC w S p [.int .i64 k, .int .u64 n, .string T, .int .i64 e, .slice K m kc]) :
    Calls Try.prog 9 #[.agg #[.int .i64 k, .int .u64 n, .string T, .int .i64 e, .slice K m kc], .int .i64 6] w (PFitsR p w) := by
  have HP := hide hp
  clear hp
  obtain ⟨T0, hT⟩ : ∃ T0, T0 = PFitsR p w := ⟨_, rfl⟩
  rw [← hT]
  have HT := hide hT
  clear hT
  go_enter Try.func9, Try.ntmps9
  go_wp2_with (first
    | (go_at_call 13; go_loud (refine (few_all _ p (Nat.le_refl _) _ _ _ _ _ S _ (w.heap.size + 1) 2000 ?xO ?xN ?xC ?xB (Nat.le_refl _)).mono ?_); go_loud ((case xO => exact old_below (B := w.heap.size) (by repeat (first | with_reducible exact Below.refl _ _ | with_reducible exact x | with_reducible refine Below.alloc ?_ (by first | omega | (simp; omega) | (simp; done)) _ | with_reducible refine Below.setCell ?_ (by first | omega | (simp; omega) | (simp; done)) _ | with_reducible refine Below.drew ?_ | with_reducible refine below_drewN ?_ _)) hS); (case xN => exact fun h => by have := hS _ h; omega); (case xC => exact PackC.keep (stays_below (Stays.refl _ _) (by repeat (first | with_reducible exact Below.refl _ _ | with_reducible exact x | with_reducible refine Below.alloc ?_ (by first | omega | (simp; omega) | (simp; done)) _ | with_reducible refine Below.setCell ?_ (by first | omega | (simp; omega) | (simp; done)) _ | with_reducible refine Below.drew ?_ | with_reducible refine below_drewN ?_ _)) hS) _ _ (unhide HP))); go_loud ((case xB => exact Blk.new2 (by simp))); go_loud (rintro e1 w1 ⟨b1, l', rfl, hB1, hg1, hb1⟩); go_loud (obtain ⟨⟨y0, y1, y2, y3, y4⟩, _⟩ := five_cells (((Blk.new w 25 #[.int .i64 k, .int .u64 n, .string T, .int .i64 e, .slice K m kc]).alloc (.cells #[.int .i64 2000] 3)).grown hg1 (by intro h; injection h with h; omega)); skip); go_loud (have hbel1 : Below w.heap.size w w1 := Below.grown (by repeat (first | with_reducible exact Below.refl _ _ | with_reducible exact x | with_reducible refine Below.alloc ?_ (by first | omega | (simp; omega) | (simp; done)) _ | with_reducible refine Below.setCell ?_ (by first | omega | (simp; omega) | (simp; done)) _ | with_reducible refine Below.drew ?_ | with_reducible refine below_drewN ?_ _)) hg1 (by first | omega | (simp; omega) | (simp; done)) (fun j hj => by injection hj with hj; omega); have HB1 := hide hbel1; have HBB := hide hb1; have hz1 : w.heap.size + 1 < w1.heap.size := Nat.lt_of_lt_of_le (by first | omega | (simp; omega) | (simp; done)) hg1.size; clear hB1 hg1 hbel1 hb1))
    | (go_at_call 14; go_loud (refine (packFits_all _ p (Nat.le_refl _) _ _ _ _ _ S _ 6 (by omega) (by omega) ?xO ?xC).mono ?_; (case xO => exact old_below (unhide HB1) hS); (case xC => exact PackC.keep (Stays.sub (Stays.of_below (unhide HB1)) hS) _ _ (unhide HP)); rintro e2 w2 ⟨b2, rfl, hb2, hf2⟩; have hbel2 := (unhide HB1).trans (hb2.mono (unhide HB1).size); have HB2 := hide hbel2; have HF2 := hide hf2; clear hb2 hbel2 hf2)))
  all_goals (
    rw [unhide HT]
    first
    | exact ⟨_, rfl, unhide HB2, fun h => ⟨unhide HF2 h, by have := unhide HBB (by first | rfl | assumption); omega⟩⟩
    | exact ⟨false, rfl, unhide HB1, fun h => by cases h⟩)
end Go.Proofs.Ytpmcljjhjjmlfaa
