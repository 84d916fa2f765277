/-
  buffer.Buffer of goamqp, a buffer of one's own behind a pointer: what its appending methods do. Conditions: fewer than 2^40 bytes.
-/
import Derived.Test.YtkokeohlbmccpaaGreatDoorTake5
namespace Go.Proofs.YtkokeohlbmccpaaGreatDoor
set_option linter.unusedSimpArgs false
set_option linter.unusedVariables false
open Go.RowKit
/-- Block p is a Buffer (read nothing of yet) whose bytes bs lie in a row of its own, behind p. -/
def Buf (w : World) (p : Nat) (bs : List UInt8) : Prop := ∃ v, Blk w p 59 #[v, .int .i64 0] ∧ w.ownsRow (p + 1) 5 1 v bs.length (bs.map u8)
theorem infoU8 : (Tryz.prog.info? 5).map (fun i => (i.zero, i.size, i.bytes)) = some (some (.int .u8 0), 1, 1) := by kernel_rfl
theorem Buf.lt {w : World} {p : Nat} {bs : List UInt8} (h : Buf w p bs) : p < w.heap.size := by
  obtain ⟨v, h1, _⟩ := h
  exact h1.lt
theorem Reads.row5 {w : World} {g : Nat} (bs : List UInt8) (hg : w.heap.size = g) : Reads (w.alloc (.cells (bs.map u8).toArray 5)) (fun _ => True) 1 (some ⟨g, 0, none⟩) bs.length (bs.map u8) := by
  have := Reads.of_blk (S := fun _ => True) (Blk.new' (w := w) (t := 5) (cs := (bs.map u8).toArray) hg) trivial 1 bs.length (by simp)
  simpa using this
set_option maxHeartbeats 800000 in
theorem appendByte_any (p : Nat) (bs : List UInt8) (b : UInt8) (w : World) (h : Buf w p bs) (hlen : bs.length ≤ 1099511627776) :
    Calls Tryz.prog 26 #[.pointer (some ⟨p, 0, none⟩), u8 b] w fun e w' => e = .returned (.tuple #[]) ∧ Buf w' p (bs ++ [b]) ∧ Below p w w' := by
  obtain ⟨v, hb, hown⟩ := h
  have hp := hb.lt
  have c0 : w.cell? ⟨p, 0, none⟩ = some v := hb.cell 0
  have f0 : w.frozen? ⟨p, 0, none⟩ = false := hb.frozen 0
  obtain ⟨A, cap, rfl, hcap1, hcap2, hA⟩ := own_slice hown
  have HB := hide hb
  clear hb
  simp only [u8]
  go_enter Tryz.func26, Tryz.ntmps26
  go_wp2_with (at_builtin; obtain ⟨i0, hi0, hz0, hz1', hz2⟩ := info_parts infoU8; go_loud (refine wpList_append_any (S := fun _ => True) _ rfl (.tmp 8) (.tmp 10) _ rfl (p + 1) 5 i0 _ 1 1 Tryz.underlying22 hi0 hz0 hz1' hz2 ?x1 ?x2 (.slice A bs.length cap) bs.length (bs.map u8) ?x3 ?x8 (some ⟨w.heap.size, 0, none⟩) 1 1 ([b].map u8) ?x4 ?x5 (u8_one [b]) ?c3 ?x7 ?c4 ?_; (case x1 => rfl); (case x2 => omega); (case x3 => rfl); (case x4 => rfl); (case x5 => exact Reads.row5 [b] rfl); (case x7 => omega); (case x8 => exact own_below hown (by repeat (first | with_reducible exact Below.refl _ _ | with_reducible exact x | with_reducible refine Below.alloc ?_ (by first | omega | (simp; omega) | (simp; done)) _ | with_reducible refine Below.setCell ?_ (by first | omega | (simp; omega) | (simp; done)) _ | with_reducible refine Below.drew ?_ | with_reducible refine below_drewN ?_ _))); (case c3 => unfold maxLen; omega); (case c4 => simp; omega); clear hi0 hz0 hz1' hz2; intro v1 w1 hown1 hgrow hat; have HB1 : Blk w1 p 59 #[.slice A bs.length cap, .int .i64 0] := Blk.grown (Blk.alloc (unhide HB) _) hgrow (fun e => by have h := own_ge hown _ e.symm; omega); have d0 := HB1.cell 0; have e0 := HB1.frozen 0; have HG1 := hide hgrow; have HO1 := hide hown1; obtain ⟨A1, cap1, rfl, hc11, hc12, _⟩ := own_slice hown1; clear hgrow hown1 hat))
  go_end0
  have hgrow := unhide HG1
  have hown1 := unhide HO1
  have hB : Below p w w1 := ((by repeat (first | with_reducible exact Below.refl _ _ | with_reducible exact x | with_reducible refine Below.alloc ?_ (by first | omega | (simp; omega) | (simp; done)) _ | with_reducible refine Below.setCell ?_ (by first | omega | (simp; omega) | (simp; done)) _ | with_reducible refine Below.drew ?_ | with_reducible refine below_drewN ?_ _)) : Below p w (w.alloc _)).grown hgrow (by simp; omega) (fun k hk => by have h := own_ge hown _ hk; omega)
  refine ⟨rfl, ⟨_, HB1.set_ 0 _, ?_⟩, (by repeat (first | with_reducible exact Below.refl _ _ | with_reducible exact hB | with_reducible refine Below.alloc ?_ (by first | omega | (simp; omega) | (simp; done)) _ | with_reducible refine Below.setCell ?_ (by first | omega | (simp; omega) | (simp; done)) _ | with_reducible refine Below.drew ?_ | with_reducible refine below_drewN ?_ _))⟩
  have : w1.ownsRow (p + 1) 5 1 (.slice A1 (bs.length + 1) cap1) (bs ++ [b]).length ((bs ++ [b]).map u8) := by simpa using hown1
  exact ownsRow_setCell_below this (by simp) _
end Go.Proofs.YtkokeohlbmccpaaGreatDoor
