/-
  msgp.NewWriterSize over a Text of one's own. Conditions: a buffer of 18 to 65536 bytes.
-/
import Derived.Test.YtapkehellkdkjaaWriter3
import Derived.Laws.MakeOwn
namespace Go.Proofs.Ytapkehellkdkjaa
set_option linter.unusedSimpArgs false
set_option linter.unusedVariables false
set_option linter.unusedVariables false
open Go.RowKit
theorem makeB (c : Nat) (hc : c ≤ 281474976710656) : ∃ Z : List Value, Z.length = c ∧ ∀ W : World, (Instr.makeSlice 23 (.int .i64 (c : Int)) (.int .i64 (c : Int))).run Try.prog W = .ok (.slice (some ⟨W.heap.size, 0, none⟩) c c) (W.alloc (.cells Z.toArray 5)) := by
  obtain ⟨i0, hi0, hz0, hz1, hz2⟩ := info_parts infoB5
  refine ⟨(madeCells (Value.cells (.int .u8 0)) (c * 1)).toList, by simp [size_madeCells], fun W => ?_⟩
  have := run_make (P := Try.prog) W 23 5 i0 _ Try.underlying23 hi0 hz0 .i64 .i64 c c (by omega) (by omega) (by rw [hz2]; omega) (by omega)
  rw [hz1] at this
  simpa using this
theorem newWriterBuf (t b z : Nat) (w : World) (h1 : 18 ≤ z) (h2 : z ≤ 65536) :
    Calls Try.prog 36 #[.iface 55 (.pointer (some ⟨t, 0, none⟩)), .slice (some ⟨b, 0, none⟩) z z] w fun e w' => e = .returned (.pointer (some ⟨w.heap.size, 0, none⟩)) ∧ w' = w.alloc (.cells #[.iface 55 (.pointer (some ⟨t, 0, none⟩)), .slice (some ⟨b, 0, none⟩) z z, .int .i64 0] 78) := by
  have h3 : ¬ (z : Int) < 18 := by omega
  have h4 : (0 : Int) ≤ z := by omega
  go_enter Try.func36, Try.ntmps36
  go_wp2
  go_ret
  exact ⟨rfl, rfl⟩
theorem newWriter (t z : Nat) (w : World) (h1 : 18 ≤ z) (h2 : z ≤ 65536) (ht : t < w.heap.size) (hT : Blk w t 53 #[.slice none 0 0]) :
    Calls Try.prog 23 #[.iface 55 (.pointer (some ⟨t, 0, none⟩)), .int .i64 z] w fun e w' => e = .returned (.pointer (some ⟨w.heap.size + 1, 0, none⟩)) ∧ WrAny w' t w.heap.size (w.heap.size + 1) z [] ∧ Below w.heap.size w w' := by
  obtain ⟨Z, hZ, hmk⟩ := makeB z (by omega)
  have h3 : ¬ (z : Int) < 18 := by omega
  have HZ := hide hZ
  have HT := hide hT
  clear hZ hT
  go_enter Try.func23, Try.ntmps23
  go_wp2_with (go_at_call 36; go_loud (refine (newWriterBuf t w.heap.size z _ h1 h2).mono ?_; rintro e w1 ⟨rfl, rfl⟩))
  go_ret
  refine ⟨by simp, ⟨[], [], .slice none 0 0, rfl, ?_⟩, (by repeat (first | with_reducible exact Below.refl _ _ | with_reducible exact x | with_reducible refine Below.alloc ?_ (by first | omega | (simp; omega) | (simp; done)) _ | with_reducible refine Below.setCell ?_ (by first | omega | (simp; omega) | (simp; done)) _ | with_reducible refine Below.drew ?_ | with_reducible refine below_drewN ?_ _))⟩
  have hz := unhide HZ
  refine ⟨?_, ((unhide HT).alloc _).alloc _, World.ownsRow_nil _ _ _ _, ⟨Z.toArray, (Blk.new w _ _).alloc _, by simpa using hz, by simp, by simp⟩, ht, by omega, h1, h2⟩
  have h := Blk.new (w.alloc (.cells Z.toArray 5)) 78 #[.iface 55 (.pointer (some ⟨t, 0, none⟩)), .slice (some ⟨w.heap.size, 0, none⟩) z z, .int .i64 0]
  simpa using h
end Go.Proofs.Ytapkehellkdkjaa
