/-
  (encoding/binary.bigEndian).PutUint16, PutUint32: a number is written behind what a row holds. Conditions: there is room.
-/
import Derived.Test.YtloaaffkjhkpaaaPutOut
namespace Go.Proofs.Ytloaaffkjhkpaaa
set_option linter.unusedSimpArgs false
set_option linter.unusedVariables false
set_option linter.unusedVariables false
open Go.RowKit
theorem grown_allocB {a w : World} {g : Nat} (h : a.grownBy w (some g)) (o : Obj) : a.grownBy (w.alloc o) (some g) :=
  ⟨h.os, h.tape, h.output, by have := h.size; simp; omega, fun b hb hne => (Below.heap_alloc w o b (Nat.lt_of_lt_of_le hb h.size)).trans (h.block b hb hne)⟩
theorem row_allocB {w : World} {t : TypeId} {g cap : Nat} {xs : List Value} (h : Row w t g cap xs) (o : Obj) : Row (w.alloc o) t g cap xs := h.keep (Below.heap_alloc w o g h.lt)
set_option maxHeartbeats 400000 in
theorem w_BE16 (g n cap len c0 : Nat) (x : Int) (_hx1 : 0 ≤ x) (_hx2 : x ≤ 65535) (xs : List Value) (w : World) (hrow : Row w 5 g cap xs) (hn : xs.length = n) (_hc : n + 2 ≤ cap) (_hl : 2 ≤ len) (_hm : len ≤ 9223372036854775807) :
    Calls Try.prog 31 #[.agg #[], .slice (some ⟨g, n, none⟩) len c0, .int .u16 x] w fun e w' => e = .returned (.tuple #[]) ∧ Row w' 5 g cap (xs ++ (be x 2).map u8) ∧ w.grownBy w' (some g) := by
  obtain ⟨y0, hy0⟩ := hrow.cell (n := n) (by omega)
  have hf0 := hrow.frozen (n)
  obtain ⟨y1, hy1⟩ := hrow.cell (n := n + 1) (by omega)
  have hf1 := hrow.frozen (n + 1)
  have hlt := hrow.lt
  go_enter Try.func31, Try.ntmps31
  go_wp2
  go_end0
  refine ⟨rfl, ?_, ?_⟩
  · refine row_allocB (Row.cast ?_ ((hrow.push (n := n) (by simp [hn]) (by omega) _).push (n := n + 1) (by simp [hn]) (by omega) _)) _
    simp [be, u8]
    first | done | omega | (unfold u8; simp; omega) | (simp [u8]; omega)
  · exact grown_allocB (grown_setCell (grown_setCell (World.grownBy.refl w _) _ _) _ _) _
set_option maxHeartbeats 400000 in
theorem w_BE32 (g n cap len c0 : Nat) (x : Int) (_hx1 : 0 ≤ x) (_hx2 : x ≤ 4294967295) (xs : List Value) (w : World) (hrow : Row w 5 g cap xs) (hn : xs.length = n) (_hc : n + 4 ≤ cap) (_hl : 4 ≤ len) (_hm : len ≤ 9223372036854775807) :
    Calls Try.prog 32 #[.agg #[], .slice (some ⟨g, n, none⟩) len c0, .int .u32 x] w fun e w' => e = .returned (.tuple #[]) ∧ Row w' 5 g cap (xs ++ (be x 4).map u8) ∧ w.grownBy w' (some g) := by
  obtain ⟨y0, hy0⟩ := hrow.cell (n := n) (by omega)
  have hf0 := hrow.frozen (n)
  obtain ⟨y1, hy1⟩ := hrow.cell (n := n + 1) (by omega)
  have hf1 := hrow.frozen (n + 1)
  obtain ⟨y2, hy2⟩ := hrow.cell (n := n + 2) (by omega)
  have hf2 := hrow.frozen (n + 2)
  obtain ⟨y3, hy3⟩ := hrow.cell (n := n + 3) (by omega)
  have hf3 := hrow.frozen (n + 3)
  have hlt := hrow.lt
  go_enter Try.func32, Try.ntmps32
  go_wp2
  go_end0
  refine ⟨rfl, ?_, ?_⟩
  · refine row_allocB (Row.cast ?_ ((((hrow.push (n := n) (by simp [hn]) (by omega) _).push (n := n + 1) (by simp [hn]) (by omega) _).push (n := n + 2) (by simp [hn]) (by omega) _).push (n := n + 3) (by simp [hn]) (by omega) _)) _
    simp [be, u8]
    first | done | omega | (unfold u8; simp; omega) | (simp [u8]; omega)
  · exact grown_allocB (grown_setCell (grown_setCell (grown_setCell (grown_setCell (World.grownBy.refl w _) _ _) _ _) _ _) _ _) _
end Go.Proofs.Ytloaaffkjhkpaaa
