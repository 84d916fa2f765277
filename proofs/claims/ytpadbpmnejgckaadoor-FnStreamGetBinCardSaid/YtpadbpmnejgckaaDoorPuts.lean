/-
  The small writers of msgp (integers.go): each writes a code and the bytes of a number behind what a row holds. Conditions: there is room in the row.
-/
import Derived.Test.YtpadbpmnejgckaaDoorPut1
namespace Go.Proofs.YtpadbpmnejgckaaDoor
set_option linter.unusedSimpArgs false
set_option linter.unusedVariables false
open Go.RowKit
/-- The bytes of a number, s of them, the highest first. -/
def be : Int → Nat → List UInt8
  | _, 0 => []
  | x, s + 1 => be (x / 256) s ++ [UInt8.ofNat (x % 256).toNat]
theorem u8_ofInt (x : Int) : u8 (UInt8.ofNat (x % 256).toNat) = .int .u8 (x % 256) := by
  unfold u8
  simp
  omega
theorem Row.cast {w : World} {t : TypeId} {g cap : Nat} {xs ys : List Value} (e : xs = ys) (h : Row w t g cap xs) : Row w t g cap ys := e ▸ h
set_option maxHeartbeats 400000 in
theorem w_prefixu16 (p : UInt8) (p' : Int) (hp : p' = p.toNat) (g n cap len c0 : Nat) (x : Int) (_hx1 : 0 ≤ x) (_hx2 : x ≤ 65535) (xs : List Value) (w : World) (hrow : Row w 5 g cap xs) (hn : xs.length = n) (_hc : n + 3 ≤ cap) (_hl : 3 ≤ len) (_hm : len ≤ 9223372036854775807) :
    Calls Tryd.prog 159 #[.slice (some ⟨g, n, none⟩) len c0, .int .u8 p', .int .u16 x] w fun e w' => e = .returned (.tuple #[]) ∧ Row w' 5 g cap (xs ++ (p :: be x 2).map u8) ∧ w.grownBy w' (some g) ∧ w'.heap.size = w.heap.size := by
  have hp256 := p.toNat_lt
  obtain ⟨y0, hy0⟩ := hrow.cell (n := n) (by omega)
  obtain ⟨y1, hy1⟩ := hrow.cell (n := n + 1) (by omega)
  obtain ⟨y2, hy2⟩ := hrow.cell (n := n + 2) (by omega)
  have hf0 := hrow.frozen (n)
  have hf1 := hrow.frozen (n + 1)
  have hf2 := hrow.frozen (n + 2)
  go_enter Tryd.func159, Tryd.ntmps159
  go_wp2
  go_end0
  refine ⟨rfl, ?_, ?_, by simp⟩
  · refine Row.cast ?_ (((hrow.push (n := n) (by simp [hn]) (by omega) _).push (n := n + 1) (by simp [hn]) (by omega) _).push (n := n + 2) (by simp [hn]) (by omega) _)
    simp [be, u8]
    first | done | omega | (unfold u8; simp; omega) | (simp [u8]; omega)
  · exact grown_setCell (grown_setCell (grown_setCell (World.grownBy.refl w _) _ _) _ _) _ _
set_option maxHeartbeats 400000 in
theorem w_prefixu32 (p : UInt8) (p' : Int) (hp : p' = p.toNat) (g n cap len c0 : Nat) (x : Int) (_hx1 : 0 ≤ x) (_hx2 : x ≤ 4294967295) (xs : List Value) (w : World) (hrow : Row w 5 g cap xs) (hn : xs.length = n) (_hc : n + 5 ≤ cap) (_hl : 5 ≤ len) (_hm : len ≤ 9223372036854775807) :
    Calls Tryd.prog 160 #[.slice (some ⟨g, n, none⟩) len c0, .int .u8 p', .int .u32 x] w fun e w' => e = .returned (.tuple #[]) ∧ Row w' 5 g cap (xs ++ (p :: be x 4).map u8) ∧ w.grownBy w' (some g) ∧ w'.heap.size = w.heap.size := by
  have hp256 := p.toNat_lt
  obtain ⟨y0, hy0⟩ := hrow.cell (n := n) (by omega)
  obtain ⟨y1, hy1⟩ := hrow.cell (n := n + 1) (by omega)
  obtain ⟨y2, hy2⟩ := hrow.cell (n := n + 2) (by omega)
  obtain ⟨y3, hy3⟩ := hrow.cell (n := n + 3) (by omega)
  obtain ⟨y4, hy4⟩ := hrow.cell (n := n + 4) (by omega)
  have hf0 := hrow.frozen (n)
  have hf1 := hrow.frozen (n + 1)
  have hf2 := hrow.frozen (n + 2)
  have hf3 := hrow.frozen (n + 3)
  have hf4 := hrow.frozen (n + 4)
  go_enter Tryd.func160, Tryd.ntmps160
  go_wp2
  go_end0
  refine ⟨rfl, ?_, ?_, by simp⟩
  · refine Row.cast ?_ (((((hrow.push (n := n) (by simp [hn]) (by omega) _).push (n := n + 1) (by simp [hn]) (by omega) _).push (n := n + 2) (by simp [hn]) (by omega) _).push (n := n + 3) (by simp [hn]) (by omega) _).push (n := n + 4) (by simp [hn]) (by omega) _)
    simp [be, u8]
    first | done | omega | (unfold u8; simp; omega) | (simp [u8]; omega)
  · exact grown_setCell (grown_setCell (grown_setCell (grown_setCell (grown_setCell (World.grownBy.refl w _) _ _) _ _) _ _) _ _) _ _
end Go.Proofs.YtpadbpmnejgckaaDoor
