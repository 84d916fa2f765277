/-
  The small writers of msgp (integers.go): each writes a code and the bytes of a number behind what a row holds. Conditions: there is room in the row.
-/
import Derived.Test.YtlnpiigdjjadiaaPut1
namespace Go.Proofs.Ytlnpiigdjjadiaa
set_option linter.unusedSimpArgs false
set_option linter.unusedVariables false
open Go.RowKit
/-- The bytes of a number, s of them, the highest first. -/
def be : Int → Nat → List UInt8
  | _, 0 => []
  | x, s + 1 => be (x / 256) s ++ [UInt8.ofNat (x % 256).toNat]
theorem u8_ofInt (x : Int) : u8 (UInt8.ofNat (x % 256).toNat) = .int .u8 (x % 256) := by
  unfold u8
  simp
  omega
theorem Row.cast {w : World} {t : TypeId} {g cap : Nat} {xs ys : List Value} (e : xs = ys) (h : Row w t g cap xs) : Row w t g cap ys := e ▸ h
set_option maxHeartbeats 400000 in
theorem w_putMint64 (g n cap len c0 : Nat) (x : Int) (_hx1 : -9223372036854775808 ≤ x) (_hx2 : x ≤ 9223372036854775807) (xs : List Value) (w : World) (hrow : Row w 5 g cap xs) (hn : xs.length = n) (_hc : n + 9 ≤ cap) (_hl : 9 ≤ len) (_hm : len ≤ 9223372036854775807) :
    Calls Try.prog 54 #[.slice (some ⟨g, n, none⟩) len c0, .int .i64 x] w fun e w' => e = .returned (.tuple #[]) ∧ Row w' 5 g cap (xs ++ (211 :: be x 8).map u8) ∧ w.grownBy w' (some g) ∧ w'.heap.size = w.heap.size := by
  obtain ⟨y0, hy0⟩ := hrow.cell (n := n) (by omega)
  obtain ⟨y1, hy1⟩ := hrow.cell (n := n + 1) (by omega)
  obtain ⟨y2, hy2⟩ := hrow.cell (n := n + 2) (by omega)
  obtain ⟨y3, hy3⟩ := hrow.cell (n := n + 3) (by omega)
  obtain ⟨y4, hy4⟩ := hrow.cell (n := n + 4) (by omega)
  obtain ⟨y5, hy5⟩ := hrow.cell (n := n + 5) (by omega)
  obtain ⟨y6, hy6⟩ := hrow.cell (n := n + 6) (by omega)
  obtain ⟨y7, hy7⟩ := hrow.cell (n := n + 7) (by omega)
  obtain ⟨y8, hy8⟩ := hrow.cell (n := n + 8) (by omega)
  have hf0 := hrow.frozen (n)
  have hf1 := hrow.frozen (n + 1)
  have hf2 := hrow.frozen (n + 2)
  have hf3 := hrow.frozen (n + 3)
  have hf4 := hrow.frozen (n + 4)
  have hf5 := hrow.frozen (n + 5)
  have hf6 := hrow.frozen (n + 6)
  have hf7 := hrow.frozen (n + 7)
  have hf8 := hrow.frozen (n + 8)
  go_enter Try.func54, Try.ntmps54
  go_wp2
  go_end0
  refine ⟨rfl, ?_, ?_, by simp⟩
  · refine Row.cast ?_ (((((((((hrow.push (n := n) (by simp [hn]) (by omega) _).push (n := n + 1) (by simp [hn]) (by omega) _).push (n := n + 2) (by simp [hn]) (by omega) _).push (n := n + 3) (by simp [hn]) (by omega) _).push (n := n + 4) (by simp [hn]) (by omega) _).push (n := n + 5) (by simp [hn]) (by omega) _).push (n := n + 6) (by simp [hn]) (by omega) _).push (n := n + 7) (by simp [hn]) (by omega) _).push (n := n + 8) (by simp [hn]) (by omega) _)
    simp [be, u8]
    first | done | omega | (unfold u8; simp; omega) | (simp [u8]; omega)
  · exact grown_setCell (grown_setCell (grown_setCell (grown_setCell (grown_setCell (grown_setCell (grown_setCell (grown_setCell (grown_setCell (World.grownBy.refl w _) _ _) _ _) _ _) _ _) _ _) _ _) _ _) _ _) _ _
set_option maxHeartbeats 400000 in
theorem w_putMint32 (g n cap len c0 : Nat) (x : Int) (_hx1 : -2147483648 ≤ x) (_hx2 : x ≤ 2147483647) (xs : List Value) (w : World) (hrow : Row w 5 g cap xs) (hn : xs.length = n) (_hc : n + 5 ≤ cap) (_hl : 5 ≤ len) (_hm : len ≤ 9223372036854775807) :
    Calls Try.prog 53 #[.slice (some ⟨g, n, none⟩) len c0, .int .i32 x] w fun e w' => e = .returned (.tuple #[]) ∧ Row w' 5 g cap (xs ++ (210 :: be x 4).map u8) ∧ w.grownBy w' (some g) ∧ w'.heap.size = w.heap.size := by
  obtain ⟨y0, hy0⟩ := hrow.cell (n := n) (by omega)
  obtain ⟨y1, hy1⟩ := hrow.cell (n := n + 1) (by omega)
  obtain ⟨y2, hy2⟩ := hrow.cell (n := n + 2) (by omega)
  obtain ⟨y3, hy3⟩ := hrow.cell (n := n + 3) (by omega)
  obtain ⟨y4, hy4⟩ := hrow.cell (n := n + 4) (by omega)
  have hf0 := hrow.frozen (n)
  have hf1 := hrow.frozen (n + 1)
  have hf2 := hrow.frozen (n + 2)
  have hf3 := hrow.frozen (n + 3)
  have hf4 := hrow.frozen (n + 4)
  go_enter Try.func53, Try.ntmps53
  go_wp2
  go_end0
  refine ⟨rfl, ?_, ?_, by simp⟩
  · refine Row.cast ?_ (((((hrow.push (n := n) (by simp [hn]) (by omega) _).push (n := n + 1) (by simp [hn]) (by omega) _).push (n := n + 2) (by simp [hn]) (by omega) _).push (n := n + 3) (by simp [hn]) (by omega) _).push (n := n + 4) (by simp [hn]) (by omega) _)
    simp [be, u8]
    first | done | omega | (unfold u8; simp; omega) | (simp [u8]; omega)
  · exact grown_setCell (grown_setCell (grown_setCell (grown_setCell (grown_setCell (World.grownBy.refl w _) _ _) _ _) _ _) _ _) _ _
set_option maxHeartbeats 400000 in
theorem w_putMint16 (g n cap len c0 : Nat) (x : Int) (_hx1 : -32768 ≤ x) (_hx2 : x ≤ 32767) (xs : List Value) (w : World) (hrow : Row w 5 g cap xs) (hn : xs.length = n) (_hc : n + 3 ≤ cap) (_hl : 3 ≤ len) (_hm : len ≤ 9223372036854775807) :
    Calls Try.prog 52 #[.slice (some ⟨g, n, none⟩) len c0, .int .i16 x] w fun e w' => e = .returned (.tuple #[]) ∧ Row w' 5 g cap (xs ++ (209 :: be x 2).map u8) ∧ w.grownBy w' (some g) ∧ w'.heap.size = w.heap.size := by
  obtain ⟨y0, hy0⟩ := hrow.cell (n := n) (by omega)
  obtain ⟨y1, hy1⟩ := hrow.cell (n := n + 1) (by omega)
  obtain ⟨y2, hy2⟩ := hrow.cell (n := n + 2) (by omega)
  have hf0 := hrow.frozen (n)
  have hf1 := hrow.frozen (n + 1)
  have hf2 := hrow.frozen (n + 2)
  go_enter Try.func52, Try.ntmps52
  go_wp2
  go_end0
  refine ⟨rfl, ?_, ?_, by simp⟩
  · refine Row.cast ?_ (((hrow.push (n := n) (by simp [hn]) (by omega) _).push (n := n + 1) (by simp [hn]) (by omega) _).push (n := n + 2) (by simp [hn]) (by omega) _)
    simp [be, u8]
    first | done | omega | (unfold u8; simp; omega) | (simp [u8]; omega)
  · exact grown_setCell (grown_setCell (grown_setCell (World.grownBy.refl w _) _ _) _ _) _ _
set_option maxHeartbeats 400000 in
theorem w_putMint8 (g n cap len c0 : Nat) (x : Int) (_hx1 : -128 ≤ x) (_hx2 : x ≤ 127) (xs : List Value) (w : World) (hrow : Row w 5 g cap xs) (hn : xs.length = n) (_hc : n + 2 ≤ cap) (_hl : 2 ≤ len) (_hm : len ≤ 9223372036854775807) :
    Calls Try.prog 56 #[.slice (some ⟨g, n, none⟩) len c0, .int .i8 x] w fun e w' => e = .returned (.tuple #[]) ∧ Row w' 5 g cap (xs ++ (208 :: be x 1).map u8) ∧ w.grownBy w' (some g) ∧ w'.heap.size = w.heap.size := by
  obtain ⟨y0, hy0⟩ := hrow.cell (n := n) (by omega)
  obtain ⟨y1, hy1⟩ := hrow.cell (n := n + 1) (by omega)
  have hf0 := hrow.frozen (n)
  have hf1 := hrow.frozen (n + 1)
  go_enter Try.func56, Try.ntmps56
  go_wp2
  go_end0
  refine ⟨rfl, ?_, ?_, by simp⟩
  · refine Row.cast ?_ ((hrow.push (n := n) (by simp [hn]) (by omega) _).push (n := n + 1) (by simp [hn]) (by omega) _)
    simp [be, u8]
    first | done | omega | (unfold u8; simp; omega) | (simp [u8]; omega)
  · exact grown_setCell (grown_setCell (World.grownBy.refl w _) _ _) _ _
set_option maxHeartbeats 400000 in
theorem w_putMuint64 (g n cap len c0 : Nat) (x : Int) (_hx1 : 0 ≤ x) (_hx2 : x ≤ 18446744073709551615) (xs : List Value) (w : World) (hrow : Row w 5 g cap xs) (hn : xs.length = n) (_hc : n + 9 ≤ cap) (_hl : 9 ≤ len) (_hm : len ≤ 9223372036854775807) :
    Calls Try.prog 71 #[.slice (some ⟨g, n, none⟩) len c0, .int .u64 x] w fun e w' => e = .returned (.tuple #[]) ∧ Row w' 5 g cap (xs ++ (207 :: be x 8).map u8) ∧ w.grownBy w' (some g) ∧ w'.heap.size = w.heap.size := by
  obtain ⟨y0, hy0⟩ := hrow.cell (n := n) (by omega)
  obtain ⟨y1, hy1⟩ := hrow.cell (n := n + 1) (by omega)
  obtain ⟨y2, hy2⟩ := hrow.cell (n := n + 2) (by omega)
  obtain ⟨y3, hy3⟩ := hrow.cell (n := n + 3) (by omega)
  obtain ⟨y4, hy4⟩ := hrow.cell (n := n + 4) (by omega)
  obtain ⟨y5, hy5⟩ := hrow.cell (n := n + 5) (by omega)
  obtain ⟨y6, hy6⟩ := hrow.cell (n := n + 6) (by omega)
  obtain ⟨y7, hy7⟩ := hrow.cell (n := n + 7) (by omega)
  obtain ⟨y8, hy8⟩ := hrow.cell (n := n + 8) (by omega)
  have hf0 := hrow.frozen (n)
  have hf1 := hrow.frozen (n + 1)
  have hf2 := hrow.frozen (n + 2)
  have hf3 := hrow.frozen (n + 3)
  have hf4 := hrow.frozen (n + 4)
  have hf5 := hrow.frozen (n + 5)
  have hf6 := hrow.frozen (n + 6)
  have hf7 := hrow.frozen (n + 7)
  have hf8 := hrow.frozen (n + 8)
  go_enter Try.func71, Try.ntmps71
  go_wp2
  go_end0
  refine ⟨rfl, ?_, ?_, by simp⟩
  · refine Row.cast ?_ (((((((((hrow.push (n := n) (by simp [hn]) (by omega) _).push (n := n + 1) (by simp [hn]) (by omega) _).push (n := n + 2) (by simp [hn]) (by omega) _).push (n := n + 3) (by simp [hn]) (by omega) _).push (n := n + 4) (by simp [hn]) (by omega) _).push (n := n + 5) (by simp [hn]) (by omega) _).push (n := n + 6) (by simp [hn]) (by omega) _).push (n := n + 7) (by simp [hn]) (by omega) _).push (n := n + 8) (by simp [hn]) (by omega) _)
    simp [be, u8]
    first | done | omega | (unfold u8; simp; omega) | (simp [u8]; omega)
  · exact grown_setCell (grown_setCell (grown_setCell (grown_setCell (grown_setCell (grown_setCell (grown_setCell (grown_setCell (grown_setCell (World.grownBy.refl w _) _ _) _ _) _ _) _ _) _ _) _ _) _ _) _ _) _ _
set_option maxHeartbeats 400000 in
theorem w_putMuint32 (g n cap len c0 : Nat) (x : Int) (_hx1 : 0 ≤ x) (_hx2 : x ≤ 4294967295) (xs : List Value) (w : World) (hrow : Row w 5 g cap xs) (hn : xs.length = n) (_hc : n + 5 ≤ cap) (_hl : 5 ≤ len) (_hm : len ≤ 9223372036854775807) :
    Calls Try.prog 70 #[.slice (some ⟨g, n, none⟩) len c0, .int .u32 x] w fun e w' => e = .returned (.tuple #[]) ∧ Row w' 5 g cap (xs ++ (206 :: be x 4).map u8) ∧ w.grownBy w' (some g) ∧ w'.heap.size = w.heap.size := by
  obtain ⟨y0, hy0⟩ := hrow.cell (n := n) (by omega)
  obtain ⟨y1, hy1⟩ := hrow.cell (n := n + 1) (by omega)
  obtain ⟨y2, hy2⟩ := hrow.cell (n := n + 2) (by omega)
  obtain ⟨y3, hy3⟩ := hrow.cell (n := n + 3) (by omega)
  obtain ⟨y4, hy4⟩ := hrow.cell (n := n + 4) (by omega)
  have hf0 := hrow.frozen (n)
  have hf1 := hrow.frozen (n + 1)
  have hf2 := hrow.frozen (n + 2)
  have hf3 := hrow.frozen (n + 3)
  have hf4 := hrow.frozen (n + 4)
  go_enter Try.func70, Try.ntmps70
  go_wp2
  go_end0
  refine ⟨rfl, ?_, ?_, by simp⟩
  · refine Row.cast ?_ (((((hrow.push (n := n) (by simp [hn]) (by omega) _).push (n := n + 1) (by simp [hn]) (by omega) _).push (n := n + 2) (by simp [hn]) (by omega) _).push (n := n + 3) (by simp [hn]) (by omega) _).push (n := n + 4) (by simp [hn]) (by omega) _)
    simp [be, u8]
    first | done | omega | (unfold u8; simp; omega) | (simp [u8]; omega)
  · exact grown_setCell (grown_setCell (grown_setCell (grown_setCell (grown_setCell (World.grownBy.refl w _) _ _) _ _) _ _) _ _) _ _
set_option maxHeartbeats 400000 in
theorem w_putMuint16 (g n cap len c0 : Nat) (x : Int) (_hx1 : 0 ≤ x) (_hx2 : x ≤ 65535) (xs : List Value) (w : World) (hrow : Row w 5 g cap xs) (hn : xs.length = n) (_hc : n + 3 ≤ cap) (_hl : 3 ≤ len) (_hm : len ≤ 9223372036854775807) :
    Calls Try.prog 69 #[.slice (some ⟨g, n, none⟩) len c0, .int .u16 x] w fun e w' => e = .returned (.tuple #[]) ∧ Row w' 5 g cap (xs ++ (205 :: be x 2).map u8) ∧ w.grownBy w' (some g) ∧ w'.heap.size = w.heap.size := by
  obtain ⟨y0, hy0⟩ := hrow.cell (n := n) (by omega)
  obtain ⟨y1, hy1⟩ := hrow.cell (n := n + 1) (by omega)
  obtain ⟨y2, hy2⟩ := hrow.cell (n := n + 2) (by omega)
  have hf0 := hrow.frozen (n)
  have hf1 := hrow.frozen (n + 1)
  have hf2 := hrow.frozen (n + 2)
  go_enter Try.func69, Try.ntmps69
  go_wp2
  go_end0
  refine ⟨rfl, ?_, ?_, by simp⟩
  · refine Row.cast ?_ (((hrow.push (n := n) (by simp [hn]) (by omega) _).push (n := n + 1) (by simp [hn]) (by omega) _).push (n := n + 2) (by simp [hn]) (by omega) _)
    simp [be, u8]
    first | done | omega | (unfold u8; simp; omega) | (simp [u8]; omega)
  · exact grown_setCell (grown_setCell (grown_setCell (World.grownBy.refl w _) _ _) _ _) _ _
set_option maxHeartbeats 400000 in
theorem w_putMuint8 (g n cap len c0 : Nat) (x : Int) (_hx1 : 0 ≤ x) (_hx2 : x ≤ 255) (xs : List Value) (w : World) (hrow : Row w 5 g cap xs) (hn : xs.length = n) (_hc : n + 2 ≤ cap) (_hl : 2 ≤ len) (_hm : len ≤ 9223372036854775807) :
    Calls Try.prog 68 #[.slice (some ⟨g, n, none⟩) len c0, .int .u8 x] w fun e w' => e = .returned (.tuple #[]) ∧ Row w' 5 g cap (xs ++ (204 :: be x 1).map u8) ∧ w.grownBy w' (some g) ∧ w'.heap.size = w.heap.size := by
  obtain ⟨y0, hy0⟩ := hrow.cell (n := n) (by omega)
  obtain ⟨y1, hy1⟩ := hrow.cell (n := n + 1) (by omega)
  have hf0 := hrow.frozen (n)
  have hf1 := hrow.frozen (n + 1)
  go_enter Try.func68, Try.ntmps68
  go_wp2
  go_end0
  refine ⟨rfl, ?_, ?_, by simp⟩
  · refine Row.cast ?_ ((hrow.push (n := n) (by simp [hn]) (by omega) _).push (n := n + 1) (by simp [hn]) (by omega) _)
    simp [be, u8]
    first | done | omega | (unfold u8; simp; omega) | (simp [u8]; omega)
  · exact grown_setCell (grown_setCell (World.grownBy.refl w _) _ _) _ _
set_option maxHeartbeats 400000 in
theorem w_prefixu8 (p : UInt8) (p' : Int) (hp : p' = p.toNat) (g n cap len c0 : Nat) (x : Int) (_hx1 : 0 ≤ x) (_hx2 : x ≤ 255) (xs : List Value) (w : World) (hrow : Row w 5 g cap xs) (hn : xs.length = n) (_hc : n + 2 ≤ cap) (_hl : 2 ≤ len) (_hm : len ≤ 9223372036854775807) :
    Calls Try.prog 44 #[.slice (some ⟨g, n, none⟩) len c0, .int .u8 p', .int .u8 x] w fun e w' => e = .returned (.tuple #[]) ∧ Row w' 5 g cap (xs ++ (p :: be x 1).map u8) ∧ w.grownBy w' (some g) ∧ w'.heap.size = w.heap.size := by
  have hp256 := p.toNat_lt
  obtain ⟨y0, hy0⟩ := hrow.cell (n := n) (by omega)
  obtain ⟨y1, hy1⟩ := hrow.cell (n := n + 1) (by omega)
  have hf0 := hrow.frozen (n)
  have hf1 := hrow.frozen (n + 1)
  go_enter Try.func44, Try.ntmps44
  go_wp2
  go_end0
  refine ⟨rfl, ?_, ?_, by simp⟩
  · refine Row.cast ?_ ((hrow.push (n := n) (by simp [hn]) (by omega) _).push (n := n + 1) (by simp [hn]) (by omega) _)
    simp [be, u8]
    first | done | omega | (unfold u8; simp; omega) | (simp [u8]; omega)
  · exact grown_setCell (grown_setCell (World.grownBy.refl w _) _ _) _ _
set_option maxHeartbeats 400000 in
theorem w_prefixu16 (p : UInt8) (p' : Int) (hp : p' = p.toNat) (g n cap len c0 : Nat) (x : Int) (_hx1 : 0 ≤ x) (_hx2 : x ≤ 65535) (xs : List Value) (w : World) (hrow : Row w 5 g cap xs) (hn : xs.length = n) (_hc : n + 3 ≤ cap) (_hl : 3 ≤ len) (_hm : len ≤ 9223372036854775807) :
    Calls Try.prog 40 #[.slice (some ⟨g, n, none⟩) len c0, .int .u8 p', .int .u16 x] w fun e w' => e = .returned (.tuple #[]) ∧ Row w' 5 g cap (xs ++ (p :: be x 2).map u8) ∧ w.grownBy w' (some g) ∧ w'.heap.size = w.heap.size := by
  have hp256 := p.toNat_lt
  obtain ⟨y0, hy0⟩ := hrow.cell (n := n) (by omega)
  obtain ⟨y1, hy1⟩ := hrow.cell (n := n + 1) (by omega)
  obtain ⟨y2, hy2⟩ := hrow.cell (n := n + 2) (by omega)
  have hf0 := hrow.frozen (n)
  have hf1 := hrow.frozen (n + 1)
  have hf2 := hrow.frozen (n + 2)
  go_enter Try.func40, Try.ntmps40
  go_wp2
  go_end0
  refine ⟨rfl, ?_, ?_, by simp⟩
  · refine Row.cast ?_ (((hrow.push (n := n) (by simp [hn]) (by omega) _).push (n := n + 1) (by simp [hn]) (by omega) _).push (n := n + 2) (by simp [hn]) (by omega) _)
    simp [be, u8]
    first | done | omega | (unfold u8; simp; omega) | (simp [u8]; omega)
  · exact grown_setCell (grown_setCell (grown_setCell (World.grownBy.refl w _) _ _) _ _) _ _
set_option maxHeartbeats 400000 in
theorem w_prefixu32 (p : UInt8) (p' : Int) (hp : p' = p.toNat) (g n cap len c0 : Nat) (x : Int) (_hx1 : 0 ≤ x) (_hx2 : x ≤ 4294967295) (xs : List Value) (w : World) (hrow : Row w 5 g cap xs) (hn : xs.length = n) (_hc : n + 5 ≤ cap) (_hl : 5 ≤ len) (_hm : len ≤ 9223372036854775807) :
    Calls Try.prog 41 #[.slice (some ⟨g, n, none⟩) len c0, .int .u8 p', .int .u32 x] w fun e w' => e = .returned (.tuple #[]) ∧ Row w' 5 g cap (xs ++ (p :: be x 4).map u8) ∧ w.grownBy w' (some g) ∧ w'.heap.size = w.heap.size := by
  have hp256 := p.toNat_lt
  obtain ⟨y0, hy0⟩ := hrow.cell (n := n) (by omega)
  obtain ⟨y1, hy1⟩ := hrow.cell (n := n + 1) (by omega)
  obtain ⟨y2, hy2⟩ := hrow.cell (n := n + 2) (by omega)
  obtain ⟨y3, hy3⟩ := hrow.cell (n := n + 3) (by omega)
  obtain ⟨y4, hy4⟩ := hrow.cell (n := n + 4) (by omega)
  have hf0 := hrow.frozen (n)
  have hf1 := hrow.frozen (n + 1)
  have hf2 := hrow.frozen (n + 2)
  have hf3 := hrow.frozen (n + 3)
  have hf4 := hrow.frozen (n + 4)
  go_enter Try.func41, Try.ntmps41
  go_wp2
  go_end0
  refine ⟨rfl, ?_, ?_, by simp⟩
  · refine Row.cast ?_ (((((hrow.push (n := n) (by simp [hn]) (by omega) _).push (n := n + 1) (by simp [hn]) (by omega) _).push (n := n + 2) (by simp [hn]) (by omega) _).push (n := n + 3) (by simp [hn]) (by omega) _).push (n := n + 4) (by simp [hn]) (by omega) _)
    simp [be, u8]
    first | done | omega | (unfold u8; simp; omega) | (simp [u8]; omega)
  · exact grown_setCell (grown_setCell (grown_setCell (grown_setCell (grown_setCell (World.grownBy.refl w _) _ _) _ _) _ _) _ _) _ _
end Go.Proofs.Ytlnpiigdjjadiaa
