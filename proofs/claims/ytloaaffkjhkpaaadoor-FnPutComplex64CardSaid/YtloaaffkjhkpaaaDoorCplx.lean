/-
  AppendComplex64, impl.PutComplex64: two floats of 32 bits are written as an extension of type 3. Conditions: what stands before is at most 2^40 bytes.
-/
import Derived.Test.YtloaaffkjhkpaaaDoorPutOut
import Derived.Laws.Externs
import Derived.StillTailTactics
import Derived.Deep.RegionWith
import Derived.Deep.RegionHeld3
import Derived.BigRegion
namespace Go.Proofs.YtloaaffkjhkpaaaDoor
set_option linter.unusedSimpArgs false
set_option linter.unusedVariables false
set_option linter.unusedVariables false
open Go.RowKit
theorem cfrom32 (n : Int) (w : World) : (callFunc 10 #[.int .u32 n]).run Tryd.prog w = .ok (.value (.float .f32 n.toNat)) w := by
  rw [run_callFunc_extern (e := Extern.MathFloatBits.float32frombits) Tryd.func10 (by kernel_rfl) (by kernel_rfl) (by kernel_rfl) (by kernel_rfl)]
  rfl
theorem cbits32 (n : Nat) (w : World) : (callFunc 15 #[.float .f32 n]).run Tryd.prog w = .ok (.value (.int .u32 n)) w := by
  rw [run_callFunc_extern (e := Extern.MathFloatBits.float32bits) Tryd.func15 (by kernel_rfl) (by kernel_rfl) (by kernel_rfl) (by kernel_rfl)]
  rfl
theorem grown_allocC {a w : World} {g : Nat} (h : a.grownBy w (some g)) (o : Obj) : a.grownBy (w.alloc o) (some g) :=
  ⟨h.os, h.tape, h.output, by have := h.size; simp; omega, fun b hb hne => (Below.heap_alloc w o b (Nat.lt_of_lt_of_le hb h.size)).trans (h.block b hb hne)⟩
theorem row_allocC {w : World} {t : TypeId} {g cap : Nat} {xs : List Value} (h : Row w t g cap xs) (o : Obj) : Row (w.alloc o) t g cap xs := h.keep (Below.heap_alloc w o g h.lt)
set_option maxHeartbeats 400000 in
theorem w_putBE32 (g n cap len c0 : Nat) (x : Int) (_hx1 : 0 ≤ x) (_hx2 : x ≤ 4294967295) (xs : List Value) (w : World) (hrow : Row w 5 g cap xs) (hn : xs.length = n) (_hc : n + 4 ≤ cap) (_hl : 4 ≤ len) (_hm : len ≤ 9223372036854775807) :
    Calls Tryd.prog 17 #[.agg #[], .slice (some ⟨g, n, none⟩) len c0, .int .u32 x] w fun e w' => e = .returned (.tuple #[]) ∧ Row w' 5 g cap (xs ++ (be x 4).map u8) ∧ w.grownBy w' (some g) := by
  obtain ⟨y0, hy0⟩ := hrow.cell (n := n) (by omega)
  obtain ⟨y1, hy1⟩ := hrow.cell (n := n + 1) (by omega)
  obtain ⟨y2, hy2⟩ := hrow.cell (n := n + 2) (by omega)
  obtain ⟨y3, hy3⟩ := hrow.cell (n := n + 3) (by omega)
  have hf0 := hrow.frozen (n)
  have hf1 := hrow.frozen (n + 1)
  have hf2 := hrow.frozen (n + 2)
  have hf3 := hrow.frozen (n + 3)
  have hlt := hrow.lt
  go_enter Tryd.func17, Tryd.ntmps17
  go_wp2
  go_end0
  refine ⟨rfl, ?_, ?_⟩
  · refine row_allocC (Row.cast ?_ ((((hrow.push (n := n) (by simp [hn]) (by omega) _).push (n := n + 1) (by simp [hn]) (by omega) _).push (n := n + 2) (by simp [hn]) (by omega) _).push (n := n + 3) (by simp [hn]) (by omega) _)) _
    simp [be, u8]
    first | done | omega | (unfold u8; simp; omega) | (simp [u8]; omega)
  · exact grown_allocC (grown_setCell (grown_setCell (grown_setCell (grown_setCell (World.grownBy.refl w _) _ _) _ _) _ _) _ _) _
theorem be_len4 (a : Int) : (be a 4).length = 4 := by simp [be]
set_option maxRecDepth 100000 in
set_option maxHeartbeats 6400000 in
theorem AppendComplex64_any (a b : Nat) (ha : a < 4294967296) (hb : b < 4294967296) (B : Nat) (A : Option Addr) (n cap : Nat) (xs : List Value) (w : World) (hown : w.ownsRow B 5 1 (.slice A n cap) n xs) (hone : ∀ u ∈ xs, u.oneCell' = true) (hB : B ≤ w.heap.size) (hlen : n ≤ 1099511627776) :
    Calls Tryd.prog 8 #[.slice A n cap, .complex .f32 a b] w (Appd B n xs w (.slice A n cap) (215 :: 3 :: (be a 4 ++ be b 4))) := by
  have hba := cbits32 a
  have hbb := cbits32 b
  go_enter Tryd.func8, Tryd.ntmps8
  go_wp2_with (go_at_call 16; go_loud (refine (ensure_any B A n cap 10 _ xs _ (by simp) (by omega) hown hone hB (by omega)).mono ?_; rintro e w1 ⟨g, c', rfl, hgc, hcm, hBg, hxl, hrow, hbel, hat⟩; have HX := hide hxl; have HA := hide hat; have hxl' := hxl; clear hxl hat; unfold maxLen at hcm; obtain ⟨y0, hy0⟩ := hrow.cell (n := n) (by omega); obtain ⟨y1, hy1⟩ := hrow.cell (n := n + 1) (by omega); have hf0 := hrow.frozen (n); have hf1 := hrow.frozen (n + 1); have hlt := hrow.lt))
  have hrow2 : Row ((w1.setCell ⟨g, n, none⟩ (.int .u8 215)).setCell ⟨g, n + 1, none⟩ (.int .u8 3)) 5 g c' (xs ++ ([215, 3] : List UInt8).map u8) := by
    refine Row.cast ?_ ((hrow.push (n := n) hxl' (by omega) _).push (n := n + 1) (by simp [hxl']) (by omega) _)
    simp [u8]
  have hg2 : w1.grownBy ((w1.setCell ⟨g, n, none⟩ (.int .u8 215)).setCell ⟨g, n + 1, none⟩ (.int .u8 3)) (some g) := grown_setCell (grown_setCell (World.grownBy.refl w1 _) _ _) _ _
  generalize (w1.setCell ⟨g, n, none⟩ (.int .u8 215)).setCell ⟨g, n + 1, none⟩ (.int .u8 3) = w2 at *
  have HR2 := hide hrow2
  have HG2 := hide hg2
  have hcut2 := cutA_at g c' (n + 2) (by omega)
  have hcut6 := cutA_at g c' (n + 6) (by omega)
  have hi2 : (n : Int) + 2 ≤ (n : Int) + 10 := by omega
  have hi6 : (n : Int) + 6 ≤ (n : Int) + 10 := by omega
  have hw2 : IntKind.i64.wrap ((n : Int) + 2) = (n : Int) + 2 := by simp [IntKind.wrap, IntKind.bits, IntKind.signed]; omega
  have hw6 : IntKind.i64.wrap ((n : Int) + 6) = (n : Int) + 6 := by simp [IntKind.wrap, IntKind.bits, IntKind.signed]; omega
  clear hy0 hy1 hf0 hf1 hlt hrow hown hrow2 hg2
  have hp2 : (0 : Int) ≤ (n : Int) + 2 := by omega
  have hp6 : (0 : Int) ≤ (n : Int) + 6 := by omega
  have ht2 : ((n : Int) + 2).toNat = n + 2 := by omega
  have ht6 : ((n : Int) + 6).toNat = n + 6 := by omega
  have hd2 : n + 10 - (n + 2) = 8 := by omega
  have hd6 : n + 10 - (n + 6) = 4 := by omega
  go_region_held3 (fun _ => True) (trivial) ((go_at_call 17; go_loud (refine (w_putBE32 g (n + 2) c' 8 _ (a : Int) (by omega) (by omega) (xs ++ ([215, 3] : List UInt8).map u8) w2.drew ((unhide HR2).keep rfl) (by simp [hxl']) (by omega) (by omega) (by omega)).mono ?_; rintro e w3 ⟨rfl, hrow3, hg3⟩; have HR3 := hide hrow3; have HG3 := hide (grown_trans' (grown_drew (unhide HG2)) hg3 (fun k hk => .inl hk)); clear hrow3 hg3)))
  all_goals (
    go_wp2
    go_region_held3 (fun _ => True) (trivial) ((go_at_call 17; go_loud (refine (w_putBE32 g (n + 6) c' 4 _ (b : Int) (by omega) (by omega) (xs ++ ([215, 3] : List UInt8).map u8 ++ (be (a : Int) 4).map u8) w3.drew ((unhide HR3).keep rfl) (by simp [hxl', be_len4]) (by omega) (by omega) (by omega)).mono ?_; rintro e w4 ⟨rfl, hrow4, hg4⟩; have HR4 := hide hrow4; have HG4 := hide (grown_trans' (grown_drew (unhide HG3)) hg4 (fun k hk => .inl hk)); clear hrow4 hg4)))
    all_goals (
      go_wp2
      go_ret
      exact append_done (unhide HX) hbel (unhide HA) hBg (by unfold maxLen; omega) (by have h := unhide HR4; simpa using h) (unhide HG4) (by simp [be_len4])))
end Go.Proofs.YtloaaffkjhkpaaaDoor
