/-
  Lemmas, 2 texts in one: Fits3, PFits. Each says its conditions.
-/
import Derived.Test.YtlnpiigdjjadiaaDoorGGetSetByteq
import Derived.Test.YtlnpiigdjjadiaaDoorGGetSetByteh
import Derived.BigGuardPart

/-
  spec.packFits: if it answers true the value fits (FitsP). Conditions: it reads as a value in memory; at most 1000 levels.
-/
namespace Go.Proofs.YtlnpiigdjjadiaaDoor
set_option linter.unusedSimpArgs false
set_option linter.unusedVariables false
set_option linter.unusedVariables false
open Go.RowKit
/-- What packFits says of a value without its kids: its first tests. -/
def HeadF1 (lv k n e : Int) (T : ByteArray) (m : Nat) : Prop :=
  0 < lv ∧ 0 ≤ k ∧ k < 11 ∧ ((k = 8 ∨ k = 9) ∨ m = 0) ∧ ((k = 6 ∨ k = 7 ∨ k = 10) ∨ T.toList = []) ∧ ((1 ≤ k ∧ k ≤ 5) ∨ n = 0) ∧ (k = 10 ∨ e = 0) ∧ -128 ≤ e ∧ e ≤ 127
/-- Its later tests. -/
def HeadF2 (k n : Int) (T : ByteArray) (m : Nat) : Prop :=
  (k = 1 → n ≤ 1) ∧ (k = 4 → n < 4294967296) ∧ (k = 9 → m % 2 = 0) ∧ m ≤ 2000 ∧ T.size ≤ 131072
theorem headF1_mk {lv k n e : Int} {T : ByteArray} {m : Nat} {bk bt bn : Bool} (H5 : Hid (bk = true → k = 8 ∨ k = 9)) (H6 : Hid (bt = true → k = 6 ∨ k = 7 ∨ k = 10)) (H7 : Hid (bn = true → 1 ≤ k ∧ k ≤ 5))
    (h1 : 0 < lv) (h2 : 0 ≤ k) (h3 : k < 11) (h4 : bk = true ∨ ¬ 0 < m) (h5 : bt = true ∨ T.toList.isEmpty = true) (h6 : bn = true ∨ n = 0) (h7 : k = 10 ∨ e = 0) (h8 : -128 ≤ e) (h9 : e ≤ 127) : HeadF1 lv k n e T m :=
  ⟨h1, h2, h3, h4.imp (unhide H5) (fun h => by omega), h5.imp (unhide H6) (fun h => List.isEmpty_iff.1 h), h6.imp (unhide H7) id, h7, h8, h9⟩
theorem fit_of {lv k e : Int} {n : Nat} {t : List UInt8} {m : Nat} (h1 : HeadF1 lv k n e ⟨t.toArray⟩ m) (h2 : HeadF2 k n ⟨t.toArray⟩ m) : FitHd k n t e m := by
  obtain ⟨_, a, b, c, d, f, g, i, j⟩ := h1
  obtain ⟨p, q, r, s, u⟩ := h2
  rw [ByteArray.toList_mk] at d
  refine ⟨a, b, c, d, f.imp id (fun h => by omega), g, i, j, fun h => by have := p h; omega, fun h => by have := q h; omega, r, s, ?_⟩
  simpa [ByteArray.size] using u
/-- What packFits answers. -/
def FitsR (p : Pack) (w : World) (e : Ending) (w' : World) : Prop := ∃ b : Bool, e = .returned (.bool b) ∧ Below w.heap.size w w' ∧ (b = true → FitsP p)
end Go.Proofs.YtlnpiigdjjadiaaDoor

/-
  spec.PackFits: if it answers true the value fits, and is at most 2000 values. Conditions: it reads as a value in memory.
-/
namespace Go.Proofs.YtlnpiigdjjadiaaDoor
set_option linter.unusedSimpArgs false
set_option linter.unusedVariables false
set_option linter.unusedVariables false
open Go.RowKit
def PFitsR (p : Pack) (w : World) (e : Ending) (w' : World) : Prop := ∃ b : Bool, e = .returned (.bool b) ∧ Below w.heap.size w w' ∧ (b = true → FitsP p ∧ cnt p ≤ 2000)
end Go.Proofs.YtlnpiigdjjadiaaDoor
