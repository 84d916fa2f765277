/-
  laws.sameItems at byte, of two slices with the same values. Conditions: at most 100.
-/
import Derived.Test.YtlnpiigdjjadiaaDoorGGetSetBytea
import Derived.Test.YtlnpiigdjjadiaaDoorProg
import Derived.BigRegion
import Derived.Deep.QuietTactic
namespace Go.Proofs.YtlnpiigdjjadiaaDoor
set_option linter.unusedSimpArgs false
set_option linter.unusedVariables false
set_option linter.unusedVariables false
open Go.RowKit
set_option maxRecDepth 100000 in
set_option maxHeartbeats 1600000 in
theorem same_byte (S R : Nat → Prop) (A B : Option Addr) (zs : List Int) (n c c' : Nat) (w : World) (hn : n = zs.length) (hn2 : n ≤ 100) (ha : Reads w S 1 A n (zs.map (Value.int .u8))) (hb : Reads w R 1 B n (zs.map (Value.int .u8))) :
    Calls Tryd.prog 14 #[.slice A n c, .slice B n c'] w fun e w' => e = .returned (.bool true) ∧ Below w.heap.size w w' := by
  have HA := hide ha
  have HB := hide hb
  have HN := hide hn
  clear ha hb hn
  go_enter Tryd.func14, Tryd.ntmps14
  go_wp2
  go_loopw [13] (fun i wr => ∃ k : Nat, k ≤ n ∧ i = .int .i64 k ∧ Quiet w wr) (fun i _ => n - (intOf i).toNat)
  case atStart => exact ⟨0, Nat.zero_le _, rfl, Quiet.refl _⟩
  case round =>
    obtain ⟨k, hk, rfl, hq⟩ := hrel
    by_cases hlt : k < n
    · obtain ⟨ad, u, rfl, _, hu, hca⟩ := (unhide HA).at_ hlt
      obtain ⟨bd, u2, rfl, _, hu2, hcb⟩ := (unhide HB).at_ hlt
      have hkx : k < zs.length := by have := unhide HN; omega
      rw [List.getElem?_map, List.getElem?_eq_getElem hkx] at hu hu2
      obtain rfl := Option.some.inj hu
      obtain rfl := Option.some.inj hu2
      generalize zs[k] = x at *
      obtain ⟨q, rfl⟩ := hq
      have hlt2 : (k : Int) < (n : Int) := by omega
      have hk0 : (0 : Int) ≤ (k : Int) := by omega
      clear hu hu2 hkx
      go_wp2_with fail
      go_region
      go_wp2_with fail
      go_roundw
      case rel => exact ⟨k + 1, hlt, by go_num, (Quiet.drewN w q).trans (Quiet.drew _)⟩
      case measure => simp [intOf]; omega
    · obtain rfl : k = n := by omega
      have hlt2 : ¬ (k : Int) < (k : Int) := by omega
      have HQ := hide hq
      clear hq
      go_wp2_with fail
      go_ret
      exact ⟨rfl, (unhide HQ).below (Below.refl _ _)⟩
end Go.Proofs.YtlnpiigdjjadiaaDoor
