/-
  impl.PutComplex64. Conditions: what stands before is at most 2^40 bytes.
-/
import Derived.Test.YtloaaffkjhkpaaaDoorCplx
namespace Go.Proofs.YtloaaffkjhkpaaaDoor
set_option linter.unusedSimpArgs false
set_option linter.unusedVariables false
set_option linter.unusedVariables false
open Go.RowKit
def encC (x y : Nat) : List UInt8 := 215 :: 3 :: (be (x : Int) 4 ++ be (y : Int) 4)
set_option maxHeartbeats 800000 in
theorem PutComplex64_any (S : Nat → Prop) (A : Option Addr) (bs : List UInt8) (n cap : Nat) (x y : Nat) (hx : x < 4294967296) (hy : y < 4294967296) (w : World) (hn : n = bs.length) (hr : RB w S A bs) (hS : Old w S) (hlen : n ≤ 1099511627776) :
    Calls Tryd.prog 4 #[.slice A n cap, .int .u32 x, .int .u32 y] w (Out w (bs ++ encC x y)) := by
  subst hn
  have hfx := cfrom32 (x : Nat)
  have hfy := cfrom32 (y : Nat)
  simp only [Int.toNat_natCast] at hfx hfy
  go_enter Tryd.func4, Tryd.ntmps4
  go_wp2_with (first
    | (go_at_call 9; go_loud (refine (copied_any S A bs bs.length cap _ rfl hr hS (by omega)).mono ?_; rintro e w1 ⟨v, rfl, hown, hbel⟩; have hbl := hide (own_blocks hown); obtain ⟨A1, c1, rfl, hc1, hc1m, _⟩ := own_slice hown))
    | (go_at_call 8; go_loud (refine (AppendComplex64_any x y hx hy _ A1 bs.length c1 (bs.map u8) _ hown (u8_one bs) hbel.size (by omega)).mono ?_; rintro e w2 ⟨A', c', rfl, h3, h4, h5, h6⟩)))
  go_ret
  exact out_of_appd rfl (by simp [encC]) hbel (unhide hbl) rfl h3 h4 h5 h6
end Go.Proofs.YtloaaffkjhkpaaaDoor
