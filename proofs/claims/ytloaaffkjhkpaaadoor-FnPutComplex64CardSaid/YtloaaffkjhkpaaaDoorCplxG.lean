/-
  impl.GetComplex64 over the ten bytes of a number. Conditions: the data read as bytes.
-/
import Derived.Test.YtloaaffkjhkpaaaDoorCplxP
import Derived.Test.YtloaaffkjhkpaaaDoorCplxR
namespace Go.Proofs.YtloaaffkjhkpaaaDoor
set_option linter.unusedSimpArgs false
set_option linter.unusedVariables false
set_option linter.unusedVariables false
open Go.RowKit
theorem bigU_be4 (x : Nat) (h : x < 4294967296) (zs : List UInt8) : bigU ((be (x : Int) 4 ++ zs).take 4) = x := by
  rw [List.take_left' (by simp [be])]
  simp [be, bigU]
  omega
set_option maxRecDepth 100000 in
set_option maxHeartbeats 1600000 in
theorem getComplex64_any (S : Nat → Prop) (A : Option Addr) (x y n c : Nat) (w : World) (hr : RB w S A (encC x y)) (hn : n = 10) (hx : x < 4294967296) (hy : y < 4294967296) (hc : n ≤ c) (hcm : c ≤ 9223372036854775807) (hS : Old w S) :
    Calls Tryd.prog 7 #[.slice A n c] w fun e w' => ∃ A2 c2, e = .returned (.tuple #[.int .u32 x, .int .u32 y, .slice A2 0 c2, .bool true]) ∧ Below w.heap.size w w' := by
  have hR := readComplex64_any S A (be (x : Int) 4 ++ be (y : Int) 4) n c w hr (by rw [hn]; simp [be_len4]) (by simp [be_len4]) hc hcm hS
  have e2 : bigU (((be (x : Int) 4 ++ be (y : Int) 4).drop 4).take 4) = y := by
    rw [List.drop_left' (by simp [be])]
    have := bigU_be4 y hy []
    simpa using this
  rw [bigU_be4 x hx, e2] at hR
  subst hn
  have HR := hide hR
  have hbx := rbits32 x
  have hby := rbits32 y
  clear hR e2 hr
  go_enter Tryd.func7, Tryd.ntmps7
  go_wp2_with (first
    | (go_at_call 14; go_loud (refine (unhide HR).mono ?_; rintro e w1 ⟨A1, rfl, hb1⟩))
    | (go_at_call 9; go_loud (refine (copied_any (Lt 0) A1 [] 0 (c - 10) _ rfl ⟨rfl, fun h => absurd h (by simp)⟩ (fun b hb => absurd hb (Nat.not_lt_zero b)) (by simp)).mono ?_; rintro e w2 ⟨v, rfl, hown, hbel⟩; obtain ⟨A2, c2, rfl, hc2, hc2m, _⟩ := own_slice hown)))
  refine bodyPost_ret (v := .tuple #[.int .u32 x, .int .u32 y, .slice A2 0 c2, .bool true]) (by simp [results, Tryd.results7, go_sem]) rfl ?_
  exact ⟨_, _, rfl, hb1.trans (hbel.mono hb1.size)⟩
end Go.Proofs.YtloaaffkjhkpaaaDoor
