/-
  The walk of the law FnWriteDouble. No condition.
-/
import Derived.Test.YtnnddknplhhnkaaDoorWrote2
namespace Go.Proofs.YtnnddknplhhnkaaDoor
open Go.RowKit
theorem double_read (n : Nat) (hn : n < 18446744073709551616) : (lvl 8).val (130 :: be8 n) = some (some (.mk 11 n [] [] 0 [], [])) := by
  have h1 : bigA (be8 n) = n := by
    simp [bigA, be8]
    omega
  simp [lvl, consW, takeW, kOf, show (130 : UInt8).toNat = 130 from rfl]
  have h2 : (be8 n).length = 8 := rfl
  have h3 : (be8 n).take 8 = be8 n := rfl
  have h4 : (be8 n).drop 8 = [] := rfl
  simp [h2, h3, h4, h1]
set_option maxHeartbeats 400000 in
theorem FnWriteDouble_any (n : Nat) (hn : n < 18446744073709551616) (w : World) :
    Calls Tryd.prog 3 #[.int .u64 n] w fun e w' => e = .returned (.bool true) ∧ Below w.heap.size w w' := by
  go_enter Tryd.func3, Tryd.ntmps3
  go_wp2_with fail
  refine (implWriteDouble_any 5 (by decide) w).mono ?_
  rintro e w1 ⟨A1, n1, c1, rfl, rfl, hc1, hm1, hr1, hb1⟩
  go_wp2_with fail
  refine (wrote_flat (Made w w1) A1 (130 :: be8 5) _ c1 11 5 [] 0 w1 rfl hr1 hc1 hm1 (by decide) (fun x hx => hx.2) (double_read 5 (by decide))).mono ?_
  rintro e w2 ⟨rfl, hb2⟩
  go_wp2_with fail
  refine (implWriteDouble_any n hn w2).mono ?_
  rintro e w3 ⟨A3, n3, c3, rfl, rfl, hc3, hm3, hr3, hb3⟩
  go_wp2_with fail
  refine (wrote_flat (Made w2 w3) A3 (130 :: be8 n) _ c3 11 n [] 0 w3 rfl hr3 hc3 hm3 (Nat.le_of_lt (by show 9 < 1099511627776; decide)) (fun x hx => hx.2) (double_read n hn)).mono ?_
  rintro e w4 ⟨rfl, hb4⟩
  go_wp2
  go_ret
  exact ⟨rfl, ((hb1.trans (hb2.mono hb1.size)).trans (hb3.mono (Nat.le_trans hb1.size hb2.size))).trans (hb4.mono (Nat.le_trans (Nat.le_trans hb1.size hb2.size) hb3.size))⟩
end Go.Proofs.YtnnddknplhhnkaaDoor
