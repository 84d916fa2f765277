/-
  Ways through spec.within.
-/
import Derived.Test.YtkokeohlbmccpaaGreatDoorTake4
namespace Go.Proofs.YtkokeohlbmccpaaGreatDoor
set_option linter.unusedSimpArgs false
set_option linter.unusedVariables false
open Go.RowKit
set_option maxRecDepth 100000 in
set_option maxHeartbeats 4000000 in
theorem within_no (lv' : Int) (Q S : Nat → Prop) (D : Option Addr) (desc : List AV) (dc : Nat) (ys : List Value) (kind u size : Nat) (A : Option Addr) (bs : List UInt8) (cap : Nat) (w : World) (hdc : desc.length ≤ dc) (hdm : dc ≤ maxLen) (hrD : Reads w Q 6 D desc.length ys) (hcD : AVsC w Q desc ys) (hk1 : 21 ≤ kind) (hk2 : kind ≤ 23) (hs1 : 1 ≤ size) (hs2 : size ≤ 4) (hu : u < 18446744073709551616)
    (hr : RB w S A bs) (hc : bs.length ≤ cap) (hcap : cap ≤ 9223372036854775807) (h40 : bs.length ≤ 1099511627776) (hS : Old w S) (hQ : Old w Q) (h : bs.length < u ∨ u < size) :
    Calls Tryz.prog 59 #[avV kind 0 [] none 0 0 0 D desc.length dc, .int .u64 u, .int .i64 size, .slice A bs.length cap, .int .i64 lv'] w (TookV Q S w (none)) := by
  obtain ⟨T, hT⟩ : ∃ T, T = TookV Q S w (none) := ⟨_, rfl⟩
  rw [← hT]
  have HT := hide hT
  clear hT
  have HRD := hide hrD
  have HCD := hide hcD
  clear hrD hcD
  unfold maxLen at hdm
  by_cases h1 : bs.length < u
  · have h1' : (bs.length : Int) < (u : Int) := by omega
    go_enter Tryz.func59, Tryz.ntmps59
    go_wp2
    rw [unhide HT]
    refine bodyPost_ret (v := .tuple #[avV 0 0 [] none 0 0 0 none 0 0, .slice none 0 0, .bool false]) (by simp [results, Tryz.results59, go_sem]) rfl ?_
    exact tookV_none (by repeat (first | with_reducible exact Below.refl _ _ | with_reducible exact (Below.refl _ _) | with_reducible refine Below.alloc ?_ (by first | omega | (simp; omega) | (simp; done)) _ | with_reducible refine Below.setCell ?_ (by first | omega | (simp; omega) | (simp; done)) _ | with_reducible refine Below.drew ?_ | with_reducible refine below_drewN ?_ _))
  · have h1' : ¬ (bs.length : Int) < (u : Int) := by omega
    have h2' : (u : Int) < (size : Int) := by omega
    go_enter Tryz.func59, Tryz.ntmps59
    go_wp2
    rw [unhide HT]
    refine bodyPost_ret (v := .tuple #[avV 0 0 [] none 0 0 0 none 0 0, .slice none 0 0, .bool false]) (by simp [results, Tryz.results59, go_sem]) rfl ?_
    exact tookV_none (by repeat (first | with_reducible exact Below.refl _ _ | with_reducible exact (Below.refl _ _) | with_reducible refine Below.alloc ?_ (by first | omega | (simp; omega) | (simp; done)) _ | with_reducible refine Below.setCell ?_ (by first | omega | (simp; omega) | (simp; done)) _ | with_reducible refine Below.drew ?_ | with_reducible refine below_drewN ?_ _))
set_option maxRecDepth 100000 in
set_option maxHeartbeats 4000000 in
theorem within_count (lv' : Int) (Q S : Nat → Prop) (D : Option Addr) (desc : List AV) (dc : Nat) (ys : List Value) (kind u size : Nat) (A : Option Addr) (bs : List UInt8) (cap : Nat) (w : World) (hdc : desc.length ≤ dc) (hdm : dc ≤ maxLen) (hrD : Reads w Q 6 D desc.length ys) (hcD : AVsC w Q desc ys) (hk1 : 21 ≤ kind) (hk2 : kind ≤ 23) (hs1 : 1 ≤ size) (hs2 : size ≤ 4) (hu : u < 18446744073709551616)
    (hr : RB w S A bs) (hc : bs.length ≤ cap) (hcap : cap ≤ 9223372036854775807) (h40 : bs.length ≤ 1099511627776) (hS : Old w S) (hQ : Old w Q) (hu1 : u ≤ bs.length) (hu2 : size ≤ u) (cnt : Nat) (hcnt : bigA ((bs.take u).take size) = cnt) (hbad : (kind = 22 ∧ cnt % 2 = 1) ∨ 1048576 < cnt) :
    Calls Tryz.prog 59 #[avV kind 0 [] none 0 0 0 D desc.length dc, .int .u64 u, .int .i64 size, .slice A bs.length cap, .int .i64 lv'] w (TookV Q S w (none)) := by
  obtain ⟨T, hT⟩ : ∃ T, T = TookV Q S w (none) := ⟨_, rfl⟩
  rw [← hT]
  have HT := hide hT
  clear hT
  have HRD := hide hrD
  have HCD := hide hcD
  clear hrD hcD
  unfold maxLen at hdm
  have hbb : (((kind : Int) == 22) = true ∧ ((cnt : Int) % 2 == 1) = true) ∨ (((kind : Int) == 22) = true ∧ ((cnt : Int) % 2 == 1) = false ∧ (1048576 : Int) < (cnt : Int)) ∨ (((kind : Int) == 22) = false ∧ (1048576 : Int) < (cnt : Int)) := by simp; omega
  clear hbad
  have hub : u ≤ bs.length := by omega
  have h1' : ¬ (bs.length : Int) < (u : Int) := by omega
  have h2' : ¬ (u : Int) < (size : Int) := by omega
  have h3' : (u : Int) ≤ (cap : Int) := by omega
  have hrt := hr.take hub
  have hlt : (bs.take u).length = u := by rw [List.length_take]; omega
  have hsu : size ≤ (bs.take u).length := by omega
  have hBig := fun (W : World) (h : Stays S w W) => takeBig_ok S A (bs.take u) cap size W (hrt.keep h) (by omega) hcap hsu (by omega)
  rw [hlt] at hBig
  have hcb := bigA_lt_take (bs.take u) size
  have hcm : bigA ((bs.take u).take size) < 4294967296 := Nat.lt_of_lt_of_le hcb (Nat.pow_le_pow_right (n := 256) (by omega) hs2)
  clear hcb
  have hbody : RB w S (cutA A cap size 1) ((bs.take u).drop size) := hrt.cut hsu (by omega)
  have hbl : ((bs.take u).drop size).length = u - size := by rw [List.length_drop, hlt]
  have hrest : RB w S (cutA A cap u 1) (bs.drop u) := hr.cut hub hc
  rw [hcnt] at hBig hcm
  have HCNT := hide hcnt
  clear hcnt
  generalize (bs.take u).drop size = body at *
  have HBL := hide hbl
  have HLT := hide hlt
  clear hbl hlt hrt hsu
  go_enter Tryz.func59, Tryz.ntmps59
  go_wp2
  go_region
  go_wp2_with fail
  refine (hBig _ (by go_simp)).mono ?_
  rintro e w3 ⟨rfl, ⟨nq, rfl⟩⟩
  clear hBig
  rcases hbb with ⟨t22, tm⟩ | ⟨t22, tm, tb⟩ | ⟨t22, tb⟩
  all_goals (
    go_wp2
    rw [unhide HT]
    refine bodyPost_ret (v := .tuple #[avV 0 0 [] none 0 0 0 none 0 0, .slice none 0 0, .bool false]) (by simp [results, Tryz.results59, go_sem]) rfl ?_
    exact tookV_none (by repeat (first | with_reducible exact Below.refl _ _ | with_reducible exact (Below.refl _ _) | with_reducible refine Below.alloc ?_ (by first | omega | (simp; omega) | (simp; done)) _ | with_reducible refine Below.setCell ?_ (by first | omega | (simp; omega) | (simp; done)) _ | with_reducible refine Below.drew ?_ | with_reducible refine below_drewN ?_ _)))
end Go.Proofs.YtkokeohlbmccpaaGreatDoor
