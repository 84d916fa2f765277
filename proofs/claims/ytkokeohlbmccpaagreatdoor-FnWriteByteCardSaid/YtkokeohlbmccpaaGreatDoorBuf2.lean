/-
  buffer.Buffer's Append and Bytes; impl.copied. Conditions: fewer than 2^40 bytes.
-/
import Derived.Test.YtkokeohlbmccpaaGreatDoorBufs
namespace Go.Proofs.YtkokeohlbmccpaaGreatDoor
set_option linter.unusedSimpArgs false
set_option linter.unusedVariables false
open Go.RowKit
set_option maxHeartbeats 800000 in
theorem append_any (S : Nat → Prop) (p : Nat) (bs ns : List UInt8) (A0 : Option Addr) (m c : Nat) (w : World) (hm : m = ns.length) (hr : RB w S A0 ns) (hns : ns.length ≤ 1099511627776) (h : Buf w p bs) (hlen : bs.length ≤ 1099511627776) :
    Calls Tryz.prog 30 #[.pointer (some ⟨p, 0, none⟩), (.slice A0 m c)] w fun e w' => e = .returned (.tuple #[]) ∧ Buf w' p (bs ++ ns) ∧ Below p w w' := by
  obtain ⟨v, hb, hown⟩ := h
  have hp := hb.lt
  have c0 : w.cell? ⟨p, 0, none⟩ = some v := hb.cell 0
  have f0 : w.frozen? ⟨p, 0, none⟩ = false := hb.frozen 0
  obtain ⟨A, cap, rfl, hcap1, hcap2, hA⟩ := own_slice hown
  have HB := hide hb
  clear hb
  subst hm
  go_enter Tryz.func30, Tryz.ntmps30
  go_wp2_with (at_builtin; obtain ⟨i0, hi0, hz0, hz1', hz2⟩ := info_parts infoU8; go_loud (refine wpList_append_any (S := S) _ rfl _ _ _ rfl (p + 1) 5 i0 _ 1 1 Tryz.underlying22 hi0 hz0 hz1' hz2 ?x1 ?x2 (.slice A bs.length cap) bs.length (bs.map u8) ?x3 ?x8 A0 ns.length c (ns.map u8) ?x4 ?x5 (u8_one ns) ?c3 ?x7 ?c4 ?_; (case x1 => rfl); (case x2 => omega); (case x3 => rfl); (case x4 => rfl); (case x5 => exact hr); (case x7 => omega); (case x8 => exact hown); (case c3 => unfold maxLen; omega); (case c4 => omega); clear hi0 hz0 hz1' hz2; intro v1 w1 hown1 hgrow hat; have HB1 : Blk w1 p 59 #[.slice A bs.length cap, .int .i64 0] := Blk.grown (unhide HB) hgrow (fun e => by have h := own_ge hown _ e.symm; omega); have d0 := HB1.cell 0; have e0 := HB1.frozen 0; have HG1 := hide hgrow; have HO1 := hide hown1; obtain ⟨A1, cap1, rfl, hc11, hc12, _⟩ := own_slice hown1; clear hgrow hown1 hat))
  go_end0
  have hgrow := unhide HG1
  have hown1 := unhide HO1
  have hB : Below p w w1 := (Below.refl p w).grown hgrow (by omega) (fun k hk => by have h := own_ge hown _ hk; omega)
  refine ⟨rfl, ⟨_, HB1.set_ 0 _, ?_⟩, (by repeat (first | with_reducible exact Below.refl _ _ | with_reducible exact hB | with_reducible refine Below.alloc ?_ (by first | omega | (simp; omega) | (simp; done)) _ | with_reducible refine Below.setCell ?_ (by first | omega | (simp; omega) | (simp; done)) _ | with_reducible refine Below.drew ?_ | with_reducible refine below_drewN ?_ _))⟩
  have : w1.ownsRow (p + 1) 5 1 (.slice A1 (bs.length + ns.length) cap1) (bs ++ ns).length ((bs ++ ns).map u8) := by simpa using hown1
  exact ownsRow_setCell_below this (by simp) _
theorem bytes_any (p : Nat) (bs : List UInt8) (w : World) (h : Buf w p bs) (_hlen : bs.length ≤ 1099511627776) :
    Calls Tryz.prog 21 #[.pointer (some ⟨p, 0, none⟩)] w fun e w' => w' = w.drew ∧ ∃ A c, e = .returned (.slice A bs.length c) ∧ bs.length ≤ c ∧ c ≤ maxLen ∧ RB w (fun b => p + 1 ≤ b ∧ b < w.heap.size) A bs := by
  obtain ⟨v, hb, hown⟩ := h
  have c0 : w.cell? ⟨p, 0, none⟩ = some v := hb.cell 0
  have c1 : w.cell? ⟨p, 1, none⟩ = some (.int .i64 0) := hb.cell 1
  obtain ⟨A, cap, rfl, hcap1, hcap2, hA⟩ := own_slice hown
  unfold maxLen at hcap2
  go_enter Tryz.func21, Tryz.ntmps21
  go_wp2
  go_region
  go_wp2
  go_ret
  exact ⟨rfl, A, cap, rfl, hcap1, hcap2, hA⟩
set_option maxHeartbeats 400000 in
theorem copied_any (S : Nat → Prop) (A : Option Addr) (bs : List UInt8) (n cap : Nat) (w : World) (hn : n = bs.length) (hr : RB w S A bs) (hS : Old w S) (hlen : bs.length ≤ 70368744177664) :
    Calls Tryz.prog 18 #[.slice A n cap] w fun e w' => ∃ v, e = .returned v ∧ w'.ownsRow w.heap.size 5 1 v bs.length (bs.map u8) ∧ Below w.heap.size w w' := by
  subst hn
  go_enter Tryz.func18, Tryz.ntmps18
  go_wp2_with (at_builtin; obtain ⟨i0, hi0, hz0, hz1', hz2⟩ := info_parts infoU8; refine wpList_append_any (S := S) _ rfl (.tmp 3) (.tmp 4) _ rfl w.heap.size 5 i0 _ 1 1 Tryz.underlying22 hi0 hz0 hz1' hz2 ?x1 ?x2 (.slice (some ⟨w.heap.size, 0, none⟩) 0 0) 0 [] ?x3 ?x8 A bs.length cap (bs.map u8) ?x4 ?x5 (u8_one bs) ?c3 ?x7 ?c4 ?_; (case x1 => rfl); (case x2 => omega); (case x3 => rfl); (case x4 => rfl); (case x5 => exact hr.keep (by go_simp)); (case x7 => omega); (case x8 => exact World.ownsRow_made w #[] 0 (Nat.le_refl _) (Nat.zero_le _) rfl); (case c3 => unfold maxLen; omega); (case c4 => simp); clear hi0 hz0 hz1' hz2; intro v1 w1 hown hgrow hat)
  go_ret
  refine ⟨v1, rfl, by simpa using hown, ?_⟩
  exact ((by repeat (first | with_reducible exact Below.refl _ _ | with_reducible exact x | with_reducible refine Below.alloc ?_ (by first | omega | (simp; omega) | (simp; done)) _ | with_reducible refine Below.setCell ?_ (by first | omega | (simp; omega) | (simp; done)) _ | with_reducible refine Below.drew ?_ | with_reducible refine below_drewN ?_ _)) : Below w.heap.size w (w.alloc _)).grown hgrow (by simp) (fun k hk => by simp [Value.ownBlock] at hk; omega)
end Go.Proofs.YtkokeohlbmccpaaGreatDoor
