/-
  buffer.Buffer's AppendUint16, 32, 64: the bytes of the number, the highest first. Conditions: fewer than 2^40 bytes.
-/
import Derived.Test.YtkokeohlbmccpaaGreatDoorBuf
namespace Go.Proofs.YtkokeohlbmccpaaGreatDoor
set_option linter.unusedSimpArgs false
set_option linter.unusedVariables false
open Go.RowKit
theorem row5' {w : World} {g : Nat} (cs : List Value) (bs : List UInt8) (h : cs = bs.map u8) (hg : w.heap.size = g) : Reads (w.alloc (.cells cs.toArray 5)) (fun _ => True) 1 (some ⟨g, 0, none⟩) bs.length (bs.map u8) := by
  subst h
  exact Reads.row5 bs hg
set_option maxHeartbeats 800000 in
theorem appendUint16_any (p : Nat) (bs : List UInt8) (n : Nat) (w : World) (h : Buf w p bs) (hlen : bs.length ≤ 1099511627776) (hn : n < 65536) :
    Calls Tryz.prog 29 #[.pointer (some ⟨p, 0, none⟩), .int .u16 n] w fun e w' => e = .returned (.tuple #[]) ∧ Buf w' p (bs ++ [UInt8.ofNat (n / 256), UInt8.ofNat n]) ∧ Below p w w' := by
  obtain ⟨v, hb, hown⟩ := h
  have hp := hb.lt
  have c0 : w.cell? ⟨p, 0, none⟩ = some v := hb.cell 0
  have f0 : w.frozen? ⟨p, 0, none⟩ = false := hb.frozen 0
  obtain ⟨A, cap, rfl, hcap1, hcap2, hA⟩ := own_slice hown
  have HB := hide hb
  clear hb
  go_enter Tryz.func29, Tryz.ntmps29
  go_wp2_with (at_builtin; obtain ⟨i0, hi0, hz0, hz1', hz2⟩ := info_parts infoU8; go_loud (refine wpList_append_any (S := fun _ => True) _ rfl _ _ _ rfl (p + 1) 5 i0 _ 1 1 Tryz.underlying22 hi0 hz0 hz1' hz2 ?x1 ?x2 (.slice A bs.length cap) bs.length (bs.map u8) ?x3 ?x8 (some ⟨w.heap.size, 0, none⟩) 2 2 ([UInt8.ofNat (n / 256), UInt8.ofNat n].map u8) ?x4 ?x5 (u8_one [UInt8.ofNat (n / 256), UInt8.ofNat n]) ?c3 ?x7 ?c4 ?_; (case x1 => rfl); (case x2 => omega); (case x3 => rfl); (case x4 => rfl); (case x5 => refine row5' _ _ ?_ rfl; simp [u8]; omega); (case x7 => omega); (case x8 => exact own_below hown (by repeat (first | with_reducible exact Below.refl _ _ | with_reducible exact x | with_reducible refine Below.alloc ?_ (by first | omega | (simp; omega) | (simp; done)) _ | with_reducible refine Below.setCell ?_ (by first | omega | (simp; omega) | (simp; done)) _ | with_reducible refine Below.drew ?_ | with_reducible refine below_drewN ?_ _))); (case c3 => unfold maxLen; omega); (case c4 => simp; omega); clear hi0 hz0 hz1' hz2; intro v1 w1 hown1 hgrow hat; have HB1 : Blk w1 p 59 #[.slice A bs.length cap, .int .i64 0] := Blk.grown (Blk.alloc (unhide HB) _) hgrow (fun e => by have h := own_ge hown _ e.symm; omega); have d0 := HB1.cell 0; have e0 := HB1.frozen 0; have HG1 := hide hgrow; have HO1 := hide hown1; obtain ⟨A1, cap1, rfl, hc11, hc12, _⟩ := own_slice hown1; clear hgrow hown1 hat))
  go_end0
  have hgrow := unhide HG1
  have hown1 := unhide HO1
  have hB : Below p w w1 := ((by repeat (first | with_reducible exact Below.refl _ _ | with_reducible exact x | with_reducible refine Below.alloc ?_ (by first | omega | (simp; omega) | (simp; done)) _ | with_reducible refine Below.setCell ?_ (by first | omega | (simp; omega) | (simp; done)) _ | with_reducible refine Below.drew ?_ | with_reducible refine below_drewN ?_ _)) : Below p w (w.alloc _)).grown hgrow (by simp; omega) (fun k hk => by have h := own_ge hown _ hk; omega)
  refine ⟨rfl, ⟨_, HB1.set_ 0 _, ?_⟩, (by repeat (first | with_reducible exact Below.refl _ _ | with_reducible exact hB | with_reducible refine Below.alloc ?_ (by first | omega | (simp; omega) | (simp; done)) _ | with_reducible refine Below.setCell ?_ (by first | omega | (simp; omega) | (simp; done)) _ | with_reducible refine Below.drew ?_ | with_reducible refine below_drewN ?_ _))⟩
  have : w1.ownsRow (p + 1) 5 1 (.slice A1 (bs.length + 2) cap1) (bs ++ [UInt8.ofNat (n / 256), UInt8.ofNat n]).length ((bs ++ [UInt8.ofNat (n / 256), UInt8.ofNat n]).map u8) := by simpa using hown1
  exact ownsRow_setCell_below this (by simp) _
set_option maxHeartbeats 800000 in
theorem appendUint32_any (p : Nat) (bs : List UInt8) (n : Nat) (w : World) (h : Buf w p bs) (hlen : bs.length ≤ 1099511627776) (hn : n < 4294967296) :
    Calls Tryz.prog 65 #[.pointer (some ⟨p, 0, none⟩), .int .u32 n] w fun e w' => e = .returned (.tuple #[]) ∧ Buf w' p (bs ++ [UInt8.ofNat (n / 16777216), UInt8.ofNat (n / 65536), UInt8.ofNat (n / 256), UInt8.ofNat n]) ∧ Below p w w' := by
  obtain ⟨v, hb, hown⟩ := h
  have hp := hb.lt
  have c0 : w.cell? ⟨p, 0, none⟩ = some v := hb.cell 0
  have f0 : w.frozen? ⟨p, 0, none⟩ = false := hb.frozen 0
  obtain ⟨A, cap, rfl, hcap1, hcap2, hA⟩ := own_slice hown
  have HB := hide hb
  clear hb
  go_enter Tryz.func65, Tryz.ntmps65
  go_wp2_with (at_builtin; obtain ⟨i0, hi0, hz0, hz1', hz2⟩ := info_parts infoU8; go_loud (refine wpList_append_any (S := fun _ => True) _ rfl _ _ _ rfl (p + 1) 5 i0 _ 1 1 Tryz.underlying22 hi0 hz0 hz1' hz2 ?x1 ?x2 (.slice A bs.length cap) bs.length (bs.map u8) ?x3 ?x8 (some ⟨w.heap.size, 0, none⟩) 4 4 ([UInt8.ofNat (n / 16777216), UInt8.ofNat (n / 65536), UInt8.ofNat (n / 256), UInt8.ofNat n].map u8) ?x4 ?x5 (u8_one [UInt8.ofNat (n / 16777216), UInt8.ofNat (n / 65536), UInt8.ofNat (n / 256), UInt8.ofNat n]) ?c3 ?x7 ?c4 ?_; (case x1 => rfl); (case x2 => omega); (case x3 => rfl); (case x4 => rfl); (case x5 => refine row5' _ _ ?_ rfl; simp [u8]; omega); (case x7 => omega); (case x8 => exact own_below hown (by repeat (first | with_reducible exact Below.refl _ _ | with_reducible exact x | with_reducible refine Below.alloc ?_ (by first | omega | (simp; omega) | (simp; done)) _ | with_reducible refine Below.setCell ?_ (by first | omega | (simp; omega) | (simp; done)) _ | with_reducible refine Below.drew ?_ | with_reducible refine below_drewN ?_ _))); (case c3 => unfold maxLen; omega); (case c4 => simp; omega); clear hi0 hz0 hz1' hz2; intro v1 w1 hown1 hgrow hat; have HB1 : Blk w1 p 59 #[.slice A bs.length cap, .int .i64 0] := Blk.grown (Blk.alloc (unhide HB) _) hgrow (fun e => by have h := own_ge hown _ e.symm; omega); have d0 := HB1.cell 0; have e0 := HB1.frozen 0; have HG1 := hide hgrow; have HO1 := hide hown1; obtain ⟨A1, cap1, rfl, hc11, hc12, _⟩ := own_slice hown1; clear hgrow hown1 hat))
  go_end0
  have hgrow := unhide HG1
  have hown1 := unhide HO1
  have hB : Below p w w1 := ((by repeat (first | with_reducible exact Below.refl _ _ | with_reducible exact x | with_reducible refine Below.alloc ?_ (by first | omega | (simp; omega) | (simp; done)) _ | with_reducible refine Below.setCell ?_ (by first | omega | (simp; omega) | (simp; done)) _ | with_reducible refine Below.drew ?_ | with_reducible refine below_drewN ?_ _)) : Below p w (w.alloc _)).grown hgrow (by simp; omega) (fun k hk => by have h := own_ge hown _ hk; omega)
  refine ⟨rfl, ⟨_, HB1.set_ 0 _, ?_⟩, (by repeat (first | with_reducible exact Below.refl _ _ | with_reducible exact hB | with_reducible refine Below.alloc ?_ (by first | omega | (simp; omega) | (simp; done)) _ | with_reducible refine Below.setCell ?_ (by first | omega | (simp; omega) | (simp; done)) _ | with_reducible refine Below.drew ?_ | with_reducible refine below_drewN ?_ _))⟩
  have : w1.ownsRow (p + 1) 5 1 (.slice A1 (bs.length + 4) cap1) (bs ++ [UInt8.ofNat (n / 16777216), UInt8.ofNat (n / 65536), UInt8.ofNat (n / 256), UInt8.ofNat n]).length ((bs ++ [UInt8.ofNat (n / 16777216), UInt8.ofNat (n / 65536), UInt8.ofNat (n / 256), UInt8.ofNat n]).map u8) := by simpa using hown1
  exact ownsRow_setCell_below this (by simp) _
set_option maxHeartbeats 800000 in
theorem appendUint64_any (p : Nat) (bs : List UInt8) (n : Nat) (w : World) (h : Buf w p bs) (hlen : bs.length ≤ 1099511627776) (hn : n < 18446744073709551616) :
    Calls Tryz.prog 64 #[.pointer (some ⟨p, 0, none⟩), .int .u64 n] w fun e w' => e = .returned (.tuple #[]) ∧ Buf w' p (bs ++ [UInt8.ofNat (n / 72057594037927936), UInt8.ofNat (n / 281474976710656), UInt8.ofNat (n / 1099511627776), UInt8.ofNat (n / 4294967296), UInt8.ofNat (n / 16777216), UInt8.ofNat (n / 65536), UInt8.ofNat (n / 256), UInt8.ofNat n]) ∧ Below p w w' := by
  obtain ⟨v, hb, hown⟩ := h
  have hp := hb.lt
  have c0 : w.cell? ⟨p, 0, none⟩ = some v := hb.cell 0
  have f0 : w.frozen? ⟨p, 0, none⟩ = false := hb.frozen 0
  obtain ⟨A, cap, rfl, hcap1, hcap2, hA⟩ := own_slice hown
  have HB := hide hb
  clear hb
  go_enter Tryz.func64, Tryz.ntmps64
  go_wp2_with (at_builtin; obtain ⟨i0, hi0, hz0, hz1', hz2⟩ := info_parts infoU8; go_loud (refine wpList_append_any (S := fun _ => True) _ rfl _ _ _ rfl (p + 1) 5 i0 _ 1 1 Tryz.underlying22 hi0 hz0 hz1' hz2 ?x1 ?x2 (.slice A bs.length cap) bs.length (bs.map u8) ?x3 ?x8 (some ⟨w.heap.size, 0, none⟩) 8 8 ([UInt8.ofNat (n / 72057594037927936), UInt8.ofNat (n / 281474976710656), UInt8.ofNat (n / 1099511627776), UInt8.ofNat (n / 4294967296), UInt8.ofNat (n / 16777216), UInt8.ofNat (n / 65536), UInt8.ofNat (n / 256), UInt8.ofNat n].map u8) ?x4 ?x5 (u8_one [UInt8.ofNat (n / 72057594037927936), UInt8.ofNat (n / 281474976710656), UInt8.ofNat (n / 1099511627776), UInt8.ofNat (n / 4294967296), UInt8.ofNat (n / 16777216), UInt8.ofNat (n / 65536), UInt8.ofNat (n / 256), UInt8.ofNat n]) ?c3 ?x7 ?c4 ?_; (case x1 => rfl); (case x2 => omega); (case x3 => rfl); (case x4 => rfl); (case x5 => refine row5' _ _ ?_ rfl; simp [u8]; omega); (case x7 => omega); (case x8 => exact own_below hown (by repeat (first | with_reducible exact Below.refl _ _ | with_reducible exact x | with_reducible refine Below.alloc ?_ (by first | omega | (simp; omega) | (simp; done)) _ | with_reducible refine Below.setCell ?_ (by first | omega | (simp; omega) | (simp; done)) _ | with_reducible refine Below.drew ?_ | with_reducible refine below_drewN ?_ _))); (case c3 => unfold maxLen; omega); (case c4 => simp; omega); clear hi0 hz0 hz1' hz2; intro v1 w1 hown1 hgrow hat; have HB1 : Blk w1 p 59 #[.slice A bs.length cap, .int .i64 0] := Blk.grown (Blk.alloc (unhide HB) _) hgrow (fun e => by have h := own_ge hown _ e.symm; omega); have d0 := HB1.cell 0; have e0 := HB1.frozen 0; have HG1 := hide hgrow; have HO1 := hide hown1; obtain ⟨A1, cap1, rfl, hc11, hc12, _⟩ := own_slice hown1; clear hgrow hown1 hat))
  go_end0
  have hgrow := unhide HG1
  have hown1 := unhide HO1
  have hB : Below p w w1 := ((by repeat (first | with_reducible exact Below.refl _ _ | with_reducible exact x | with_reducible refine Below.alloc ?_ (by first | omega | (simp; omega) | (simp; done)) _ | with_reducible refine Below.setCell ?_ (by first | omega | (simp; omega) | (simp; done)) _ | with_reducible refine Below.drew ?_ | with_reducible refine below_drewN ?_ _)) : Below p w (w.alloc _)).grown hgrow (by simp; omega) (fun k hk => by have h := own_ge hown _ hk; omega)
  refine ⟨rfl, ⟨_, HB1.set_ 0 _, ?_⟩, (by repeat (first | with_reducible exact Below.refl _ _ | with_reducible exact hB | with_reducible refine Below.alloc ?_ (by first | omega | (simp; omega) | (simp; done)) _ | with_reducible refine Below.setCell ?_ (by first | omega | (simp; omega) | (simp; done)) _ | with_reducible refine Below.drew ?_ | with_reducible refine below_drewN ?_ _))⟩
  have : w1.ownsRow (p + 1) 5 1 (.slice A1 (bs.length + 8) cap1) (bs ++ [UInt8.ofNat (n / 72057594037927936), UInt8.ofNat (n / 281474976710656), UInt8.ofNat (n / 1099511627776), UInt8.ofNat (n / 4294967296), UInt8.ofNat (n / 16777216), UInt8.ofNat (n / 65536), UInt8.ofNat (n / 256), UInt8.ofNat n]).length ((bs ++ [UInt8.ofNat (n / 72057594037927936), UInt8.ofNat (n / 281474976710656), UInt8.ofNat (n / 1099511627776), UInt8.ofNat (n / 4294967296), UInt8.ofNat (n / 16777216), UInt8.ofNat (n / 65536), UInt8.ofNat (n / 256), UInt8.ofNat n]).map u8) := by simpa using hown1
  exact ownsRow_setCell_below this (by simp) _
end Go.Proofs.YtkokeohlbmccpaaGreatDoor
