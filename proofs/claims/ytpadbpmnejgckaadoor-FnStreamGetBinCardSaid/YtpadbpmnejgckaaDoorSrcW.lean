/-
  impl.drops.Read: at least one byte is given. Conditions: there is one; the list has room.
-/
import Derived.Test.YtpadbpmnejgckaaDoorCopyInto
import Derived.Test.YtpadbpmnejgckaaDoorPuts
import Derived.Deep.QuietTactic
import Derived.BigQuiet
import Derived.IntWalk
import Derived.Deep.RegionHeld3
import Derived.Deep.RegionWith
import Derived.BigRegion
namespace Go.Proofs.YtpadbpmnejgckaaDoor
set_option linter.unusedSimpArgs false
set_option linter.unusedVariables false
set_option linter.unusedVariables false
open Go.RowKit
theorem size5s : (Tryd.prog.info? 5).map (·.size) = some 1 := by kernel_rfl
theorem Row.mono {w : World} {t : TypeId} {g cap : Nat} {xs ys : List Value} (h : Row w t g cap xs) (e : xs = ys) : Row w t g cap ys := e ▸ h
theorem drops_end {w w2 : World} {d g z cap n dc j : Nat} {ck : Int} {DA : Option Addr} {rest xs : List UInt8} {cs : List Value} {S : Nat → Prop} (hn : n = rest.length) (hD : Blk w d 197 #[.slice DA n dc, .int .i64 ck]) (hdata : RB w S DA rest) (hSo : Old w S) (hSd : ∀ b, S b → b ≠ d ∧ b ≠ g) (hgd : g ≠ d)
    (hj1 : 1 ≤ j) (hjn : j ≤ n) (hjz : j ≤ z) (hdc : n ≤ dc) (hcs : cs = (rest.map u8).take j) (hr2 : Row w2 5 g cap (xs.map u8 ++ cs)) (hk2 : Keeps (fun b => b = g) w.drew w2) :
    ∃ (j' : Nat) (DA' : Option Addr), 1 ≤ j' ∧ j' ≤ rest.length ∧ j' ≤ z ∧ (Ending.returned (.tuple #[.int .i64 j, .nilIface])) = .returned (.tuple #[.int .i64 j', .nilIface]) ∧
      Row (w2.setCell ⟨d, 0, none⟩ (.slice (cutA DA dc j 1) (n - j) (dc - j))) 5 g cap ((xs ++ rest.take j').map u8) ∧ Blk (w2.setCell ⟨d, 0, none⟩ (.slice (cutA DA dc j 1) (n - j) (dc - j))) d 197 #[.slice DA' (rest.length - j') (dc - j'), .int .i64 ck] ∧ RB (w2.setCell ⟨d, 0, none⟩ (.slice (cutA DA dc j 1) (n - j) (dc - j))) S DA' (rest.drop j') ∧ Keeps (fun b => b = g ∨ b = d) w (w2.setCell ⟨d, 0, none⟩ (.slice (cutA DA dc j 1) (n - j) (dc - j))) := by
  have hd2 : Blk w2 d 197 #[.slice DA n dc, .int .i64 ck] := hk2.blk (a := w.drew) hD (fun e => hgd e.symm)
  have hr3 : RB w2 S DA rest := RB.keep hdata (fun b hb => hk2.2 b (hSo b hb) (fun e => (hSd b hb).2 e))
  have hcut := (RB.cut hr3 (k := j) (cap := dc) (by omega) (by omega))
  refine ⟨j, cutA DA dc j 1, hj1, by omega, hjz, rfl, ?_, ?_, ?_, ?_⟩
  · refine Row.keep (w := w2) (hr2.mono ?_) (Below.heap_setCell _ _ _ g hgd)
    rw [hcs, List.map_append, List.map_take]
  · have h := hd2.set_ 0 (.slice (cutA DA dc j 1) (n - j) (dc - j))
    rw [← hn]
    exact h
  · exact RB.keep hcut (fun b hb => Below.heap_setCell _ _ _ b (fun e => (hSd b hb).1 e))
  · have h := (hk2.weak (L := fun b => b = g ∨ b = d) (fun x _ e => .inl e)).setCell ⟨d, 0, none⟩ (.inr rfl) (.slice (cutA DA dc j 1) (n - j) (dc - j))
    exact ⟨⟨h.1.os, h.1.tape, h.1.output, h.1.size, h.1.block⟩, h.2⟩
set_option maxRecDepth 100000 in
set_option maxHeartbeats 1600000 in
theorem dropsRead (d : Nat) (ck : Int) (DA : Option Addr) (rest : List UInt8) (n dc g k z cap pc : Nat) (xs : List UInt8) (S : Nat → Prop) (w : World) (hn : n = rest.length) (hD : Blk w d 197 #[.slice DA n dc, .int .i64 ck]) (hdata : RB w S DA rest) (hSo : Old w S) (hSd : ∀ b, S b → b ≠ d ∧ b ≠ g)
    (hrow : Row w 5 g cap (xs.map u8)) (hk : xs.length = k) (hz : k + z ≤ cap) (hz1 : 1 ≤ z) (hgd : g ≠ d) (h0 : 0 < n) (hdc : n ≤ dc) (hdm : dc ≤ maxLen) :
    Calls Tryd.prog 182 #[.pointer (some ⟨d, 0, none⟩), .slice (some ⟨g, k, none⟩) z pc] w fun e w' => ∃ (j : Nat) (DA' : Option Addr), 1 ≤ j ∧ j ≤ rest.length ∧ j ≤ z ∧ e = .returned (.tuple #[.int .i64 j, .nilIface]) ∧
      Row w' 5 g cap ((xs ++ rest.take j).map u8) ∧ Blk w' d 197 #[.slice DA' (rest.length - j) (dc - j), .int .i64 ck] ∧ RB w' S DA' (rest.drop j) ∧ Keeps (fun b => b = g ∨ b = d) w w' := by
  have c0 : w.cell? ⟨d, 0, none⟩ = some (.slice DA n dc) := hD.cell 0
  have c1 : w.cell? ⟨d, 1, none⟩ = some (.int .i64 ck) := hD.cell 1
  have hn0 : ((n : Int) == 0) = false := by simp; omega
  have HN := hide hn
  have HD := hide hD
  have HR := hide hdata
  have HROW := hide hrow
  have HK := hide hk
  clear hn hD hdata hrow hk
  unfold maxLen at hdm
  obtain ⟨m, e1, hm1⟩ : ∃ m : Int, (if ck < 1 then (1 : Int) else ck) = m ∧ 1 ≤ m := by
    refine ⟨_, rfl, ?_⟩
    split <;> omega
  obtain ⟨h, e2, hh1, hh2⟩ : ∃ h : Nat, (if m < (n : Int) then m else (n : Int)) = (h : Int) ∧ 1 ≤ h ∧ h ≤ n := by
    by_cases hc : m < (n : Int)
    · refine ⟨m.toNat, ?_, by omega, by omega⟩
      rw [if_pos hc]
      omega
    · refine ⟨n, ?_, by omega, Nat.le_refl _⟩
      rw [if_neg hc]
  obtain ⟨j, hj⟩ : ∃ j, j = Nat.min h z := ⟨_, rfl⟩
  have hjh : j ≤ h := by rw [hj]; exact Nat.min_le_left _ _
  have hjz : j ≤ z := by rw [hj]; exact Nat.min_le_right _ _
  have hj1 : 1 ≤ j := by rw [hj]; exact Nat.le_min.2 ⟨hh1, hz1⟩
  obtain ⟨cs, hcs⟩ : ∃ cs, cs = (rest.map Go.Proofs.YtpadbpmnejgckaaDoor.u8).take j := ⟨_, rfl⟩
  have hcl : cs.length = j := by rw [hcs, List.length_take, List.length_map, ← unhide HN]; omega
  have hc1 : ∀ v ∈ cs, v.oneCell' = true := fun v hv => u8_one rest v (by rw [hcs] at hv; exact List.mem_of_mem_take hv)
  have HJ := hide hj
  have HCS := hide hcs
  have HCL := hide hcl
  have HC1 := hide hc1
  have hjn : j ≤ n := by omega
  have hj0 : (0 : Int) ≤ (j : Int) := by omega
  have hjd : (j : Int) ≤ (n : Int) := by omega
  have hjt : ((j : Int)).toNat = j := rfl
  have hh0 : (0 : Int) ≤ (h : Int) := by omega
  have hhd : (h : Int) ≤ (dc : Int) := by omega
  have hht : ((h : Int)).toNat = h := rfl
  have HTK : Hid (Reads w S 1 DA h ((rest.map Go.Proofs.YtpadbpmnejgckaaDoor.u8).take h)) := by
    have h2 := (unhide HR).take (k := h) (by rw [← unhide HN]; exact hh2)
    unfold RB at h2
    rw [List.length_take, Nat.min_eq_left (by rw [← unhide HN]; exact hh2), List.map_take] at h2
    exact h2
  have HCT : Hid (cs = ((rest.map Go.Proofs.YtpadbpmnejgckaaDoor.u8).take h).take (Nat.min h z)) := by
    show cs = _
    rw [List.take_take, ← hj, Nat.min_eq_left hjh]
    exact hcs
  have hfit : k + j ≤ cap := by omega
  clear hj hcs hcl hc1
  go_enter Tryd.func182, Tryd.ntmps182
  go_wp2_with fail
  go_region_held3 (fun W => W.cell? ⟨d, 0, none⟩ = some (.slice DA n dc) ∧ W.cell? ⟨d, 1, none⟩ = some (.int .i64 ck)) (go_keep) ((refine step_copy_into rfl (.tmp 14) (.tmp 30) _ _ (by rfl) 5 S DA (some ⟨g, k, none⟩) g k z pc h dc cap 5 (xs.map Go.Proofs.YtpadbpmnejgckaaDoor.u8) ((rest.map Go.Proofs.YtpadbpmnejgckaaDoor.u8).take h) cs Tryd.underlying26 size5s (by rfl) (by rfl) (unhide HROW) (by rw [List.length_map]; exact unhide HK) (unhide HTK) (unhide HCT) (fun _ => rfl) (by rw [unhide HCL]; exact hfit) (unhide HC1) ?_; intro w2 HR2 HK2; rw [unhide HCL]; have q0 : w2.cell? ⟨d, 0, none⟩ = some (.slice DA n dc) := ((unhide HK2).blk (unhide HD) (fun e => hgd e.symm)).cell 0; have q2 : w2.cell? ⟨d, 1, none⟩ = some (.int .i64 ck) := ((unhide HK2).blk (unhide HD) (fun e => hgd e.symm)).cell 1; have q1 := ((unhide HK2).blk (unhide HD) (fun e => hgd e.symm)).frozen 0))
  all_goals (
    go_wp2
    go_ret2
    exact drops_end (unhide HN) (unhide HD) (unhide HR) hSo hSd hgd hj1 hjn hjz hdc (unhide HCS) (unhide HR2) (unhide HK2))
end Go.Proofs.YtpadbpmnejgckaaDoor
