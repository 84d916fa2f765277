/-
  impl.reading: a Reader over bytes. Conditions: a buffer of 18 to 65536 bytes.
-/
import Derived.Test.YtpadbpmnejgckaaDoorSrc
import Derived.Test.YtpadbpmnejgckaaDoorCopiedG
import Derived.Test.YtpadbpmnejgckaaDoorSPut
namespace Go.Proofs.YtpadbpmnejgckaaDoor
set_option linter.unusedSimpArgs false
set_option linter.unusedVariables false
set_option linter.unusedVariables false
open Go.RowKit
theorem newSource_any (d z : Nat) (w : World) (h1 : 18 ≤ z) :
    Calls Tryd.prog 150 #[.iface 195 (.pointer (some ⟨d, 0, none⟩)), .int .i64 z] w fun e w' => e = .returned (.pointer (some ⟨w.heap.size, 0, none⟩)) ∧ w' = w.alloc (.cells #[.iface 195 (.pointer (some ⟨d, 0, none⟩)), .slice none 0 0, .int .i64 0, .int .i64 z, .nilIface] 234) := by
  have h3 : ¬ (z : Int) < 16 := by omega
  go_enter Tryd.func150, Tryd.ntmps150
  go_wp2
  go_ret
  exact ⟨rfl, rfl⟩
theorem newReaderSize_any (d z g : Nat) (w : World) (hg : w.heap.size = g) (h1 : 18 ≤ z) :
    Calls Tryd.prog 115 #[.iface 195 (.pointer (some ⟨d, 0, none⟩)), .int .i64 z] w fun e w' => e = .returned (.pointer (some ⟨g + 1, 0, none⟩)) ∧ w' = (w.alloc (.cells #[.iface 195 (.pointer (some ⟨d, 0, none⟩)), .slice none 0 0, .int .i64 0, .int .i64 z, .nilIface] 234)).alloc (.cells #[.pointer (some ⟨g, 0, none⟩), .slice none 0 0, .int .i64 0, .int .i64 0, .int .u32 0, .int .u64 0] 173) ∧ Blk w' (g + 1) 173 #[.pointer (some ⟨g, 0, none⟩), .slice none 0 0, .int .i64 0, .int .i64 0, .int .u32 0, .int .u64 0] := by
  subst hg
  go_enter Tryd.func115, Tryd.ntmps115
  go_wp2_with (go_at_call 150; go_loud (refine (newSource_any d z _ h1).mono ?_; rintro e w1 ⟨rfl, rfl⟩))
  go_ret
  exact ⟨by simp, rfl, Blk.newS (by simp)⟩
theorem setE (m : Nat) (v0 v1 v2 v3 v4 v5 : Value) (w : World) (h : Blk w m 173 #[v0, v1, v2, v3, v4, v5]) :
    Calls Tryd.prog 116 #[.pointer (some ⟨m, 0, none⟩), .int .u32 1048576] w fun e w' => e = .returned (.tuple #[]) ∧ Blk w' m 173 #[v0, v1, v2, v3, .int .u32 1048576, v5] ∧ Keeps (fun b => b = m) w w' := by
  have H5 := hide (h.set_ 4 (.int .u32 1048576))
  have c4 : w.cell? ⟨m, 4, none⟩ = some v4 := h.cell 4
  have f4 := h.frozen 4
  clear h
  go_enter Tryd.func116, Tryd.ntmps116
  go_wp2
  go_end0
  exact ⟨rfl, unhide H5, Keeps.setCell (K := fun b => b = m) (Keeps.refl _ _) ⟨m, 4, none⟩ rfl _⟩
theorem setL (m : Nat) (v0 v1 v2 v3 v4 v5 : Value) (w : World) (h : Blk w m 173 #[v0, v1, v2, v3, v4, v5]) :
    Calls Tryd.prog 117 #[.pointer (some ⟨m, 0, none⟩), .int .u64 1048576] w fun e w' => e = .returned (.tuple #[]) ∧ Blk w' m 173 #[v0, v1, v2, v3, v4, .int .u64 1048576] ∧ Keeps (fun b => b = m) w w' := by
  have H5 := hide (h.set_ 5 (.int .u64 1048576))
  have c4 : w.cell? ⟨m, 5, none⟩ = some v5 := h.cell 5
  have f4 := h.frozen 5
  clear h
  go_enter Tryd.func117, Tryd.ntmps117
  go_wp2
  go_end0
  exact ⟨rfl, unhide H5, Keeps.setCell (K := fun b => b = m) (Keeps.refl _ _) ⟨m, 5, none⟩ rfl _⟩
theorem reading_blocks {w1 : World} {A : Option Addr} {n c z B : Nat} {ck : Int} {bs : List UInt8} (hn : n = bs.length) (hr : RB w1 (fun b => B ≤ b ∧ b < w1.heap.size) A bs) (hc : n ≤ c) (hcm : c ≤ maxLen) (hz1 : 18 ≤ z) (hz2 : z ≤ 65536) (w2 w5 : World) (cs : Array Value)
    (e : w2 = ((w1.alloc (.cells #[.slice A n c, .int .i64 ck] 197)).alloc (.cells #[.iface 195 (.pointer (some ⟨w1.heap.size, 0, none⟩)), .slice none 0 0, .int .i64 0, .int .i64 z, .nilIface] 234)).alloc (.cells cs 173))
    (hM : Blk w5 (w1.heap.size + 1 + 1) 173 #[.pointer (some ⟨w1.heap.size + 1, 0, none⟩), .slice none 0 0, .int .i64 0, .int .i64 0, .int .u32 1048576, .int .u64 1048576]) (hk : Keeps (fun b => b = w1.heap.size + 1 + 1) w2 w5) :
    RdAny w5 w1.heap.size (w1.heap.size + 1) (w1.heap.size + 1 + 1) z ck 0 (.slice none 0 0) bs ∧ Below w1.heap.size w1 w5 := by
  subst e hn
  have h0 := ((Blk.new w1 197 #[.slice A bs.length c, .int .i64 ck]).alloc (.cells #[.iface 195 (.pointer (some ⟨w1.heap.size, 0, none⟩)), .slice none 0 0, .int .i64 0, .int .i64 z, .nilIface] 234)).alloc (.cells cs 173)
  have h1 : Blk _ (w1.heap.size + 1) 234 _ := (Blk.newS (w := w1.alloc (.cells #[.slice A bs.length c, .int .i64 ck] 197)) (t := 234) (cs := #[.iface 195 (.pointer (some ⟨w1.heap.size, 0, none⟩)), .slice none 0 0, .int .i64 0, .int .i64 z, .nilIface]) (by simp)).alloc (.cells cs 173)
  have hb2 : Below w1.heap.size w1 (((w1.alloc (.cells #[.slice A bs.length c, .int .i64 ck] 197)).alloc (.cells #[.iface 195 (.pointer (some ⟨w1.heap.size, 0, none⟩)), .slice none 0 0, .int .i64 0, .int .i64 z, .nilIface] 234)).alloc (.cells cs 173)) := (by repeat (first | with_reducible exact Below.refl _ _ | with_reducible exact x | with_reducible refine Below.alloc ?_ (by first | omega | (simp; omega) | (simp; done)) _ | with_reducible refine Below.setCell ?_ (by first | omega | (simp; omega) | (simp; done)) _ | with_reducible refine Below.drew ?_ | with_reducible refine below_drewN ?_ _))
  have hb5 : Below w1.heap.size w1 w5 := hb2.trans (hk.below (by simp; omega) (fun x hx e => by omega))
  refine ⟨⟨A, c, 0, 0, [], bs, rfl, hk.blk h0 (by omega), ?_, hk.blk h1 (by omega), hM, .inl ⟨rfl, rfl, rfl, rfl⟩, by omega, by omega, by omega, hz2, hc, hcm, by omega⟩, hb5⟩
  refine (RB.sub hr (T := fun b => b < w1.heap.size + 1 + 1 ∧ b ≠ w1.heap.size ∧ b ≠ w1.heap.size + 1) (fun b hb => ⟨by have := hb.2; omega, by have := hb.2; omega, by have := hb.2; omega⟩)).keep ?_
  intro b hb
  exact hb5.block b (by have := hb.1; have := hb.2.1; have := hb.2.2; omega)
set_option maxRecDepth 100000 in
set_option maxHeartbeats 1600000 in
theorem reading_any (S : Nat → Prop) (A : Option Addr) (bs : List UInt8) (n c z : Nat) (ck : Int) (w : World) (hn : n = bs.length) (hr : RB w S A bs) (hS : Old w S) (hl : n ≤ 1099511627776) (hz1 : 18 ≤ z) (hz2 : z ≤ 65536) :
    Calls Tryd.prog 76 #[.slice A n c, .int .i64 z, .int .i64 ck] w fun e w' => ∃ d s m, e = .returned (.pointer (some ⟨m, 0, none⟩)) ∧ RdAny w' d s m z ck 0 (.slice none 0 0) bs ∧ w.heap.size ≤ d ∧ Below w.heap.size w w' := by
  have HC := hide (copied_any S A bs n c w hn hr hS (by omega))
  have HN := hide hn
  clear hn hr
  go_enter Tryd.func76, Tryd.ntmps76
  go_wp2_with (first
    | (go_at_call 45; go_loud (refine (unhide HC).mono ?_; rintro e w1 ⟨v, rfl, hown, hbel⟩; obtain ⟨A1, c1, rfl, hc1, hcm1, hr1⟩ := own_slice hown; rw [← unhide HN] at hc1 ⊢; have HR1 := hide hr1; have HB1 := hide hbel; unfold maxLen at hcm1; clear hown hr1 hbel))
    | (go_at_call 115; go_loud (refine (newReaderSize_any w1.heap.size z (w1.heap.size + 1) _ (by simp) hz1).mono ?_; rintro e w2 ⟨rfl, rfl, hM2⟩; have HM2 := hide hM2; clear hM2))
    | (go_at_call 116; go_loud (refine (setE _ _ _ _ _ _ _ _ (unhide HM2)).mono ?_; rintro e w3 ⟨rfl, hM3, hk3⟩; have HM3 := hide hM3; have HK3 := hide hk3; clear hM3 hk3))
    | (go_at_call 117; go_loud (refine (setL _ _ _ _ _ _ _ _ (unhide HM3)).mono ?_; rintro e w4 ⟨rfl, hM4, hk4⟩; have HM4 := hide hM4; have HK4 := hide hk4; clear hM4 hk4)))
  go_ret
  have hfin := reading_blocks (w1 := w1) (ck := ck) (unhide HN) (unhide HR1) hc1 (by unfold maxLen; omega) hz1 hz2 _ w4 _ rfl (unhide HM4) ((unhide HK3).trans (unhide HK4) (fun x _ e => e))
  exact ⟨_, _, _, rfl, hfin.1, (unhide HB1).size, (unhide HB1).trans (hfin.2.mono (unhide HB1).size)⟩
end Go.Proofs.YtpadbpmnejgckaaDoor
