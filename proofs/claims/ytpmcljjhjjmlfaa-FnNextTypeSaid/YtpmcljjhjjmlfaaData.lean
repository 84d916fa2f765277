/-
  laws.zzFits16, laws.Given.data: what is written of a given value, and what stands behind it. Conditions: it reads as a value in memory.
-/
import Derived.Test.YtpmcljjhjjmlfaaPFits
import Derived.Test.YtpmcljjhjjmlfaaPutPack2
namespace Go.Proofs.Ytpmcljjhjjmlfaa
set_option linter.unusedSimpArgs false
set_option linter.unusedVariables false
set_option linter.unusedVariables false
open Go.RowKit
theorem zz16 (k n : Int) (T : ByteArray) (e : Int) (K : Option Addr) (m kc : Nat) (fm : Nat) (sh : Bool) (B : Option Addr) (bl bc : Nat) (cut : Int) (w : World) (hbl : bl ≤ 9223372036854775807) :
    Calls Try.prog 4 #[.agg #[.int .i64 k, .int .u64 n, .string T, .int .i64 e, .slice K m kc, .int .u64 fm, .bool sh, .slice B bl bc, .int .i64 cut]] w fun x w' => x = .returned (.bool (decide (bl ≤ 2147483647))) ∧ Below w.heap.size w w' := by
  by_cases h : bl ≤ 2147483647
  · have h2 : decide (bl ≤ 2147483647) = true := decide_eq_true h
    rw [h2]
    have h3 : decide ((2147483647 : Int) < (bl : Int)) = false := by simp; omega
    clear h h2
    go_enter Try.func4, Try.ntmps4
    go_wp2
    go_ret
    exact ⟨rfl, (by repeat (first | with_reducible exact Below.refl _ _ | with_reducible exact x | with_reducible refine Below.alloc ?_ (by first | omega | (simp; omega) | (simp; done)) _ | with_reducible refine Below.setCell ?_ (by first | omega | (simp; omega) | (simp; done)) _ | with_reducible refine Below.drew ?_ | with_reducible refine below_drewN ?_ _))⟩
  · have h2 : decide (bl ≤ 2147483647) = false := decide_eq_false h
    rw [h2]
    have h3 : decide ((2147483647 : Int) < (bl : Int)) = true := by simp; omega
    clear h h2
    go_enter Try.func4, Try.ntmps4
    go_wp2
    go_ret
    exact ⟨rfl, (by repeat (first | with_reducible exact Below.refl _ _ | with_reducible exact x | with_reducible refine Below.alloc ?_ (by first | omega | (simp; omega) | (simp; done)) _ | with_reducible refine Below.setCell ?_ (by first | omega | (simp; omega) | (simp; done)) _ | with_reducible refine Below.drew ?_ | with_reducible refine below_drewN ?_ _))⟩
theorem nine_cells {w : World} {g : Nat} {t : TypeId} {c0 c1 c2 c3 c4 c5 c6 c7 c8 : Value} (h : Blk w g t #[c0, c1, c2, c3, c4, c5, c6, c7, c8]) :
    (w.cell? ⟨g, 0, none⟩ = some c0 ∧ w.cell? ⟨g, 1, none⟩ = some c1 ∧ w.cell? ⟨g, 2, none⟩ = some c2 ∧ w.cell? ⟨g, 3, none⟩ = some c3 ∧ w.cell? ⟨g, 4, none⟩ = some c4) ∧
    (w.cell? ⟨g, 5, none⟩ = some c5 ∧ w.cell? ⟨g, 6, none⟩ = some c6 ∧ w.cell? ⟨g, 7, none⟩ = some c7 ∧ w.cell? ⟨g, 8, none⟩ = some c8) :=
  ⟨⟨h.cell 0, h.cell 1, h.cell 2, h.cell 3, h.cell 4⟩, ⟨h.cell 5, h.cell 6, h.cell 7, h.cell 8⟩⟩
/-- What Given.data answers: nothing is asked; what is written is cut off; or it is whole, zs behind it. -/
inductive DataR (p : Pack) (zs : List UInt8) (B : Option Addr) (bl bc : Nat) (cut : Int) (w : World) : Ending → World → Prop where
  | no (w' : World) (hb : Below w.heap.size w w') : DataR p zs B bl bc cut w (.returned (.tuple #[.slice none 0 0, .slice none 0 0, .bool false, .bool false])) w'
  | cut (w' : World) (hb : Below w.heap.size w w') (hc0 : 0 < cut) (hf : FitsP p) (hc : cnt p ≤ 500) (h : List UInt8) (hw : WrP p h) (q : Nat) (hq : q < h.length) (hl : h.length ≤ 100000000) (A : Option Addr) (c : Nat) (hqc : q ≤ c) (hcm : c ≤ maxLen)
      (hr : RB w' (fun b => w.heap.size ≤ b ∧ b < w'.heap.size) A (h.take q)) : DataR p zs B bl bc cut w (.returned (.tuple #[.slice A q c, .slice none 0 0, .bool true, .bool true])) w'
  | whole (w' : World) (hb : Below w.heap.size w w') (hc0 : cut ≤ 0) (hf : FitsP p) (hc : cnt p ≤ 500) (hbl : bl ≤ 100) (h : List UInt8) (hw : WrP p h) (hl : h.length ≤ 100000000) (hl0 : 0 < h.length) (A : Option Addr) (n c : Nat) (hn : n = (h ++ zs).length) (hnc : n ≤ c) (hcm : c ≤ maxLen)
      (hr : RB w' (fun b => w.heap.size ≤ b ∧ b < w'.heap.size) A (h ++ zs)) : DataR p zs B bl bc cut w (.returned (.tuple #[.slice A n c, .slice B bl bc, .bool false, .bool true])) w'
set_option maxRecDepth 100000 in
set_option maxHeartbeats 6400000 in
theorem data_any (p : Pack) (k n : Int) (T : ByteArray) (e : Int) (K : Option Addr) (m kc : Nat) (fm : Nat) (sh : Bool) (B : Option Addr) (bl bc : Nat) (zs : List UInt8) (cut : Int) (S : Nat → Prop) (w : World) (hS : Old w S) (hp : PackC w S p [.int .i64 k, .int .u64 n, .string T, .int .i64 e, .slice K m kc])
    (hwf : WfP p) (hfm : fm < 18446744073709551616) (hblz : bl = zs.length) (hbc : bl ≤ bc) (hbcm : bc ≤ 9223372036854775807) (hrz : RB w S B zs) :
    Calls Try.prog 6 #[.agg #[.int .i64 k, .int .u64 n, .string T, .int .i64 e, .slice K m kc, .int .u64 fm, .bool sh, .slice B bl bc, .int .i64 cut]] w (DataR p zs B bl bc cut w) := by
  have HPC := hide hp
  have HWF := hide hwf
  have HRZ := hide hrz
  have HBZ := hide hblz
  clear hp hwf hrz hblz
  obtain ⟨T0, hT⟩ : ∃ T0, T0 = DataR p zs B bl bc cut w := ⟨_, rfl⟩
  rw [← hT]
  have HT := hide hT
  clear hT
  go_enter Try.func6, Try.ntmps6
  go_upto_region 3 with (first
    | (go_at_call 9; go_loud (refine (packFitsTop p _ _ _ _ _ _ _ S _ ?xO ?xC).mono ?_; (case xO => exact old_below (B := w.heap.size) (by repeat (first | with_reducible exact Below.refl _ _ | with_reducible exact x | with_reducible refine Below.alloc ?_ (by first | omega | (simp; omega) | (simp; done)) _ | with_reducible refine Below.setCell ?_ (by first | omega | (simp; omega) | (simp; done)) _ | with_reducible refine Below.drew ?_ | with_reducible refine below_drewN ?_ _)) hS); (case xC => exact PackC.keep (stays_below (Stays.refl _ _) (by repeat (first | with_reducible exact Below.refl _ _ | with_reducible exact x | with_reducible refine Below.alloc ?_ (by first | omega | (simp; omega) | (simp; done)) _ | with_reducible refine Below.setCell ?_ (by first | omega | (simp; omega) | (simp; done)) _ | with_reducible refine Below.drew ?_ | with_reducible refine below_drewN ?_ _)) hS) _ _ (unhide HPC)); rintro e1 w1 ⟨b1, rfl, hb1, hf1⟩; have hB1 := (Blk.new w 28 #[.int .i64 k, .int .u64 n, .string T, .int .i64 e, .slice K m kc, .int .u64 fm, .bool sh, .slice B bl bc, .int .i64 cut]).below hb1 (by simp); obtain ⟨⟨y0, y1, y2, y3, y4⟩, y5, y6, y7, y8⟩ := nine_cells hB1; have hbel1 : Below w.heap.size w w1 := Below.trans (by repeat (first | with_reducible exact Below.refl _ _ | with_reducible exact x | with_reducible refine Below.alloc ?_ (by first | omega | (simp; omega) | (simp; done)) _ | with_reducible refine Below.setCell ?_ (by first | omega | (simp; omega) | (simp; done)) _ | with_reducible refine Below.drew ?_ | with_reducible refine below_drewN ?_ _)) (hb1.mono (by simp)); have HB1 := hide hbel1; have HBK1 := hide hB1; have HF1 := hide hf1; have hz1 : w.heap.size < w1.heap.size := hB1.lt; clear hb1 hf1 hB1 hbel1))
    | (go_at_call 10; go_loud (refine (packs_all _ p (Nat.le_refl _) _ _ _ _ _ S _ ?xO ?xC ?xN).mono ?_; (case xO => exact old_below (unhide HB1) hS); (case xC => exact PackC.keep (Stays.sub (Stays.of_below (unhide HB1)) hS) _ _ (unhide HPC)); (case xN => exact (unhide HF1 (by first | rfl | assumption)).2); rintro e2 w2 ⟨rfl, hb2⟩; have hB2 := (unhide HBK1).below hb2 (unhide HBK1).lt; obtain ⟨⟨z0, z1, z2, z3, z4⟩, z5, z6, z7, z8⟩ := nine_cells hB2; have hbel2 := (unhide HB1).trans (hb2.mono (unhide HB1).size); have HB2 := hide hbel2; have HBK2 := hide hB2; have hz2 : w.heap.size < w2.heap.size := hB2.lt; clear hb2 hB2 hbel2)))
  all_goals first
    | (refine bodyPost_ret (v := .tuple #[.slice none 0 0, .slice none 0 0, .bool false, .bool false]) (by simp [results, Try.results6, go_sem]) rfl ?_; rw [unhide HT]; first | exact .no _ (unhide HB1) | exact .no _ (unhide HB2))
    | skip
  have hcn : cnt p ≤ 500 := by omega
  have hbl100 : bl ≤ 100 := by omega
  have HFIT := hide (unhide HF1 (by first | rfl | assumption)).1
  have hgn : ¬ S w2.heap.size := fun h => by have := hS _ h; omega
  have HGN := hide hgn
  clear hgn
  go_wp2_with (first
    | (go_at_call 11; go_loud (refine (putPack_all _ p (Nat.le_refl _) (unhide HWF) (unhide HFIT) (Nat.le_trans hcn (by omega)) _ _ _ _ _ S _ w2.heap.size ?xO (unhide HGN) ?xC ?xF).mono ?_; (case xO => exact old_alloc (old_below (unhide HB2) hS) _); (case xC => exact PackC.keep (Stays.sub (Stays.of_below (B := w.heap.size) ((unhide HB2).alloc (unhide HB2).size _)) hS) _ _ (unhide HPC)); (case xF => exact ⟨fm, sh, hfm, Blk.new _ _ _⟩); rintro e3 w3 ⟨v3, bs, hP3, rfl, hown3, hg3, hF3⟩; have hB3 := ((unhide HBK2).alloc (.cells #[.int .u64 fm, .bool sh] 40)).grown hg3 (by intro h; injection h with h; omega); obtain ⟨⟨x0, x1, x2, x3, x4⟩, x5, x6, x7, x8⟩ := nine_cells hB3; have hbel3 : Below w.heap.size w w3 := ((unhide HB2).alloc (unhide HB2).size _).grown hg3 (by have := (unhide HB2).size; simp; omega) (fun j hj => by injection hj with hj; have := (unhide HB2).size; omega); have hsz3 : (w2.alloc (.cells #[.int .u64 fm, .bool sh] 40)).heap.size = w2.heap.size + 1 := (by simp); rw [hsz3] at hown3; clear hsz3; obtain ⟨A3, c3, rfl, hc3, hcm3, hr3⟩ := own_slice hown3; have hl3 := WrP_len p bs hP3 (unhide HFIT); have HR3 := hide hr3; have HB3 := hide hbel3; have HP3 := hide hP3; have HBK3 := hide hB3; obtain ⟨l, hl⟩ : ∃ l, l = bs.length := ⟨_, rfl⟩; rw [← hl] at hc3 hl3 hown3 ⊢; have HO3 := hide hown3; have HL := hide hl; have hz3 : w.heap.size < w3.heap.size := hB3.lt; have hz23 : w2.heap.size + 1 ≤ w3.heap.size := Nat.le_trans (by first | omega | (simp; omega) | (simp; done)) hg3.size; unfold maxLen at hcm3; clear hown3 hg3 hF3 hr3 hP3 hB3 hbel3 hl)))
  · refine bodyPost_ret (v := .tuple #[.slice A3 0 c3, .slice none 0 0, .bool true, .bool true]) (by simp [results, Try.results6, go_sem]) rfl ?_
    rw [unhide HT]
    have hlen : l ≤ 100000000 := by omega
    have htk : RB w3 (fun b => w.heap.size ≤ b ∧ b < w3.heap.size) A3 (bs.take 0) := RB.sub (RB.take (bs := bs) (unhide HR3) (Nat.zero_le _)) (fun b hb => ⟨by have h1 := hb.1; have h2 := (unhide HB2).size; omega, hb.2⟩)
    exact .cut _ (unhide HB3) (by assumption) (unhide HFIT) hcn bs (unhide HP3) 0 (by rw [← unhide HL]; omega) (by rw [← unhide HL]; exact hlen) A3 c3 (Nat.zero_le _) hcm3 htk
  · obtain ⟨q, hq⟩ : ∃ q, q = ((l : Int) - cut).toNat := ⟨_, rfl⟩
    have hql : q < l := by omega
    rw [← hq]
    refine bodyPost_ret (v := .tuple #[.slice A3 q c3, .slice none 0 0, .bool true, .bool true]) (by simp [results, Try.results6, go_sem]) rfl ?_
    rw [unhide HT]
    have hlen : l ≤ 100000000 := by omega
    have htk : RB w3 (fun b => w.heap.size ≤ b ∧ b < w3.heap.size) A3 (bs.take q) := RB.sub (RB.take (bs := bs) (unhide HR3) (by rw [← unhide HL]; omega)) (fun b hb => ⟨by have h1 := hb.1; have h2 := (unhide HB2).size; omega, hb.2⟩)
    exact .cut _ (unhide HB3) (by assumption) (unhide HFIT) hcn bs (unhide HP3) q (by rw [← unhide HL]; omega) (by rw [← unhide HL]; exact hlen) A3 c3 (by omega) hcm3 htk
  · have hcut : cut ≤ 0 := by omega
    have hlen : l ≤ 100000000 := by omega
    obtain ⟨i0, hi0, hz0, hz1', hz2'⟩ := info_parts infoB
    have HSZ := hide (unhide HB2).size
    have hz20 := (unhide HB2).size
    clear x0 x1 x2 x3 x4 x5 x6 x8
    go_region_held3 (fun W => W.cell? ⟨w.heap.size, 7, none⟩ = some (.slice B bl bc)) (go_keep)
      (go_loud (refine step_append_any (S := S) rfl (.tmp 44) (.tmp 46) 26 rfl (w2.heap.size + 1) 5 i0 _ 1 1 Try.underlying26 hi0 hz0 hz1' hz2' rfl (by omega) (.slice A3 l c3) l (bs.map Go.Proofs.Ytpmcljjhjjmlfaa.u8) ?a1 ?a2 B bl bc (zs.map Go.Proofs.Ytpmcljjhjjmlfaa.u8) ?a3 ?a4 (u8_one zs) (by unfold maxLen; omega) (by omega) ?a5 ?_; (case a1 => simp [Act.eval, Act.put]; done); (case a2 => exact unhide HO3); (case a3 => simp [Act.eval, Act.put]; done); (case a4 => have h := (unhide HRZ).keep (Stays.sub (Stays.of_below (unhide HB3)) hS); unfold RB at h; rw [← unhide HBZ] at h; exact h); (case a5 => exact hz23); intro v4 w4 hown4 hgr4 hat4; have gq := hgr4.block w.heap.size (by first | omega | (simp; omega)) (fun h => by have := (own_ge' (unhide HO3) _ h.symm).1; omega); have q2 : w4.cell? ⟨w.heap.size, 7, none⟩ = some (.slice B bl bc) := (World.cell?_of_block gq).trans (by go_simp); clear gq; have hb4 : Below w.heap.size w w4 := ((unhide HB3).drew).grown hgr4 (by first | omega | (simp; omega)) (fun j hj => by have := (own_ge' (unhide HO3) _ hj).1; omega); obtain ⟨A4, c4, rfl, hc4, hcm4, hr4⟩ := own_slice hown4; have HR4 := hide hr4; have HB4 := hide hb4; clear hown4 hgr4 hat4 hi0 hz0 hz1' hz2' hb4 hr4))
    all_goals (
      go_wp2
      refine bodyPost_ret (v := .tuple #[.slice A4 (l + bl) c4, .slice B bl bc, .bool false, .bool true]) (by simp [results, Try.results6, go_sem]) rfl ?_
      rw [unhide HT]
      refine .whole _ (unhide HB4) hcut (unhide HFIT) hcn hbl100 bs (unhide HP3) (by rw [← unhide HL]; exact hlen) (by rw [← unhide HL]; omega) A4 (l + bl) c4 (by rw [List.length_append, unhide HL, unhide HBZ]) hc4 hcm4 ?_
      have h := (unhide HR4).sub (T := fun b => w.heap.size ≤ b ∧ b < w4.heap.size) (fun b hb => ⟨by have h1 := hb.1; omega, hb.2⟩)
      unfold RB
      rw [List.length_append, List.map_append, ← unhide HL, ← unhide HBZ]
      exact h)
end Go.Proofs.Ytpmcljjhjjmlfaa
