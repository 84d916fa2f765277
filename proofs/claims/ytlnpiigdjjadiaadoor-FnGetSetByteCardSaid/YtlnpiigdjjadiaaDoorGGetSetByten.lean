/-
  Lemmas, 2 texts in one: PutI, PutE. Each says its conditions.
-/
import Derived.Test.YtlnpiigdjjadiaaDoorGGetSetBytem
import Derived.Deep.DeepCutAuto
import Derived.Deep.CutBlock
import Derived.BigGuardPart

/-
  spec's Forms.putInt: which form is chosen is left open. Conditions: a number of 64 bits.
-/
namespace Go.Proofs.YtlnpiigdjjadiaaDoor
set_option linter.unusedSimpArgs false
set_option linter.unusedVariables false
set_option linter.unusedVariables false
open Go.RowKit
def negF (u : Nat) (bs : List UInt8) : Prop :=
  (18446744073709551584 ≤ u ∧ bs = [UInt8.ofNat u]) ∨ (18446744073709551488 ≤ u ∧ bs = UInt8.ofNat 208 :: beL u 1) ∨ (18446744073709518848 ≤ u ∧ bs = UInt8.ofNat 209 :: beL u 2) ∨
  (18446744071562067968 ≤ u ∧ bs = UInt8.ofNat 210 :: beL u 4) ∨ bs = UInt8.ofNat 211 :: beL u 8
def posF (u : Nat) (bs : List UInt8) : Prop :=
  (u < 128 ∧ bs = [UInt8.ofNat u]) ∨ (u < 256 ∧ bs = UInt8.ofNat 204 :: beL u 1) ∨ (u < 65536 ∧ bs = UInt8.ofNat 205 :: beL u 2) ∨ (u < 4294967296 ∧ bs = UInt8.ofNat 206 :: beL u 4) ∨ bs = UInt8.ofNat 207 :: beL u 8 ∨
  (u < 128 ∧ bs = UInt8.ofNat 208 :: beL u 1) ∨ (u < 32768 ∧ bs = UInt8.ofNat 209 :: beL u 2) ∨ (u < 2147483648 ∧ bs = UInt8.ofNat 210 :: beL u 4) ∨ (u < 9223372036854775808 ∧ bs = UInt8.ofNat 211 :: beL u 8)
theorem one_own {w : World} {base : Nat} {b : Nat} {x : Int} {c : UInt8} (h : Blk w b 5 #[.int .u8 x]) (he : Value.int .u8 x = u8 c) (hb : base ≤ b) : w.ownsRow base 5 1 (.slice (some ⟨b, 0, none⟩) 1 1) [c].length ([c].map Go.Proofs.YtlnpiigdjjadiaaDoor.u8) := by
  rw [he] at h
  exact own_one h hb
theorem May.slice_ {w0 : Nat} {P : List UInt8 → Prop} {w : World} {v : Value} {n : Nat} (h : May w0 P w v n) (hn : 0 < n) :
    ∃ gm cm, v = .slice (some ⟨gm, 0, none⟩) n cm ∧ gm < w.heap.size ∧ n ≤ cm ∧ cm ≤ maxLen ∧ ∀ w' g, w.grownBy w' (some g) → g < w0 → ∀ k, k < n →
      ∃ A c bs, w'.cell? ⟨gm, k, none⟩ = some (.slice A bs.length c) ∧ P bs ∧ w'.ownsRow w0 5 1 (.slice A bs.length c) bs.length (bs.map Go.Proofs.YtlnpiigdjjadiaaDoor.u8) := by
  obtain ⟨g0, c0, _, _, _, rfl, hg0, h1, h2, _⟩ := h.at_ hn
  refine ⟨g0, c0, rfl, hg0, h1, h2, fun w' g hg hgw k hk => ?_⟩
  obtain ⟨g1, c1, A, c, bs, he, _, _, _, hc, hP, ho⟩ := (h.kept hg (fun k hk => by injection hk with hk; omega)).at_ hk
  simp only [Value.slice.injEq, Option.some.injEq, Addr.mk.injEq, and_true, true_and] at he
  obtain ⟨rfl, rfl⟩ := he
  exact ⟨A, c, bs, hc, hP, ho⟩
theorem May.form {w0 : Nat} {P : List UInt8 → Prop} {w : World} {v : Value} {n : Nat} (h : May w0 P w v n) : ∃ A c, v = .slice A n c := by
  obtain ⟨vs, _, h2, _⟩ := h
  obtain ⟨A, c, e, _⟩ := own_slice h2
  exact ⟨A, c, e⟩
set_option maxRecDepth 100000 in
set_option maxHeartbeats 6400000 in
theorem putInt_neg (g u : Nat) (w : World) (hF : FormsAt w g) (h1 : 9223372036854775808 ≤ u) (h2 : u < 18446744073709551616) :
    Calls Tryd.prog 28 #[.pointer (some ⟨g, 0, none⟩), .int .u64 u, .bool true] w (PutH (negF u) g w) := by
  have HF := hide hF
  have hgl := hF.lt
  clear hF
  obtain ⟨T, hT⟩ : ∃ T, T = PutH (negF u) g w := ⟨_, rfl⟩
  rw [← hT]
  have HT := hide hT
  clear hT
  obtain ⟨x, hx⟩ : ∃ x, wrap64 (u : Int) = x := ⟨_, rfl⟩
  have hxu : x = (u : Int) - 18446744073709551616 := by rw [← hx]; unfold wrap64; omega
  have hx0 : x < 0 := by omega
  have hxlo : -9223372036854775808 ≤ x := by omega
  have HXU := hide hxu
  clear hxu
  go_enter Tryd.func28, Tryd.ntmps28
  go_upto_region 3 with fail
  go_cut [7, 8] (fun s v wx => s = .int .i64 x ∧ w = wx ∧ May w.heap.size (negF u) wx v 0)
  case first =>
    go_wp2
    go_meet
    exact ⟨congrArg _ hx, rfl, May.nil _ _ _⟩
  case rest =>
  obtain ⟨rfl, rfl, hmy⟩ := hcut
  have HMY := hide hmy
  clear hmy hx
  go_upto_if 24 with fail
  go_cut [8] (fun v wx => ∃ n, May w.heap.size (negF u) wx v n ∧ n ≤ 1 ∧ Below w.heap.size w wx)
  case first =>
    by_cases hs : -32 ≤ x
    · go_wp2_with (at_builtin; go_loud (refine wpList_may rfl (.tmp 25) (.tmp 29) rfl w.heap.size (negF u) _ 0 (w.heap.size + 1) (.slice (some ⟨w.heap.size, 0, none⟩) 1 1) [UInt8.ofNat u] rfl rfl (((unhide HMY).below ((Below.refl _ _).alloc (Nat.le_refl _) _)).below ((Below.refl _ _).alloc (Nat.le_refl _) _)) ?xB ?xO ⟨_, _, rfl⟩ ?xP (Nat.zero_le _) ?xZ ?_; (case xB => exact Blk.new2 (by simp)); (case xZ => simp; omega); (case xO => exact one_own ((Blk.new2 rfl).alloc _) (by have := unhide HXU; simp [Go.Proofs.YtlnpiigdjjadiaaDoor.u8]; omega) (Nat.le_refl _)); (case xP => exact .inl ⟨by have := unhide HXU; omega, rfl⟩); intro mv' w4 hm4 hk4 hb4; have hbel4 : Below w.heap.size w w4 := Below.trans (by repeat (first | with_reducible exact Below.refl _ _ | with_reducible exact x | with_reducible refine Below.alloc ?_ (by first | omega | (simp; omega) | (simp; done)) _ | with_reducible refine Below.setCell ?_ (by first | omega | (simp; omega) | (simp; done)) _ | with_reducible refine Below.drew ?_ | with_reducible refine below_drewN ?_ _)) hb4; have HM4 := hide hm4; clear hm4 hk4 hb4))
      go_meet
      exact ⟨1, unhide HM4, by omega, hbel4⟩
    · go_wp2
      go_meet
      exact ⟨0, unhide HMY, by omega, Below.refl _ _⟩
  case rest =>
  obtain ⟨n, hmy, hn, hbel⟩ := hcut
  have HMY0 := hide hmy
  have HBEL0 := hide hbel
  clear hmy hbel
  go_wp2
  go_loopw [8, 33] (fun v i wr => ∃ k n : Nat, i = .int .i64 k ∧ k ≤ 4 ∧ May w.heap.size (negF u) wr v n ∧ n ≤ 10 + k ∧ (k = 4 → 0 < n) ∧ Below w.heap.size w wr ∧ Blk wr wc.heap.size 3 #[.int .i64 1, .int .i64 2, .int .i64 4, .int .i64 8]) (fun _ i _ => 4 - (intOf i).toNat)
  case atStart => exact ⟨0, _, rfl, by omega, (unhide HMY0).below ((Below.refl _ _).alloc (Nat.le_refl _) _), by omega, fun h => by omega, (unhide HBEL0).alloc (unhide HBEL0).size _, Blk.new _ _ _⟩
  case round =>
    obtain ⟨k, n, rfl, hk, hmy, hn, hn0, hbel, hba⟩ := hrel
    have hgA : w.heap.size ≤ wc.heap.size := (unhide HBEL0).size
    generalize wc.heap.size = gA at *
    obtain ⟨Av, cv, rfl⟩ := hmy.form
    have HMY := hide hmy
    have HBA := hide hba
    have HBEL := hide hbel
    have HN0 := hide hn0
    have hzr := hbel.size
    have hgl2 := hba.lt
    have fA0 := hba.cell 0
    have fA1 := hba.cell 1
    have fA2 := hba.cell 2
    have fA3 := hba.cell 3
    simp only [List.getElem?_toArray, List.getElem?_cons_zero, List.getElem?_cons_succ] at fA0 fA1 fA2 fA3
    clear hmy hbel hba hn0
    have hk' : k = 0 ∨ k = 1 ∨ k = 2 ∨ k = 3 ∨ k = 4 := by omega
    rcases hk' with rfl | rfl | rfl | rfl | rfl
    · by_cases hy : -128 ≤ x
      · go_wp2_with (first
          | (go_at_call 44; refine (big_any u 1 (by omega) h2 _).mono ?_; rintro e w1 ⟨vb, rfl, hown, hbel⟩; obtain ⟨A1, c1, rfl, hc1, hm1, hr1⟩ := own_slice hown; have HB1 := hide hbel; have HR1 := hide hr1; have hz1 : wr.heap.size + 1 ≤ w1.heap.size := Nat.le_trans (by first | omega | (simp; omega) | (simp; done)) hbel.size; unfold maxLen at hm1; clear hown hbel hr1)
          | (at_builtin; obtain ⟨i0, hi0, hz0, hz1', hz2⟩ := info_parts infoB; (refine wpList_append_any (S := fun b => wr.heap.size + 1 ≤ b ∧ b < w1.heap.size) _ rfl (.tmp 48) (.tmp 51) 24 rfl wr.heap.size 5 i0 _ 1 1 Tryd.underlying24 hi0 hz0 hz1' hz2 rfl (by omega) (.slice (some ⟨wr.heap.size, 0, none⟩) 1 1) 1 ([UInt8.ofNat 208].map Go.Proofs.YtlnpiigdjjadiaaDoor.u8) rfl ?xO A1 1 c1 ((beL u 1).map Go.Proofs.YtlnpiigdjjadiaaDoor.u8) rfl ?xR (u8_one _) (by unfold maxLen; omega) (by omega) (by omega) ?_); (case xO => exact own_one (Blk.below (Blk.new2 rfl) (unhide HB1) (by first | omega | (simp; omega) | (simp; done))) (Nat.le_refl _)); (case xR => exact (unhide HR1).sub (fun b hb => ⟨by have := hb.1; simp at this; omega, hb.2⟩)); clear hi0 hz0 hz1' hz2; intro v2 w2 hown2 hgr2 hat2; have hm2 : May w.heap.size (negF u) w2 (.slice Av n cv) n := (unhide HMY).kept (row := some wr.heap.size) ((only_of_below ((Below.refl _ _).alloc (Nat.le_refl _) _ |>.trans ((unhide HB1).mono (by first | omega | (simp; omega) | (simp; done)))) _).trans hgr2) (fun k hk => by injection hk with hk; omega); have hba2 : Blk w2 gA 3 #[.int .i64 1, .int .i64 2, .int .i64 4, .int .i64 8] := (((unhide HBA).alloc _).below (unhide HB1) (by have := (unhide HBA).lt; simp; omega)).grown hgr2 (by have := (unhide HBA).lt; simp [Value.ownBlock]; omega); have hbel2 : Below w.heap.size w w2 := ((unhide HBEL).alloc (unhide HBEL).size _ |>.trans ((unhide HB1).mono (by have := (unhide HBEL).size; simp; omega))).grown hgr2 (by have := (unhide HBEL).size; omega) (fun k hk => by have := (unhide HBEL).size; simp [Value.ownBlock] at hk; omega); obtain ⟨A2, c2, rfl, hc2, hcm2, _⟩ := own_slice hown2; have HO2 := hide hown2; have HM2 := hide hm2; have HBA2 := hide hba2; have HBEL2 := hide hbel2; clear hown2 hgr2 hat2 hm2 hba2 hbel2)
          | (at_builtin; go_loud ((refine wpList_may rfl (.tmp 44) (.tmp 53) rfl w.heap.size (negF u) (.slice Av n cv) n w2.heap.size _ (UInt8.ofNat 208 :: beL u 1) rfl rfl ((unhide HM2).below ((Below.refl _ _).alloc (Nat.le_refl _) _)) (Blk.new _ _ _) ?xO ⟨_, _, rfl⟩ ?xP (by omega) ?xZ ?_); (case xO => exact (own_base (unhide HO2) (unhide HBEL).size).alloc _); (case xP => exact .inr (.inl ⟨by have := unhide HXU; omega, rfl⟩)); (case xZ => have := (unhide HBEL2).size; simp; omega); intro mv' w4 hm4 hk4 hb4; have HM4 := hide hm4; have hba4 := hk4 gA _ _ hgA (by decide) ((unhide HBA2).alloc _); have hbel4 : Below w.heap.size w w4 := ((unhide HBEL2).alloc (unhide HBEL2).size _).trans hb4; have HBA4 := hide hba4; have HBEL4 := hide hbel4; clear hm4 hk4 hb4 hba4 hbel4)))
        go_roundw
        case rel => exact ⟨1, _, by go_num, by omega, unhide HM4, by omega, fun _ => by omega, unhide HBEL4, unhide HBA4⟩
        case measure => simp [intOf]
      · go_wp2
        go_roundw
        case rel => exact ⟨1, _, by go_num, by omega, unhide HMY, by omega, fun h => by omega, unhide HBEL, unhide HBA⟩
        case measure => simp [intOf]
    · by_cases hy : -32768 ≤ x
      · go_wp2_with (first
          | (go_at_call 44; refine (big_any u 2 (by omega) h2 _).mono ?_; rintro e w1 ⟨vb, rfl, hown, hbel⟩; obtain ⟨A1, c1, rfl, hc1, hm1, hr1⟩ := own_slice hown; have HB1 := hide hbel; have HR1 := hide hr1; have hz1 : wr.heap.size + 1 ≤ w1.heap.size := Nat.le_trans (by first | omega | (simp; omega) | (simp; done)) hbel.size; unfold maxLen at hm1; clear hown hbel hr1)
          | (at_builtin; obtain ⟨i0, hi0, hz0, hz1', hz2⟩ := info_parts infoB; (refine wpList_append_any (S := fun b => wr.heap.size + 1 ≤ b ∧ b < w1.heap.size) _ rfl (.tmp 48) (.tmp 51) 24 rfl wr.heap.size 5 i0 _ 1 1 Tryd.underlying24 hi0 hz0 hz1' hz2 rfl (by omega) (.slice (some ⟨wr.heap.size, 0, none⟩) 1 1) 1 ([UInt8.ofNat 209].map Go.Proofs.YtlnpiigdjjadiaaDoor.u8) rfl ?xO A1 2 c1 ((beL u 2).map Go.Proofs.YtlnpiigdjjadiaaDoor.u8) rfl ?xR (u8_one _) (by unfold maxLen; omega) (by omega) (by omega) ?_); (case xO => exact own_one (Blk.below (Blk.new2 rfl) (unhide HB1) (by first | omega | (simp; omega) | (simp; done))) (Nat.le_refl _)); (case xR => exact (unhide HR1).sub (fun b hb => ⟨by have := hb.1; simp at this; omega, hb.2⟩)); clear hi0 hz0 hz1' hz2; intro v2 w2 hown2 hgr2 hat2; have hm2 : May w.heap.size (negF u) w2 (.slice Av n cv) n := (unhide HMY).kept (row := some wr.heap.size) ((only_of_below ((Below.refl _ _).alloc (Nat.le_refl _) _ |>.trans ((unhide HB1).mono (by first | omega | (simp; omega) | (simp; done)))) _).trans hgr2) (fun k hk => by injection hk with hk; omega); have hba2 : Blk w2 gA 3 #[.int .i64 1, .int .i64 2, .int .i64 4, .int .i64 8] := (((unhide HBA).alloc _).below (unhide HB1) (by have := (unhide HBA).lt; simp; omega)).grown hgr2 (by have := (unhide HBA).lt; simp [Value.ownBlock]; omega); have hbel2 : Below w.heap.size w w2 := ((unhide HBEL).alloc (unhide HBEL).size _ |>.trans ((unhide HB1).mono (by have := (unhide HBEL).size; simp; omega))).grown hgr2 (by have := (unhide HBEL).size; omega) (fun k hk => by have := (unhide HBEL).size; simp [Value.ownBlock] at hk; omega); obtain ⟨A2, c2, rfl, hc2, hcm2, _⟩ := own_slice hown2; have HO2 := hide hown2; have HM2 := hide hm2; have HBA2 := hide hba2; have HBEL2 := hide hbel2; clear hown2 hgr2 hat2 hm2 hba2 hbel2)
          | (at_builtin; go_loud ((refine wpList_may rfl (.tmp 44) (.tmp 53) rfl w.heap.size (negF u) (.slice Av n cv) n w2.heap.size _ (UInt8.ofNat 209 :: beL u 2) rfl rfl ((unhide HM2).below ((Below.refl _ _).alloc (Nat.le_refl _) _)) (Blk.new _ _ _) ?xO ⟨_, _, rfl⟩ ?xP (by omega) ?xZ ?_); (case xO => exact (own_base (unhide HO2) (unhide HBEL).size).alloc _); (case xP => exact .inr (.inr (.inl ⟨by have := unhide HXU; omega, rfl⟩))); (case xZ => have := (unhide HBEL2).size; simp; omega); intro mv' w4 hm4 hk4 hb4; have HM4 := hide hm4; have hba4 := hk4 gA _ _ hgA (by decide) ((unhide HBA2).alloc _); have hbel4 : Below w.heap.size w w4 := ((unhide HBEL2).alloc (unhide HBEL2).size _).trans hb4; have HBA4 := hide hba4; have HBEL4 := hide hbel4; clear hm4 hk4 hb4 hba4 hbel4)))
        go_roundw
        case rel => exact ⟨2, _, by go_num, by omega, unhide HM4, by omega, fun _ => by omega, unhide HBEL4, unhide HBA4⟩
        case measure => simp [intOf]
      · go_wp2
        go_roundw
        case rel => exact ⟨2, _, by go_num, by omega, unhide HMY, by omega, fun h => by omega, unhide HBEL, unhide HBA⟩
        case measure => simp [intOf]
    · by_cases hy : -2147483648 ≤ x
      · go_wp2_with (first
          | (go_at_call 44; refine (big_any u 4 (by omega) h2 _).mono ?_; rintro e w1 ⟨vb, rfl, hown, hbel⟩; obtain ⟨A1, c1, rfl, hc1, hm1, hr1⟩ := own_slice hown; have HB1 := hide hbel; have HR1 := hide hr1; have hz1 : wr.heap.size + 1 ≤ w1.heap.size := Nat.le_trans (by first | omega | (simp; omega) | (simp; done)) hbel.size; unfold maxLen at hm1; clear hown hbel hr1)
          | (at_builtin; obtain ⟨i0, hi0, hz0, hz1', hz2⟩ := info_parts infoB; (refine wpList_append_any (S := fun b => wr.heap.size + 1 ≤ b ∧ b < w1.heap.size) _ rfl (.tmp 48) (.tmp 51) 24 rfl wr.heap.size 5 i0 _ 1 1 Tryd.underlying24 hi0 hz0 hz1' hz2 rfl (by omega) (.slice (some ⟨wr.heap.size, 0, none⟩) 1 1) 1 ([UInt8.ofNat 210].map Go.Proofs.YtlnpiigdjjadiaaDoor.u8) rfl ?xO A1 4 c1 ((beL u 4).map Go.Proofs.YtlnpiigdjjadiaaDoor.u8) rfl ?xR (u8_one _) (by unfold maxLen; omega) (by omega) (by omega) ?_); (case xO => exact own_one (Blk.below (Blk.new2 rfl) (unhide HB1) (by first | omega | (simp; omega) | (simp; done))) (Nat.le_refl _)); (case xR => exact (unhide HR1).sub (fun b hb => ⟨by have := hb.1; simp at this; omega, hb.2⟩)); clear hi0 hz0 hz1' hz2; intro v2 w2 hown2 hgr2 hat2; have hm2 : May w.heap.size (negF u) w2 (.slice Av n cv) n := (unhide HMY).kept (row := some wr.heap.size) ((only_of_below ((Below.refl _ _).alloc (Nat.le_refl _) _ |>.trans ((unhide HB1).mono (by first | omega | (simp; omega) | (simp; done)))) _).trans hgr2) (fun k hk => by injection hk with hk; omega); have hba2 : Blk w2 gA 3 #[.int .i64 1, .int .i64 2, .int .i64 4, .int .i64 8] := (((unhide HBA).alloc _).below (unhide HB1) (by have := (unhide HBA).lt; simp; omega)).grown hgr2 (by have := (unhide HBA).lt; simp [Value.ownBlock]; omega); have hbel2 : Below w.heap.size w w2 := ((unhide HBEL).alloc (unhide HBEL).size _ |>.trans ((unhide HB1).mono (by have := (unhide HBEL).size; simp; omega))).grown hgr2 (by have := (unhide HBEL).size; omega) (fun k hk => by have := (unhide HBEL).size; simp [Value.ownBlock] at hk; omega); obtain ⟨A2, c2, rfl, hc2, hcm2, _⟩ := own_slice hown2; have HO2 := hide hown2; have HM2 := hide hm2; have HBA2 := hide hba2; have HBEL2 := hide hbel2; clear hown2 hgr2 hat2 hm2 hba2 hbel2)
          | (at_builtin; go_loud ((refine wpList_may rfl (.tmp 44) (.tmp 53) rfl w.heap.size (negF u) (.slice Av n cv) n w2.heap.size _ (UInt8.ofNat 210 :: beL u 4) rfl rfl ((unhide HM2).below ((Below.refl _ _).alloc (Nat.le_refl _) _)) (Blk.new _ _ _) ?xO ⟨_, _, rfl⟩ ?xP (by omega) ?xZ ?_); (case xO => exact (own_base (unhide HO2) (unhide HBEL).size).alloc _); (case xP => exact .inr (.inr (.inr (.inl ⟨by have := unhide HXU; omega, rfl⟩)))); (case xZ => have := (unhide HBEL2).size; simp; omega); intro mv' w4 hm4 hk4 hb4; have HM4 := hide hm4; have hba4 := hk4 gA _ _ hgA (by decide) ((unhide HBA2).alloc _); have hbel4 : Below w.heap.size w w4 := ((unhide HBEL2).alloc (unhide HBEL2).size _).trans hb4; have HBA4 := hide hba4; have HBEL4 := hide hbel4; clear hm4 hk4 hb4 hba4 hbel4)))
        go_roundw
        case rel => exact ⟨3, _, by go_num, by omega, unhide HM4, by omega, fun _ => by omega, unhide HBEL4, unhide HBA4⟩
        case measure => simp [intOf]
      · go_wp2
        go_roundw
        case rel => exact ⟨3, _, by go_num, by omega, unhide HMY, by omega, fun h => by omega, unhide HBEL, unhide HBA⟩
        case measure => simp [intOf]
    · by_cases hy : -9223372036854775808 ≤ x
      · go_wp2_with (first
          | (go_at_call 44; refine (big_any u 8 (by omega) h2 _).mono ?_; rintro e w1 ⟨vb, rfl, hown, hbel⟩; obtain ⟨A1, c1, rfl, hc1, hm1, hr1⟩ := own_slice hown; have HB1 := hide hbel; have HR1 := hide hr1; have hz1 : wr.heap.size + 1 ≤ w1.heap.size := Nat.le_trans (by first | omega | (simp; omega) | (simp; done)) hbel.size; unfold maxLen at hm1; clear hown hbel hr1)
          | (at_builtin; obtain ⟨i0, hi0, hz0, hz1', hz2⟩ := info_parts infoB; (refine wpList_append_any (S := fun b => wr.heap.size + 1 ≤ b ∧ b < w1.heap.size) _ rfl (.tmp 48) (.tmp 51) 24 rfl wr.heap.size 5 i0 _ 1 1 Tryd.underlying24 hi0 hz0 hz1' hz2 rfl (by omega) (.slice (some ⟨wr.heap.size, 0, none⟩) 1 1) 1 ([UInt8.ofNat 211].map Go.Proofs.YtlnpiigdjjadiaaDoor.u8) rfl ?xO A1 8 c1 ((beL u 8).map Go.Proofs.YtlnpiigdjjadiaaDoor.u8) rfl ?xR (u8_one _) (by unfold maxLen; omega) (by omega) (by omega) ?_); (case xO => exact own_one (Blk.below (Blk.new2 rfl) (unhide HB1) (by first | omega | (simp; omega) | (simp; done))) (Nat.le_refl _)); (case xR => exact (unhide HR1).sub (fun b hb => ⟨by have := hb.1; simp at this; omega, hb.2⟩)); clear hi0 hz0 hz1' hz2; intro v2 w2 hown2 hgr2 hat2; have hm2 : May w.heap.size (negF u) w2 (.slice Av n cv) n := (unhide HMY).kept (row := some wr.heap.size) ((only_of_below ((Below.refl _ _).alloc (Nat.le_refl _) _ |>.trans ((unhide HB1).mono (by first | omega | (simp; omega) | (simp; done)))) _).trans hgr2) (fun k hk => by injection hk with hk; omega); have hba2 : Blk w2 gA 3 #[.int .i64 1, .int .i64 2, .int .i64 4, .int .i64 8] := (((unhide HBA).alloc _).below (unhide HB1) (by have := (unhide HBA).lt; simp; omega)).grown hgr2 (by have := (unhide HBA).lt; simp [Value.ownBlock]; omega); have hbel2 : Below w.heap.size w w2 := ((unhide HBEL).alloc (unhide HBEL).size _ |>.trans ((unhide HB1).mono (by have := (unhide HBEL).size; simp; omega))).grown hgr2 (by have := (unhide HBEL).size; omega) (fun k hk => by have := (unhide HBEL).size; simp [Value.ownBlock] at hk; omega); obtain ⟨A2, c2, rfl, hc2, hcm2, _⟩ := own_slice hown2; have HO2 := hide hown2; have HM2 := hide hm2; have HBA2 := hide hba2; have HBEL2 := hide hbel2; clear hown2 hgr2 hat2 hm2 hba2 hbel2)
          | (at_builtin; go_loud ((refine wpList_may rfl (.tmp 44) (.tmp 53) rfl w.heap.size (negF u) (.slice Av n cv) n w2.heap.size _ (UInt8.ofNat 211 :: beL u 8) rfl rfl ((unhide HM2).below ((Below.refl _ _).alloc (Nat.le_refl _) _)) (Blk.new _ _ _) ?xO ⟨_, _, rfl⟩ ?xP (by omega) ?xZ ?_); (case xO => exact (own_base (unhide HO2) (unhide HBEL).size).alloc _); (case xP => exact .inr (.inr (.inr (.inr rfl)))); (case xZ => have := (unhide HBEL2).size; simp; omega); intro mv' w4 hm4 hk4 hb4; have HM4 := hide hm4; have hba4 := hk4 gA _ _ hgA (by decide) ((unhide HBA2).alloc _); have hbel4 : Below w.heap.size w w4 := ((unhide HBEL2).alloc (unhide HBEL2).size _).trans hb4; have HBA4 := hide hba4; have HBEL4 := hide hbel4; clear hm4 hk4 hb4 hba4 hbel4)))
        go_roundw
        case rel => exact ⟨4, _, by go_num, by omega, unhide HM4, by omega, fun _ => by omega, unhide HBEL4, unhide HBA4⟩
        case measure => simp [intOf]
      · omega
    · have hn1 : 0 < n := unhide HN0 rfl
      obtain ⟨gm, cm, hvm, hgm, hnc, hcm, hat⟩ := (unhide HMY).slice_ hn1
      injection hvm with hv1 _ hv2
      subst hv1
      subst hv2
      unfold maxLen at hcm
      have HAT := hide hat
      clear hat
      have hn100 : n ≤ 100000 := by omega
      go_wp2_with (first
        | (go_at_call 45; go_loud (refine (pick_any g n hn100 _ ((unhide HF).below (unhide HBEL) hgl)).mono ?_; rintro e w5 ⟨j, hj, rfl, hg5, hz5, hF5⟩; have hj2 : j < n := hj.elim (fun h => h ▸ hn1) id; obtain ⟨A6, c6, bs, hc6, hP6, ho6⟩ := unhide HAT w5 g hg5 hgl j hj2; have HG5 := hide hg5; have HF5 := hide hF5; have HP6 := hide hP6; have HO6 := hide ho6; have HZ5 := hide hz5; clear hg5 hF5 hP6 ho6 hz5 hj)))
      rw [unhide HT]
      exact ⟨_, bs, unhide HP6, rfl, unhide HO6, (only_of_below (unhide HBEL) (some g)).trans (unhide HG5), unhide HF5⟩
def f4 : List (Nat × Nat) := [(204, 1), (205, 2), (206, 4), (207, 8)]
theorem own_keep26 {w0 : Nat} {w w' : World} {e : TypeId} {size n : Nat} {u : Value} {xs : List Value} (hk : ∀ B t cs, w0 ≤ B → t ≠ 24 → Blk w B t cs → Blk w' B t cs) (hne : e ≠ 24) (h : w.ownsRow w0 e size u n xs) : w'.ownsRow w0 e size u n xs := by
  refine ⟨h.1, ?_⟩
  rcases h.2 with hn | ⟨b, cap, cur, rfl, hb, hg, r⟩
  · exact .inl hn
  · exact .inr ⟨b, cap, cur, rfl, hb, hk b e cur hb hne hg, r⟩
theorem posF_form {u c s : Nat} (h : (c, s) ∈ mayF u f4) : posF u (UInt8.ofNat c :: beL u s) := by
  obtain ⟨h1, h2⟩ := mayF_mem h
  unfold f4 at h1
  simp only [List.mem_cons, Prod.mk.injEq, List.not_mem_nil, or_false] at h1 h2
  rcases h1 with ⟨rfl, rfl⟩ | ⟨rfl, rfl⟩ | ⟨rfl, rfl⟩ | ⟨rfl, rfl⟩
  · exact .inr (.inl ⟨by omega, rfl⟩)
  · exact .inr (.inr (.inl ⟨by omega, rfl⟩))
  · exact .inr (.inr (.inr (.inl ⟨by omega, rfl⟩)))
  · exact .inr (.inr (.inr (.inr (.inl rfl))))
theorem f4_good : ∀ f ∈ f4, goodF f := by
  intro f hf
  unfold f4 at hf
  simp only [List.mem_cons, List.not_mem_nil, or_false] at hf
  rcases hf with rfl | rfl | rfl | rfl <;> exact ⟨by simp, by omega⟩
theorem f4_some (u : Nat) : 0 < (mayF u f4).length ∧ (mayF u f4).length ≤ 4 := by
  refine ⟨?_, mayF_le u f4⟩
  apply List.length_pos_of_mem (a := (207, 8))
  unfold mayF f4
  rw [List.mem_filter]
  exact ⟨by simp, by simp [fitsF]⟩
set_option maxRecDepth 100000 in
set_option maxHeartbeats 6400000 in
theorem putInt_pos (g u : Nat) (sg : Bool) (w : World) (hF : FormsAt w g) (h1 : sg = false ∨ u < 9223372036854775808) (h2 : u < 18446744073709551616) :
    Calls Tryd.prog 28 #[.pointer (some ⟨g, 0, none⟩), .int .u64 u, .bool sg] w (PutH (posF u) g w) := by
  have HF := hide hF
  have hgl := hF.lt
  clear hF
  obtain ⟨T, hT⟩ : ∃ T, T = PutH (posF u) g w := ⟨_, rfl⟩
  rw [← hT]
  have HT := hide hT
  clear hT
  go_enter Tryd.func28, Tryd.ntmps28
  go_upto_region 2 with fail
  go_cut [2, 7, 22] (fun s2 s7 s22 wx => s22 = .bool false ∧ w = wx)
  case first =>
    cases sg
    · go_wp2
      go_meet
      exact ⟨rfl, rfl⟩
    · have h3 : u < 9223372036854775808 := by simpa using h1
      have h4 : wrap64 (u : Int) = u := by unfold wrap64; omega
      clear h1
      go_wp2
      all_goals go_meet
      all_goals exact ⟨by first | rfl | (simp; done) | (simp; omega), rfl⟩
  case rest =>
  obtain ⟨rfl, rfl⟩ := hcut
  clear h1
  go_upto_region 13 with fail
  go_cut [11] (fun v wx => w = wx ∧ May w.heap.size (posF u) wx v 0)
  case first =>
    go_wp2
    go_meet
    exact ⟨rfl, May.nil _ _ _⟩
  case rest =>
  obtain ⟨rfl, hmy⟩ := hcut
  have HMY := hide hmy
  clear hmy
  go_upto_if 64 with fail
  go_cut [11] (fun v wx => ∃ n, May w.heap.size (posF u) wx v n ∧ n ≤ 1 ∧ Below w.heap.size w wx)
  case first =>
    by_cases hs : u < 128
    · go_wp2_with (at_builtin; go_loud (refine wpList_may rfl (.tmp 65) (.tmp 69) rfl w.heap.size (posF u) _ 0 (w.heap.size + 1) (.slice (some ⟨w.heap.size, 0, none⟩) 1 1) [UInt8.ofNat u] rfl rfl (((unhide HMY).below ((Below.refl _ _).alloc (Nat.le_refl _) _)).below ((Below.refl _ _).alloc (Nat.le_refl _) _)) ?xB ?xO ⟨_, _, rfl⟩ ?xP (Nat.zero_le _) ?xZ ?_; (case xB => exact Blk.new2 (by simp)); (case xZ => simp; omega); (case xO => exact one_own ((Blk.new2 rfl).alloc _) (by simp [Go.Proofs.YtlnpiigdjjadiaaDoor.u8]; omega) (Nat.le_refl _)); (case xP => exact .inl ⟨hs, rfl⟩); intro mv' w4 hm4 hk4 hb4; have hbel4 : Below w.heap.size w w4 := Below.trans (by repeat (first | with_reducible exact Below.refl _ _ | with_reducible exact x | with_reducible refine Below.alloc ?_ (by first | omega | (simp; omega) | (simp; done)) _ | with_reducible refine Below.setCell ?_ (by first | omega | (simp; omega) | (simp; done)) _ | with_reducible refine Below.drew ?_ | with_reducible refine below_drewN ?_ _)) hb4; have HM4 := hide hm4; clear hm4 hk4 hb4))
      go_meet
      exact ⟨1, unhide HM4, by omega, hbel4⟩
    · go_wp2
      go_meet
      exact ⟨0, unhide HMY, by omega, Below.refl _ _⟩
  case rest =>
  obtain ⟨n, hmy, hn, hbel⟩ := hcut
  have HMYa := hide hmy
  have HBELa := hide hbel
  clear hmy hbel HMY
  have hszs := sizes_any u f4 (some ⟨wc.heap.size, 0, none⟩) 4 4 (Lt (wc.heap.size + 1)) (wc.alloc (.cells #[.int .i64 204, .int .i64 1, .int .i64 205, .int .i64 2, .int .i64 206, .int .i64 4, .int .i64 207, .int .i64 8] 68)) h2 rfl (reads_blk (S := Lt (wc.heap.size + 1)) (t := 68) (Blk.new _ _ _) (Nat.lt_succ_self _) 2 4 rfl) (fun b hb => by simp [Lt] at hb ⊢; omega) f4_good (by omega)
  have hf4 := f4_some u
  obtain ⟨ms, hms⟩ : ∃ ms, ms = mayF u f4 := ⟨_, rfl⟩
  rw [← hms] at hszs hf4
  obtain ⟨q, hq⟩ : ∃ q, q = ms.length := ⟨_, rfl⟩
  rw [← hq] at hszs hf4
  have HMS := hide hms
  have HQ := hide hq
  have HSZ := hide hszs
  clear hms hq hszs
  go_upto_block 2 with (go_at_call 46; go_loud (refine (unhide HSZ).mono ?_; rintro e w1 ⟨vf, rfl, hown, hbel⟩; obtain ⟨Af, cf, rfl, hcf, hcmf, _⟩ := own_slice hown; have hmy1 := ((unhide HMYa).below ((Below.refl _ _).alloc (Nat.le_refl _) _)).below hbel; have hbel1 : Below w.heap.size w w1 := ((unhide HBELa).alloc (unhide HBELa).size _).trans (hbel.mono (by have := (unhide HBELa).size; simp; omega)); have hown1 := own_base hown (b' := w.heap.size) (by have := (unhide HBELa).size; simp; omega); have HMY1 := hide hmy1; have HBEL1 := hide hbel1; have HOWN1 := hide hown1; unfold maxLen at hcmf; clear hown hbel hmy1 hbel1 hown1))
  go_cut [11] (fun v wx => ∃ n, May w.heap.size (posF u) wx v n ∧ n ≤ 5 ∧ 0 < n ∧ Below w.heap.size w wx)
  case first =>
    go_wp2
    go_loopw [11, 79] (fun v i wr => ∃ k n : Nat, i = .int .i64 k ∧ k ≤ q ∧ k ≤ n ∧ n ≤ 1 + k ∧ May w.heap.size (posF u) wr v n ∧ Below w.heap.size w wr ∧ wr.ownsRow w.heap.size 68 2 (.slice Af q cf) q (formC ms)) (fun _ i _ => q - (intOf i).toNat)
    case atStart => exact ⟨0, n, rfl, by omega, by omega, by omega, unhide HMY1, unhide HBEL1, unhide HOWN1⟩
    case round =>
      obtain ⟨k, n2, rfl, hk, hkn, hnk, hmy, hbel, hown⟩ := hrel
      obtain ⟨Av, cv, rfl⟩ := hmy.form
      have HMY := hide hmy
      have HBEL := hide hbel
      have HOWN := hide hown
      have hzr := hbel.size
      by_cases hlt : k < q
      · have hkm : k < ms.length := by have := unhide HQ; omega
        obtain ⟨Af2, cf2, he2, _, _, hr2⟩ := own_slice hown
        injection he2 with he2a _ he2b
        subst he2a
        subst he2b
        obtain ⟨ad, rfl, hSb, hcA, hcB⟩ := form_at hr2 (unhide HQ) k hkm
        have hmem : ms[k] ∈ mayF u f4 := by
          have h : ∀ f ∈ ms, f ∈ mayF u f4 := fun f hf => by rw [← unhide HMS]; exact hf
          exact h _ (List.getElem_mem hkm)
        have hg := f4_good _ (mayF_mem hmem).1
        have hpf : posF u (UInt8.ofNat ms[k].1 :: beL u ms[k].2) := posF_form hmem
        clear hmem
        obtain ⟨hgs, hgc⟩ := hg
        generalize ms[k].1 = c at *
        generalize ms[k].2 = s at *
        have hgl3 : ad.block < wr.heap.size := hSb.2
        have HPF := hide hpf
        have HGS := hide hgs
        have hs8 : s ≤ 8 := by omega
        have hbl := beL_len u s hgs
        have hlen : (UInt8.ofNat c :: beL u s).length = 1 + s := by rw [List.length_cons, hbl, Nat.add_comm]
        have HLEN := hide hlen
        clear hlen
        clear hmy hbel hown hr2 hpf hgs hbl
        go_wp2_with (first
          | (go_at_call 29; go_loud (refine (headed_any c s u (unhide HGS) hgc h2 _).mono ?_; rintro e w2 ⟨vh, rfl, hown2, hbel2⟩; obtain ⟨A2, c2, rfl, hc2, hcm2, _⟩ := own_slice hown2; have hmy2 := ((unhide HMY).below ((Below.refl _ _).alloc (Nat.le_refl _) (.cells #[.int .i64 c, .int .i64 s] 68))).below hbel2; have hb2 : Below w.heap.size w w2 := ((unhide HBEL).alloc (unhide HBEL).size _).trans (hbel2.mono (Nat.le_trans (unhide HBEL).size (by simp))); have hf2 := own_below ((unhide HOWN).alloc (.cells #[.int .i64 c, .int .i64 s] 68)) hbel2; rw [cellc c hgc] at hown2; have HO2 := hide (own_base (b' := w.heap.size) hown2 (Nat.le_trans (unhide HBEL).size (by simp))); have HMY2 := hide hmy2; have HB2 := hide hb2; have HF2 := hide hf2; clear hown2 hbel2 hmy2 hb2 hf2))
          | (at_builtin; go_loud (refine wpList_may rfl (.tmp 83) (.tmp 87) rfl w.heap.size (posF u) (.slice Av n2 cv) n2 w2.heap.size (.slice A2 (1 + s) c2) (UInt8.ofNat c :: beL u s) rfl rfl ((unhide HMY2).below ((Below.refl _ _).alloc (Nat.le_refl _) _)) (Blk.new _ _ _) ?xO ⟨A2, c2, ?xL⟩ (unhide HPF) (by omega) ?xZ ?_; (case xL => rw [unhide HLEN]); (case xO => have h := (unhide HO2).alloc (.cells #[.slice A2 (1 + s) c2] 24); rw [unhide HLEN]; exact h); (case xZ => have := (unhide HB2).size; simp; omega); intro mv' w4 hm4 hk4 hb4; have HM4 := hide hm4; have hf4' := own_keep26 hk4 (by decide) ((unhide HF2).alloc (.cells #[.slice A2 (1 + s) c2] 24)); have hbel4 : Below w.heap.size w w4 := ((unhide HB2).alloc (unhide HB2).size _).trans hb4; have HF4 := hide hf4'; have HBEL4 := hide hbel4; clear hm4 hk4 hb4 hf4' hbel4)))
        go_roundw
        case rel => exact ⟨k + 1, n2 + 1, by go_num, by omega, by omega, by omega, unhide HM4, unhide HBEL4, unhide HF4⟩
        case measure => simp [intOf]; omega
      · clear hmy hbel hown
        go_wp2
        go_meet
        exact ⟨n2, unhide HMY, by omega, by omega, unhide HBEL⟩
  case rest =>
  obtain ⟨n, hmy, hn, hn00, hbel⟩ := hcut
  have HMY0 := hide hmy
  have HBEL0 := hide hbel
  clear hmy hbel
  go_wp2
  go_loopw [11, 92] (fun v i wr => ∃ k n : Nat, i = .int .i64 k ∧ k ≤ 4 ∧ May w.heap.size (posF u) wr v n ∧ n ≤ 10 + k ∧ (0 < n) ∧ Below w.heap.size w wr ∧ Blk wr wc.heap.size 3 #[.int .i64 1, .int .i64 2, .int .i64 4, .int .i64 8]) (fun _ i _ => 4 - (intOf i).toNat)
  case atStart => exact ⟨0, _, rfl, by omega, (unhide HMY0).below ((Below.refl _ _).alloc (Nat.le_refl _) _), by omega, hn00, (unhide HBEL0).alloc (unhide HBEL0).size _, Blk.new _ _ _⟩
  case round =>
    obtain ⟨k, n, rfl, hk, hmy, hn, hn0, hbel, hba⟩ := hrel
    have hgA : w.heap.size ≤ wc.heap.size := (unhide HBEL0).size
    generalize wc.heap.size = gA at *
    obtain ⟨Av, cv, rfl⟩ := hmy.form
    have HMY := hide hmy
    have HBA := hide hba
    have HBEL := hide hbel
    have HN0 := hide hn0
    have hzr := hbel.size
    have hgl2 := hba.lt
    have fA0 := hba.cell 0
    have fA1 := hba.cell 1
    have fA2 := hba.cell 2
    have fA3 := hba.cell 3
    simp only [List.getElem?_toArray, List.getElem?_cons_zero, List.getElem?_cons_succ] at fA0 fA1 fA2 fA3
    clear hmy hbel hba hn0
    have hk' : k = 0 ∨ k = 1 ∨ k = 2 ∨ k = 3 ∨ k = 4 := by omega
    rcases hk' with rfl | rfl | rfl | rfl | rfl
    · by_cases hy : (u : Int) < 128
      · go_wp2_with (first
          | (go_at_call 44; refine (big_any u 1 (by omega) h2 _).mono ?_; rintro e w1 ⟨vb, rfl, hown, hbel⟩; obtain ⟨A1, c1, rfl, hc1, hm1, hr1⟩ := own_slice hown; have HB1 := hide hbel; have HR1 := hide hr1; have hz1 : wr.heap.size + 1 ≤ w1.heap.size := Nat.le_trans (by first | omega | (simp; omega) | (simp; done)) hbel.size; unfold maxLen at hm1; clear hown hbel hr1)
          | (at_builtin; obtain ⟨i0, hi0, hz0, hz1', hz2⟩ := info_parts infoB; (refine wpList_append_any (S := fun b => wr.heap.size + 1 ≤ b ∧ b < w1.heap.size) _ rfl (.tmp 107) (.tmp 110) 24 rfl wr.heap.size 5 i0 _ 1 1 Tryd.underlying24 hi0 hz0 hz1' hz2 rfl (by omega) (.slice (some ⟨wr.heap.size, 0, none⟩) 1 1) 1 ([UInt8.ofNat 208].map Go.Proofs.YtlnpiigdjjadiaaDoor.u8) rfl ?xO A1 1 c1 ((beL u 1).map Go.Proofs.YtlnpiigdjjadiaaDoor.u8) rfl ?xR (u8_one _) (by unfold maxLen; omega) (by omega) (by omega) ?_); (case xO => exact own_one (Blk.below (Blk.new2 rfl) (unhide HB1) (by first | omega | (simp; omega) | (simp; done))) (Nat.le_refl _)); (case xR => exact (unhide HR1).sub (fun b hb => ⟨by have := hb.1; simp at this; omega, hb.2⟩)); clear hi0 hz0 hz1' hz2; intro v2 w2 hown2 hgr2 hat2; have hm2 : May w.heap.size (posF u) w2 (.slice Av n cv) n := (unhide HMY).kept (row := some wr.heap.size) ((only_of_below ((Below.refl _ _).alloc (Nat.le_refl _) _ |>.trans ((unhide HB1).mono (by first | omega | (simp; omega) | (simp; done)))) _).trans hgr2) (fun k hk => by injection hk with hk; omega); have hba2 : Blk w2 gA 3 #[.int .i64 1, .int .i64 2, .int .i64 4, .int .i64 8] := (((unhide HBA).alloc _).below (unhide HB1) (by have := (unhide HBA).lt; simp; omega)).grown hgr2 (by have := (unhide HBA).lt; simp [Value.ownBlock]; omega); have hbel2 : Below w.heap.size w w2 := ((unhide HBEL).alloc (unhide HBEL).size _ |>.trans ((unhide HB1).mono (by have := (unhide HBEL).size; simp; omega))).grown hgr2 (by have := (unhide HBEL).size; omega) (fun k hk => by have := (unhide HBEL).size; simp [Value.ownBlock] at hk; omega); obtain ⟨A2, c2, rfl, hc2, hcm2, _⟩ := own_slice hown2; have HO2 := hide hown2; have HM2 := hide hm2; have HBA2 := hide hba2; have HBEL2 := hide hbel2; clear hown2 hgr2 hat2 hm2 hba2 hbel2)
          | (at_builtin; go_loud ((refine wpList_may rfl (.tmp 103) (.tmp 112) rfl w.heap.size (posF u) (.slice Av n cv) n w2.heap.size _ (UInt8.ofNat 208 :: beL u 1) rfl rfl ((unhide HM2).below ((Below.refl _ _).alloc (Nat.le_refl _) _)) (Blk.new _ _ _) ?xO ⟨_, _, rfl⟩ ?xP (by omega) ?xZ ?_); (case xO => exact (own_base (unhide HO2) (unhide HBEL).size).alloc _); (case xP => exact .inr (.inr (.inr (.inr (.inr (.inl ⟨by omega, rfl⟩)))))); (case xZ => have := (unhide HBEL2).size; simp; omega); intro mv' w4 hm4 hk4 hb4; have HM4 := hide hm4; have hba4 := hk4 gA _ _ hgA (by decide) ((unhide HBA2).alloc _); have hbel4 : Below w.heap.size w w4 := ((unhide HBEL2).alloc (unhide HBEL2).size _).trans hb4; have HBA4 := hide hba4; have HBEL4 := hide hbel4; clear hm4 hk4 hb4 hba4 hbel4)))
        go_roundw
        case rel => exact ⟨1, _, by go_num, by omega, unhide HM4, by omega, by omega, unhide HBEL4, unhide HBA4⟩
        case measure => simp [intOf]
      · go_wp2
        go_roundw
        case rel => exact ⟨1, _, by go_num, by omega, unhide HMY, by omega, unhide HN0, unhide HBEL, unhide HBA⟩
        case measure => simp [intOf]
    · by_cases hy : (u : Int) < 32768
      · go_wp2_with (first
          | (go_at_call 44; refine (big_any u 2 (by omega) h2 _).mono ?_; rintro e w1 ⟨vb, rfl, hown, hbel⟩; obtain ⟨A1, c1, rfl, hc1, hm1, hr1⟩ := own_slice hown; have HB1 := hide hbel; have HR1 := hide hr1; have hz1 : wr.heap.size + 1 ≤ w1.heap.size := Nat.le_trans (by first | omega | (simp; omega) | (simp; done)) hbel.size; unfold maxLen at hm1; clear hown hbel hr1)
          | (at_builtin; obtain ⟨i0, hi0, hz0, hz1', hz2⟩ := info_parts infoB; (refine wpList_append_any (S := fun b => wr.heap.size + 1 ≤ b ∧ b < w1.heap.size) _ rfl (.tmp 107) (.tmp 110) 24 rfl wr.heap.size 5 i0 _ 1 1 Tryd.underlying24 hi0 hz0 hz1' hz2 rfl (by omega) (.slice (some ⟨wr.heap.size, 0, none⟩) 1 1) 1 ([UInt8.ofNat 209].map Go.Proofs.YtlnpiigdjjadiaaDoor.u8) rfl ?xO A1 2 c1 ((beL u 2).map Go.Proofs.YtlnpiigdjjadiaaDoor.u8) rfl ?xR (u8_one _) (by unfold maxLen; omega) (by omega) (by omega) ?_); (case xO => exact own_one (Blk.below (Blk.new2 rfl) (unhide HB1) (by first | omega | (simp; omega) | (simp; done))) (Nat.le_refl _)); (case xR => exact (unhide HR1).sub (fun b hb => ⟨by have := hb.1; simp at this; omega, hb.2⟩)); clear hi0 hz0 hz1' hz2; intro v2 w2 hown2 hgr2 hat2; have hm2 : May w.heap.size (posF u) w2 (.slice Av n cv) n := (unhide HMY).kept (row := some wr.heap.size) ((only_of_below ((Below.refl _ _).alloc (Nat.le_refl _) _ |>.trans ((unhide HB1).mono (by first | omega | (simp; omega) | (simp; done)))) _).trans hgr2) (fun k hk => by injection hk with hk; omega); have hba2 : Blk w2 gA 3 #[.int .i64 1, .int .i64 2, .int .i64 4, .int .i64 8] := (((unhide HBA).alloc _).below (unhide HB1) (by have := (unhide HBA).lt; simp; omega)).grown hgr2 (by have := (unhide HBA).lt; simp [Value.ownBlock]; omega); have hbel2 : Below w.heap.size w w2 := ((unhide HBEL).alloc (unhide HBEL).size _ |>.trans ((unhide HB1).mono (by have := (unhide HBEL).size; simp; omega))).grown hgr2 (by have := (unhide HBEL).size; omega) (fun k hk => by have := (unhide HBEL).size; simp [Value.ownBlock] at hk; omega); obtain ⟨A2, c2, rfl, hc2, hcm2, _⟩ := own_slice hown2; have HO2 := hide hown2; have HM2 := hide hm2; have HBA2 := hide hba2; have HBEL2 := hide hbel2; clear hown2 hgr2 hat2 hm2 hba2 hbel2)
          | (at_builtin; go_loud ((refine wpList_may rfl (.tmp 103) (.tmp 112) rfl w.heap.size (posF u) (.slice Av n cv) n w2.heap.size _ (UInt8.ofNat 209 :: beL u 2) rfl rfl ((unhide HM2).below ((Below.refl _ _).alloc (Nat.le_refl _) _)) (Blk.new _ _ _) ?xO ⟨_, _, rfl⟩ ?xP (by omega) ?xZ ?_); (case xO => exact (own_base (unhide HO2) (unhide HBEL).size).alloc _); (case xP => exact .inr (.inr (.inr (.inr (.inr (.inr (.inl ⟨by omega, rfl⟩))))))); (case xZ => have := (unhide HBEL2).size; simp; omega); intro mv' w4 hm4 hk4 hb4; have HM4 := hide hm4; have hba4 := hk4 gA _ _ hgA (by decide) ((unhide HBA2).alloc _); have hbel4 : Below w.heap.size w w4 := ((unhide HBEL2).alloc (unhide HBEL2).size _).trans hb4; have HBA4 := hide hba4; have HBEL4 := hide hbel4; clear hm4 hk4 hb4 hba4 hbel4)))
        go_roundw
        case rel => exact ⟨2, _, by go_num, by omega, unhide HM4, by omega, by omega, unhide HBEL4, unhide HBA4⟩
        case measure => simp [intOf]
      · go_wp2
        go_roundw
        case rel => exact ⟨2, _, by go_num, by omega, unhide HMY, by omega, unhide HN0, unhide HBEL, unhide HBA⟩
        case measure => simp [intOf]
    · by_cases hy : (u : Int) < 2147483648
      · go_wp2_with (first
          | (go_at_call 44; refine (big_any u 4 (by omega) h2 _).mono ?_; rintro e w1 ⟨vb, rfl, hown, hbel⟩; obtain ⟨A1, c1, rfl, hc1, hm1, hr1⟩ := own_slice hown; have HB1 := hide hbel; have HR1 := hide hr1; have hz1 : wr.heap.size + 1 ≤ w1.heap.size := Nat.le_trans (by first | omega | (simp; omega) | (simp; done)) hbel.size; unfold maxLen at hm1; clear hown hbel hr1)
          | (at_builtin; obtain ⟨i0, hi0, hz0, hz1', hz2⟩ := info_parts infoB; (refine wpList_append_any (S := fun b => wr.heap.size + 1 ≤ b ∧ b < w1.heap.size) _ rfl (.tmp 107) (.tmp 110) 24 rfl wr.heap.size 5 i0 _ 1 1 Tryd.underlying24 hi0 hz0 hz1' hz2 rfl (by omega) (.slice (some ⟨wr.heap.size, 0, none⟩) 1 1) 1 ([UInt8.ofNat 210].map Go.Proofs.YtlnpiigdjjadiaaDoor.u8) rfl ?xO A1 4 c1 ((beL u 4).map Go.Proofs.YtlnpiigdjjadiaaDoor.u8) rfl ?xR (u8_one _) (by unfold maxLen; omega) (by omega) (by omega) ?_); (case xO => exact own_one (Blk.below (Blk.new2 rfl) (unhide HB1) (by first | omega | (simp; omega) | (simp; done))) (Nat.le_refl _)); (case xR => exact (unhide HR1).sub (fun b hb => ⟨by have := hb.1; simp at this; omega, hb.2⟩)); clear hi0 hz0 hz1' hz2; intro v2 w2 hown2 hgr2 hat2; have hm2 : May w.heap.size (posF u) w2 (.slice Av n cv) n := (unhide HMY).kept (row := some wr.heap.size) ((only_of_below ((Below.refl _ _).alloc (Nat.le_refl _) _ |>.trans ((unhide HB1).mono (by first | omega | (simp; omega) | (simp; done)))) _).trans hgr2) (fun k hk => by injection hk with hk; omega); have hba2 : Blk w2 gA 3 #[.int .i64 1, .int .i64 2, .int .i64 4, .int .i64 8] := (((unhide HBA).alloc _).below (unhide HB1) (by have := (unhide HBA).lt; simp; omega)).grown hgr2 (by have := (unhide HBA).lt; simp [Value.ownBlock]; omega); have hbel2 : Below w.heap.size w w2 := ((unhide HBEL).alloc (unhide HBEL).size _ |>.trans ((unhide HB1).mono (by have := (unhide HBEL).size; simp; omega))).grown hgr2 (by have := (unhide HBEL).size; omega) (fun k hk => by have := (unhide HBEL).size; simp [Value.ownBlock] at hk; omega); obtain ⟨A2, c2, rfl, hc2, hcm2, _⟩ := own_slice hown2; have HO2 := hide hown2; have HM2 := hide hm2; have HBA2 := hide hba2; have HBEL2 := hide hbel2; clear hown2 hgr2 hat2 hm2 hba2 hbel2)
          | (at_builtin; go_loud ((refine wpList_may rfl (.tmp 103) (.tmp 112) rfl w.heap.size (posF u) (.slice Av n cv) n w2.heap.size _ (UInt8.ofNat 210 :: beL u 4) rfl rfl ((unhide HM2).below ((Below.refl _ _).alloc (Nat.le_refl _) _)) (Blk.new _ _ _) ?xO ⟨_, _, rfl⟩ ?xP (by omega) ?xZ ?_); (case xO => exact (own_base (unhide HO2) (unhide HBEL).size).alloc _); (case xP => exact .inr (.inr (.inr (.inr (.inr (.inr (.inr (.inl ⟨by omega, rfl⟩)))))))); (case xZ => have := (unhide HBEL2).size; simp; omega); intro mv' w4 hm4 hk4 hb4; have HM4 := hide hm4; have hba4 := hk4 gA _ _ hgA (by decide) ((unhide HBA2).alloc _); have hbel4 : Below w.heap.size w w4 := ((unhide HBEL2).alloc (unhide HBEL2).size _).trans hb4; have HBA4 := hide hba4; have HBEL4 := hide hbel4; clear hm4 hk4 hb4 hba4 hbel4)))
        go_roundw
        case rel => exact ⟨3, _, by go_num, by omega, unhide HM4, by omega, by omega, unhide HBEL4, unhide HBA4⟩
        case measure => simp [intOf]
      · go_wp2
        go_roundw
        case rel => exact ⟨3, _, by go_num, by omega, unhide HMY, by omega, unhide HN0, unhide HBEL, unhide HBA⟩
        case measure => simp [intOf]
    · by_cases hy : (u : Int) < 9223372036854775808
      · go_wp2_with (first
          | (go_at_call 44; refine (big_any u 8 (by omega) h2 _).mono ?_; rintro e w1 ⟨vb, rfl, hown, hbel⟩; obtain ⟨A1, c1, rfl, hc1, hm1, hr1⟩ := own_slice hown; have HB1 := hide hbel; have HR1 := hide hr1; have hz1 : wr.heap.size + 1 ≤ w1.heap.size := Nat.le_trans (by first | omega | (simp; omega) | (simp; done)) hbel.size; unfold maxLen at hm1; clear hown hbel hr1)
          | (at_builtin; obtain ⟨i0, hi0, hz0, hz1', hz2⟩ := info_parts infoB; (refine wpList_append_any (S := fun b => wr.heap.size + 1 ≤ b ∧ b < w1.heap.size) _ rfl (.tmp 107) (.tmp 110) 24 rfl wr.heap.size 5 i0 _ 1 1 Tryd.underlying24 hi0 hz0 hz1' hz2 rfl (by omega) (.slice (some ⟨wr.heap.size, 0, none⟩) 1 1) 1 ([UInt8.ofNat 211].map Go.Proofs.YtlnpiigdjjadiaaDoor.u8) rfl ?xO A1 8 c1 ((beL u 8).map Go.Proofs.YtlnpiigdjjadiaaDoor.u8) rfl ?xR (u8_one _) (by unfold maxLen; omega) (by omega) (by omega) ?_); (case xO => exact own_one (Blk.below (Blk.new2 rfl) (unhide HB1) (by first | omega | (simp; omega) | (simp; done))) (Nat.le_refl _)); (case xR => exact (unhide HR1).sub (fun b hb => ⟨by have := hb.1; simp at this; omega, hb.2⟩)); clear hi0 hz0 hz1' hz2; intro v2 w2 hown2 hgr2 hat2; have hm2 : May w.heap.size (posF u) w2 (.slice Av n cv) n := (unhide HMY).kept (row := some wr.heap.size) ((only_of_below ((Below.refl _ _).alloc (Nat.le_refl _) _ |>.trans ((unhide HB1).mono (by first | omega | (simp; omega) | (simp; done)))) _).trans hgr2) (fun k hk => by injection hk with hk; omega); have hba2 : Blk w2 gA 3 #[.int .i64 1, .int .i64 2, .int .i64 4, .int .i64 8] := (((unhide HBA).alloc _).below (unhide HB1) (by have := (unhide HBA).lt; simp; omega)).grown hgr2 (by have := (unhide HBA).lt; simp [Value.ownBlock]; omega); have hbel2 : Below w.heap.size w w2 := ((unhide HBEL).alloc (unhide HBEL).size _ |>.trans ((unhide HB1).mono (by have := (unhide HBEL).size; simp; omega))).grown hgr2 (by have := (unhide HBEL).size; omega) (fun k hk => by have := (unhide HBEL).size; simp [Value.ownBlock] at hk; omega); obtain ⟨A2, c2, rfl, hc2, hcm2, _⟩ := own_slice hown2; have HO2 := hide hown2; have HM2 := hide hm2; have HBA2 := hide hba2; have HBEL2 := hide hbel2; clear hown2 hgr2 hat2 hm2 hba2 hbel2)
          | (at_builtin; go_loud ((refine wpList_may rfl (.tmp 103) (.tmp 112) rfl w.heap.size (posF u) (.slice Av n cv) n w2.heap.size _ (UInt8.ofNat 211 :: beL u 8) rfl rfl ((unhide HM2).below ((Below.refl _ _).alloc (Nat.le_refl _) _)) (Blk.new _ _ _) ?xO ⟨_, _, rfl⟩ ?xP (by omega) ?xZ ?_); (case xO => exact (own_base (unhide HO2) (unhide HBEL).size).alloc _); (case xP => exact .inr (.inr (.inr (.inr (.inr (.inr (.inr (.inr ⟨by omega, rfl⟩)))))))); (case xZ => have := (unhide HBEL2).size; simp; omega); intro mv' w4 hm4 hk4 hb4; have HM4 := hide hm4; have hba4 := hk4 gA _ _ hgA (by decide) ((unhide HBA2).alloc _); have hbel4 : Below w.heap.size w w4 := ((unhide HBEL2).alloc (unhide HBEL2).size _).trans hb4; have HBA4 := hide hba4; have HBEL4 := hide hbel4; clear hm4 hk4 hb4 hba4 hbel4)))
        go_roundw
        case rel => exact ⟨4, _, by go_num, by omega, unhide HM4, by omega, by omega, unhide HBEL4, unhide HBA4⟩
        case measure => simp [intOf]
      · go_wp2
        go_roundw
        case rel => exact ⟨4, _, by go_num, by omega, unhide HMY, by omega, unhide HN0, unhide HBEL, unhide HBA⟩
        case measure => simp [intOf]
    · have hn1 : 0 < n := unhide HN0
      obtain ⟨gm, cm, hvm, hgm, hnc, hcm, hat⟩ := (unhide HMY).slice_ hn1
      injection hvm with hv1 _ hv2
      subst hv1
      subst hv2
      unfold maxLen at hcm
      have HAT := hide hat
      clear hat
      have hn100 : n ≤ 100000 := by omega
      go_wp2_with (first
        | (go_at_call 45; go_loud (refine (pick_any g n hn100 _ ((unhide HF).below (unhide HBEL) hgl)).mono ?_; rintro e w5 ⟨j, hj, rfl, hg5, hz5, hF5⟩; have hj2 : j < n := hj.elim (fun h => h ▸ hn1) id; obtain ⟨A6, c6, bs, hc6, hP6, ho6⟩ := unhide HAT w5 g hg5 hgl j hj2; have HG5 := hide hg5; have HF5 := hide hF5; have HP6 := hide hP6; have HO6 := hide ho6; have HZ5 := hide hz5; clear hg5 hF5 hP6 ho6 hz5 hj)))
      rw [unhide HT]
      exact ⟨_, bs, unhide HP6, rfl, unhide HO6, (only_of_below (unhide HBEL) (some g)).trans (unhide HG5), unhide HF5⟩
end Go.Proofs.YtlnpiigdjjadiaaDoor

/-
  spec's Forms.putExt: which form is chosen is left open. Conditions: at most 2^31 bytes, a type of 8 bits.
-/
namespace Go.Proofs.YtlnpiigdjjadiaaDoor
set_option linter.unusedSimpArgs false
set_option linter.unusedVariables false
set_option linter.unusedVariables false
open Go.RowKit
def extF (n : Nat) (kb : UInt8) (bs : List UInt8) : Prop :=
  (n = 1 ∧ bs = [UInt8.ofNat 212, kb]) ∨ (n = 2 ∧ bs = [UInt8.ofNat 213, kb]) ∨ (n = 4 ∧ bs = [UInt8.ofNat 214, kb]) ∨ (n = 8 ∧ bs = [UInt8.ofNat 215, kb]) ∨ (n = 16 ∧ bs = [UInt8.ofNat 216, kb]) ∨
  (n < 256 ∧ bs = UInt8.ofNat 199 :: beL n 1 ++ [kb]) ∨ (n < 65536 ∧ bs = UInt8.ofNat 200 :: beL n 2 ++ [kb]) ∨ (n < 4294967296 ∧ bs = UInt8.ofNat 201 :: beL n 4 ++ [kb])
theorem two_own {w : World} {base : Nat} {b : Nat} {x y : Int} {c d : UInt8} (h : Blk w b 5 #[.int .u8 x, .int .u8 y]) (he : Value.int .u8 x = u8 c) (hf : Value.int .u8 y = u8 d) (hb : base ≤ b) : w.ownsRow base 5 1 (.slice (some ⟨b, 0, none⟩) 2 2) [c, d].length ([c, d].map u8) := by
  rw [he, hf] at h
  exact ⟨rfl, .inr ⟨b, 2, _, rfl, hb, h, Nat.le_refl _, by unfold maxLen; omega, rfl, rfl⟩⟩
theorem own_kept_far {w w' : World} {w0 : Nat} {e : TypeId} {size n : Nat} {u : Value} {xs : List Value} {row : Option Nat} (h : w.ownsRow w0 e size u n xs) (hg : w.grownBy w' row) (hr : ∀ k, row = some k → w.heap.size ≤ k) : w'.ownsRow w0 e size u n xs := by
  refine h.kept hg ?_
  rcases hk : u.ownBlock with _ | k
  · exact .inl rfl
  · right
    intro he
    have h1 := own_ge' h k hk
    have h2 := hr k he.symm
    omega
def f3 : List (Nat × Nat) := [(199, 1), (200, 2), (201, 4)]
theorem f3_good : ∀ f ∈ f3, goodF f := by
  intro f hf
  unfold f3 at hf
  simp only [List.mem_cons, List.not_mem_nil, or_false] at hf
  rcases hf with rfl | rfl | rfl <;> exact ⟨by simp, by omega⟩
theorem f3_some (n : Nat) (h : n < 4294967296) : 0 < (mayF n f3).length ∧ (mayF n f3).length ≤ 3 := by
  refine ⟨?_, mayF_le n f3⟩
  apply List.length_pos_of_mem (a := (201, 4))
  unfold mayF f3
  rw [List.mem_filter]
  exact ⟨by simp, by simp [fitsF]; omega⟩
theorem extF_form {n c s : Nat} {kb : UInt8} (h : (c, s) ∈ mayF n f3) : extF n kb ((UInt8.ofNat c :: beL n s) ++ [kb]) := by
  obtain ⟨h1, h2⟩ := mayF_mem h
  unfold f3 at h1
  simp only [List.mem_cons, Prod.mk.injEq, List.not_mem_nil, or_false] at h1 h2
  rcases h1 with ⟨rfl, rfl⟩ | ⟨rfl, rfl⟩ | ⟨rfl, rfl⟩
  · exact .inr (.inr (.inr (.inr (.inr (.inl ⟨by omega, rfl⟩)))))
  · exact .inr (.inr (.inr (.inr (.inr (.inr (.inl ⟨by omega, rfl⟩))))))
  · exact .inr (.inr (.inr (.inr (.inr (.inr (.inr ⟨by omega, rfl⟩))))))
set_option maxRecDepth 100000 in
set_option maxHeartbeats 6400000 in
theorem putExt_any (g n : Nat) (e : Int) (w : World) (hF : FormsAt w g) (h2 : n < 2147483648) :
    Calls Tryd.prog 31 #[.pointer (some ⟨g, 0, none⟩), .int .i64 n, .int .i64 e] w (PutH (extF n (UInt8.ofNat (e % 256).toNat)) g w) := by
  have HF := hide hF
  have hgl := hF.lt
  clear hF
  obtain ⟨kb, hkb⟩ : ∃ kb, kb = UInt8.ofNat (e % 256).toNat := ⟨_, rfl⟩
  rw [← hkb]
  have hkb2 : Value.int .u8 (e % 256) = u8 kb := by
    rw [hkb]
    simp [u8]
    omega
  have HKB := hide hkb2
  clear hkb hkb2
  obtain ⟨T, hT⟩ : ∃ T, T = PutH (extF n kb) g w := ⟨_, rfl⟩
  rw [← hT]
  have HT := hide hT
  clear hT
  go_enter Tryd.func31, Tryd.ntmps31
  go_upto_block 0 with fail
  go_cut [7] (fun v wx => ∃ m, May w.heap.size (extF n kb) wx v m ∧ m ≤ 5 ∧ Below w.heap.size w wx)
  case first =>
    go_wp2
    go_loopw [7, 14] (fun v i wr => ∃ k m : Nat, i = .int .i64 k ∧ k ≤ 5 ∧ May w.heap.size (extF n kb) wr v m ∧ m ≤ k ∧ Below w.heap.size w wr ∧ Blk wr w.heap.size 3 #[.int .i64 1, .int .i64 2, .int .i64 4, .int .i64 8, .int .i64 16]) (fun _ i _ => 5 - (intOf i).toNat)
    case atStart => exact ⟨0, 0, rfl, by omega, May.nil _ _ _, by omega, (Below.refl _ _).alloc (Nat.le_refl _) _, Blk.new _ _ _⟩
    case round =>
      obtain ⟨k, n2, rfl, hk, hmy, hn, hbel, hba⟩ := hrel
      obtain ⟨gA, hgAe⟩ : ∃ gA, gA = w.heap.size := ⟨_, rfl⟩
      have hgA : w.heap.size ≤ gA := by omega
      have hba' : Blk wr gA 3 #[.int .i64 1, .int .i64 2, .int .i64 4, .int .i64 8, .int .i64 16] := by rw [hgAe]; exact hba
      have HGA := hide hgAe
      obtain ⟨Av, cv, rfl⟩ := hmy.form
      have HMY := hide hmy
      have HBA := hide hba'
      have HBEL := hide hbel
      have hzr := hbel.size
      have hgl2 := hba.lt
      have fA0 := hba.cell 0
      have fA1 := hba.cell 1
      have fA2 := hba.cell 2
      have fA3 := hba.cell 3
      have fA4 := hba.cell 4
      simp only [List.getElem?_toArray, List.getElem?_cons_zero, List.getElem?_cons_succ] at fA0 fA1 fA2 fA3 fA4
      clear hmy hbel hba hba' hgAe
      have hk' : k = 0 ∨ k = 1 ∨ k = 2 ∨ k = 3 ∨ k = 4 ∨ k = 5 := by omega
      rcases hk' with rfl | rfl | rfl | rfl | rfl | rfl
      · rcases hy : ((n : Int) == 1) with _ | _
        · go_wp2
          go_roundw
          case rel => exact ⟨1, _, by go_num, by omega, unhide HMY, by omega, unhide HBEL, by rw [← unhide HGA]; exact unhide HBA⟩
          case measure => simp [intOf]
        · go_wp2_with (at_builtin; go_loud (refine wpList_may rfl (.tmp 22) (.tmp 29) rfl w.heap.size (extF n kb) (.slice Av n2 cv) n2 (wr.heap.size + 1) (.slice (some ⟨wr.heap.size, 0, none⟩) 2 2) [UInt8.ofNat 212, kb] rfl rfl (((unhide HMY).below ((Below.refl _ _).alloc (Nat.le_refl _) _)).below ((Below.refl _ _).alloc (Nat.le_refl _) _)) ?xB ?xO ⟨_, _, rfl⟩ ?xP (by omega) ?xZ ?_; (case xB => exact Blk.new2 (by simp)); (case xZ => simp; omega); (case xO => exact two_own ((Blk.new2 rfl).alloc _) rfl (unhide HKB) (unhide HBEL).size); (case xP => exact .inl ⟨(by have h := hy; simp at h; omega), rfl⟩); intro mv' w4 hm4 hk4 hb4; have hba4 := hk4 gA _ _ hgA (by decide) (((unhide HBA).alloc _).alloc _); have hbel4 : Below w.heap.size w w4 := Below.trans (((unhide HBEL).alloc (unhide HBEL).size _).alloc (by have := (unhide HBEL).size; simp; omega) _) hb4; have HM4 := hide hm4; have HBA4 := hide hba4; have HBEL4 := hide hbel4; clear hm4 hk4 hb4 hba4 hbel4))
          go_roundw
          case rel => exact ⟨1, _, by go_num, by omega, unhide HM4, by omega, unhide HBEL4, by rw [← unhide HGA]; exact unhide HBA4⟩
          case measure => simp [intOf]
      · rcases hy : ((n : Int) == 2) with _ | _
        · go_wp2
          go_roundw
          case rel => exact ⟨2, _, by go_num, by omega, unhide HMY, by omega, unhide HBEL, by rw [← unhide HGA]; exact unhide HBA⟩
          case measure => simp [intOf]
        · go_wp2_with (at_builtin; go_loud (refine wpList_may rfl (.tmp 22) (.tmp 29) rfl w.heap.size (extF n kb) (.slice Av n2 cv) n2 (wr.heap.size + 1) (.slice (some ⟨wr.heap.size, 0, none⟩) 2 2) [UInt8.ofNat 213, kb] rfl rfl (((unhide HMY).below ((Below.refl _ _).alloc (Nat.le_refl _) _)).below ((Below.refl _ _).alloc (Nat.le_refl _) _)) ?xB ?xO ⟨_, _, rfl⟩ ?xP (by omega) ?xZ ?_; (case xB => exact Blk.new2 (by simp)); (case xZ => simp; omega); (case xO => exact two_own ((Blk.new2 rfl).alloc _) rfl (unhide HKB) (unhide HBEL).size); (case xP => exact .inr (.inl ⟨(by have h := hy; simp at h; omega), rfl⟩)); intro mv' w4 hm4 hk4 hb4; have hba4 := hk4 gA _ _ hgA (by decide) (((unhide HBA).alloc _).alloc _); have hbel4 : Below w.heap.size w w4 := Below.trans (((unhide HBEL).alloc (unhide HBEL).size _).alloc (by have := (unhide HBEL).size; simp; omega) _) hb4; have HM4 := hide hm4; have HBA4 := hide hba4; have HBEL4 := hide hbel4; clear hm4 hk4 hb4 hba4 hbel4))
          go_roundw
          case rel => exact ⟨2, _, by go_num, by omega, unhide HM4, by omega, unhide HBEL4, by rw [← unhide HGA]; exact unhide HBA4⟩
          case measure => simp [intOf]
      · rcases hy : ((n : Int) == 4) with _ | _
        · go_wp2
          go_roundw
          case rel => exact ⟨3, _, by go_num, by omega, unhide HMY, by omega, unhide HBEL, by rw [← unhide HGA]; exact unhide HBA⟩
          case measure => simp [intOf]
        · go_wp2_with (at_builtin; go_loud (refine wpList_may rfl (.tmp 22) (.tmp 29) rfl w.heap.size (extF n kb) (.slice Av n2 cv) n2 (wr.heap.size + 1) (.slice (some ⟨wr.heap.size, 0, none⟩) 2 2) [UInt8.ofNat 214, kb] rfl rfl (((unhide HMY).below ((Below.refl _ _).alloc (Nat.le_refl _) _)).below ((Below.refl _ _).alloc (Nat.le_refl _) _)) ?xB ?xO ⟨_, _, rfl⟩ ?xP (by omega) ?xZ ?_; (case xB => exact Blk.new2 (by simp)); (case xZ => simp; omega); (case xO => exact two_own ((Blk.new2 rfl).alloc _) rfl (unhide HKB) (unhide HBEL).size); (case xP => exact .inr (.inr (.inl ⟨(by have h := hy; simp at h; omega), rfl⟩))); intro mv' w4 hm4 hk4 hb4; have hba4 := hk4 gA _ _ hgA (by decide) (((unhide HBA).alloc _).alloc _); have hbel4 : Below w.heap.size w w4 := Below.trans (((unhide HBEL).alloc (unhide HBEL).size _).alloc (by have := (unhide HBEL).size; simp; omega) _) hb4; have HM4 := hide hm4; have HBA4 := hide hba4; have HBEL4 := hide hbel4; clear hm4 hk4 hb4 hba4 hbel4))
          go_roundw
          case rel => exact ⟨3, _, by go_num, by omega, unhide HM4, by omega, unhide HBEL4, by rw [← unhide HGA]; exact unhide HBA4⟩
          case measure => simp [intOf]
      · rcases hy : ((n : Int) == 8) with _ | _
        · go_wp2
          go_roundw
          case rel => exact ⟨4, _, by go_num, by omega, unhide HMY, by omega, unhide HBEL, by rw [← unhide HGA]; exact unhide HBA⟩
          case measure => simp [intOf]
        · go_wp2_with (at_builtin; go_loud (refine wpList_may rfl (.tmp 22) (.tmp 29) rfl w.heap.size (extF n kb) (.slice Av n2 cv) n2 (wr.heap.size + 1) (.slice (some ⟨wr.heap.size, 0, none⟩) 2 2) [UInt8.ofNat 215, kb] rfl rfl (((unhide HMY).below ((Below.refl _ _).alloc (Nat.le_refl _) _)).below ((Below.refl _ _).alloc (Nat.le_refl _) _)) ?xB ?xO ⟨_, _, rfl⟩ ?xP (by omega) ?xZ ?_; (case xB => exact Blk.new2 (by simp)); (case xZ => simp; omega); (case xO => exact two_own ((Blk.new2 rfl).alloc _) rfl (unhide HKB) (unhide HBEL).size); (case xP => exact .inr (.inr (.inr (.inl ⟨(by have h := hy; simp at h; omega), rfl⟩)))); intro mv' w4 hm4 hk4 hb4; have hba4 := hk4 gA _ _ hgA (by decide) (((unhide HBA).alloc _).alloc _); have hbel4 : Below w.heap.size w w4 := Below.trans (((unhide HBEL).alloc (unhide HBEL).size _).alloc (by have := (unhide HBEL).size; simp; omega) _) hb4; have HM4 := hide hm4; have HBA4 := hide hba4; have HBEL4 := hide hbel4; clear hm4 hk4 hb4 hba4 hbel4))
          go_roundw
          case rel => exact ⟨4, _, by go_num, by omega, unhide HM4, by omega, unhide HBEL4, by rw [← unhide HGA]; exact unhide HBA4⟩
          case measure => simp [intOf]
      · rcases hy : ((n : Int) == 16) with _ | _
        · go_wp2
          go_roundw
          case rel => exact ⟨5, _, by go_num, by omega, unhide HMY, by omega, unhide HBEL, by rw [← unhide HGA]; exact unhide HBA⟩
          case measure => simp [intOf]
        · go_wp2_with (at_builtin; go_loud (refine wpList_may rfl (.tmp 22) (.tmp 29) rfl w.heap.size (extF n kb) (.slice Av n2 cv) n2 (wr.heap.size + 1) (.slice (some ⟨wr.heap.size, 0, none⟩) 2 2) [UInt8.ofNat 216, kb] rfl rfl (((unhide HMY).below ((Below.refl _ _).alloc (Nat.le_refl _) _)).below ((Below.refl _ _).alloc (Nat.le_refl _) _)) ?xB ?xO ⟨_, _, rfl⟩ ?xP (by omega) ?xZ ?_; (case xB => exact Blk.new2 (by simp)); (case xZ => simp; omega); (case xO => exact two_own ((Blk.new2 rfl).alloc _) rfl (unhide HKB) (unhide HBEL).size); (case xP => exact .inr (.inr (.inr (.inr (.inl ⟨(by have h := hy; simp at h; omega), rfl⟩))))); intro mv' w4 hm4 hk4 hb4; have hba4 := hk4 gA _ _ hgA (by decide) (((unhide HBA).alloc _).alloc _); have hbel4 : Below w.heap.size w w4 := Below.trans (((unhide HBEL).alloc (unhide HBEL).size _).alloc (by have := (unhide HBEL).size; simp; omega) _) hb4; have HM4 := hide hm4; have HBA4 := hide hba4; have HBEL4 := hide hbel4; clear hm4 hk4 hb4 hba4 hbel4))
          go_roundw
          case rel => exact ⟨5, _, by go_num, by omega, unhide HM4, by omega, unhide HBEL4, by rw [← unhide HGA]; exact unhide HBA4⟩
          case measure => simp [intOf]
      · go_wp2
        go_meet
        exact ⟨n2, unhide HMY, by omega, unhide HBEL⟩
  case rest =>
  obtain ⟨m, hmy, hn, hbel⟩ := hcut
  have HMYa := hide hmy
  have HBELa := hide hbel
  clear hmy hbel
  have hszs := sizes_any n f3 (some ⟨wc.heap.size, 0, none⟩) 3 3 (Lt (wc.heap.size + 1)) (wc.alloc (.cells #[.int .i64 199, .int .i64 1, .int .i64 200, .int .i64 2, .int .i64 201, .int .i64 4] 68)) (by omega) rfl (reads_blk (S := Lt (wc.heap.size + 1)) (t := 68) (Blk.new _ _ _) (Nat.lt_succ_self _) 2 3 rfl) (fun b hb => by simp [Lt] at hb ⊢; omega) f3_good (by omega)
  have hf4 := f3_some n (by omega)
  obtain ⟨ms, hms⟩ : ∃ ms, ms = mayF n f3 := ⟨_, rfl⟩
  rw [← hms] at hszs hf4
  obtain ⟨q, hq⟩ : ∃ q, q = ms.length := ⟨_, rfl⟩
  rw [← hq] at hszs hf4
  have HMS := hide hms
  have HQ := hide hq
  have HSZ := hide hszs
  clear hms hq hszs
  go_upto_block 2 with (go_at_call 46; go_loud (refine (unhide HSZ).mono ?_; rintro e w1 ⟨vf, rfl, hown, hbel⟩; obtain ⟨Af, cf, rfl, hcf, hcmf, _⟩ := own_slice hown; have hmy1 := ((unhide HMYa).below ((Below.refl _ _).alloc (Nat.le_refl _) _)).below hbel; have hbel1 : Below w.heap.size w w1 := ((unhide HBELa).alloc (unhide HBELa).size _).trans (hbel.mono (by have := (unhide HBELa).size; simp; omega)); have hown1 := own_base hown (b' := w.heap.size) (by have := (unhide HBELa).size; simp; omega); have HMY1 := hide hmy1; have HBEL1 := hide hbel1; have HOWN1 := hide hown1; unfold maxLen at hcmf; clear hown hbel hmy1 hbel1 hown1))
  go_cut [7] (fun v wx => ∃ m, May w.heap.size (extF n kb) wx v m ∧ m ≤ 10 ∧ 0 < m ∧ Below w.heap.size w wx)
  case first =>
    go_wp2
    go_loopw [7, 40] (fun v i wr => ∃ k m : Nat, i = .int .i64 k ∧ k ≤ q ∧ k ≤ m ∧ m ≤ 5 + k ∧ May w.heap.size (extF n kb) wr v m ∧ Below w.heap.size w wr ∧ wr.ownsRow w.heap.size 68 2 (.slice Af q cf) q (formC ms)) (fun _ i _ => q - (intOf i).toNat)
    case atStart => exact ⟨0, m, rfl, by omega, by omega, by omega, unhide HMY1, unhide HBEL1, unhide HOWN1⟩
    case round =>
      obtain ⟨k, n2, rfl, hk, hkn, hnk, hmy, hbel, hown⟩ := hrel
      obtain ⟨Av, cv, rfl⟩ := hmy.form
      have HMY := hide hmy
      have HBEL := hide hbel
      have HOWN := hide hown
      have hzr := hbel.size
      by_cases hlt : k < q
      · have hkm : k < ms.length := by have := unhide HQ; omega
        obtain ⟨Af2, cf2, he2, _, _, hr2⟩ := own_slice hown
        injection he2 with he2a _ he2b
        subst he2a
        subst he2b
        obtain ⟨ad, rfl, hSb, hcA, hcB⟩ := form_at hr2 (unhide HQ) k hkm
        have hmem : ms[k] ∈ mayF n f3 := by
          have h : ∀ f ∈ ms, f ∈ mayF n f3 := fun f hf => by rw [← unhide HMS]; exact hf
          exact h _ (List.getElem_mem hkm)
        have hg := f3_good _ (mayF_mem hmem).1
        have hpf : extF n kb ((UInt8.ofNat ms[k].1 :: beL n ms[k].2) ++ [kb]) := extF_form hmem
        clear hmem
        obtain ⟨hgs, hgc⟩ := hg
        generalize ms[k].1 = c at *
        generalize ms[k].2 = s at *
        have hgl3 : ad.block < wr.heap.size := hSb.2
        have HPF := hide hpf
        have HGS := hide hgs
        have hs8 : s ≤ 8 := by omega
        have hbl := beL_len n s hgs
        have hlen : (UInt8.ofNat c :: beL n s).length = 1 + s := by rw [List.length_cons, hbl, Nat.add_comm]
        have hlen2 : ((UInt8.ofNat c :: beL n s) ++ [kb]).length = 1 + s + 1 := by rw [List.length_append, hlen]; rfl
        have HLEN := hide hlen
        have HLEN2 := hide hlen2
        clear hmy hbel hown hr2 hpf hgs hbl hlen hlen2
        go_wp2_with (first
          | (go_at_call 29; go_loud (refine (headed_any c s n (unhide HGS) hgc (by omega) _).mono ?_; rintro e w2 ⟨vh, rfl, hown2, hbel2⟩; obtain ⟨A2, c2, rfl, hc2, hcm2, _⟩ := own_slice hown2; have hb2 : Below wr.heap.size wr w2 := ((Below.refl _ _).alloc (Nat.le_refl _) _).trans (hbel2.mono (by simp)); rw [cellc c hgc] at hown2; have ho2 := own_base (b' := wr.heap.size) hown2 (by simp); have HO2 := hide ho2; have HB2 := hide hb2; clear hown2 hbel2 hb2 ho2))
          | (at_builtin; go_loud (obtain ⟨i0, hi0, hz0, hz1', hz2⟩ := info_parts infoB; refine wpList_append_any (S := fun _ => True) _ rfl (.tmp 48) (.tmp 51) 24 rfl wr.heap.size 5 i0 _ 1 1 Tryd.underlying24 hi0 hz0 hz1' hz2 rfl (by omega) (.slice A2 (1 + s) c2) (1 + s) ((UInt8.ofNat c :: beL n s).map Go.Proofs.YtlnpiigdjjadiaaDoor.u8) rfl ?xO (some ⟨w2.heap.size, 0, none⟩) 1 1 ([kb].map Go.Proofs.YtlnpiigdjjadiaaDoor.u8) rfl ?xR (u8_one _) (by unfold maxLen; omega) (by omega) ?xZ ?_; (case xO => exact (unhide HO2).alloc _); (case xR => exact one_u8 (unhide HKB) rfl); (case xZ => have := (unhide HB2).size; simp; omega); clear hi0 hz0 hz1' hz2; intro v3 w3 hown3 hgr3 hat3; obtain ⟨A3, c3, rfl, hc3, hcm3, _⟩ := own_slice hown3; have hG : wr.grownBy w3 (Value.slice A2 (1 + s) c2).ownBlock := (only_of_below ((unhide HB2).alloc (unhide HB2).size _) _).trans hgr3; have hfar : ∀ k, (Value.slice A2 (1 + s) c2).ownBlock = some k → wr.heap.size ≤ k := fun k hk => (own_ge' (unhide HO2) k hk).1; have hmy3 := (unhide HMY).kept hG (fun k hk => .inr (hfar k hk)); have hf3' := own_kept_far (unhide HOWN) hG hfar; have hb3 : Below w.heap.size w w3 := (unhide HBEL).grown hG (unhide HBEL).size (fun k hk => Nat.le_trans (unhide HBEL).size (hfar k hk)); have HMY3 := hide hmy3; have HF3 := hide hf3'; have HB3 := hide hb3; have HO3 := hide (own_base (b' := w.heap.size) hown3 hzr); clear hown3 hgr3 hat3 hG hfar hmy3 hf3' hb3))
          | (at_builtin; go_loud (refine wpList_may rfl (.tmp 44) (.tmp 53) rfl w.heap.size (extF n kb) (.slice Av n2 cv) n2 w3.heap.size (.slice A3 (1 + s + 1) c3) ((UInt8.ofNat c :: beL n s) ++ [kb]) rfl rfl ((unhide HMY3).below ((Below.refl _ _).alloc (Nat.le_refl _) _)) (Blk.new _ _ _) ?xO ⟨A3, c3, ?xL⟩ (unhide HPF) (by omega) ?xZ ?_; (case xL => rw [unhide HLEN2]); (case xO => have h := (unhide HO3).alloc (.cells #[.slice A3 (1 + s + 1) c3] 24); rw [unhide HLEN2, List.map_append]; exact h); (case xZ => have := (unhide HB3).size; simp; omega); intro mv' w4 hm4 hk4 hb4; have HM4 := hide hm4; have hf4' := own_keep26 hk4 (by decide) ((unhide HF3).alloc (.cells #[.slice A3 (1 + s + 1) c3] 24)); have hbel4 : Below w.heap.size w w4 := ((unhide HB3).alloc (unhide HB3).size _).trans hb4; have HF4 := hide hf4'; have HBEL4 := hide hbel4; clear hm4 hk4 hb4 hf4' hbel4)))
        go_roundw
        case rel => exact ⟨k + 1, n2 + 1, by go_num, by omega, by omega, by omega, unhide HM4, unhide HBEL4, unhide HF4⟩
        case measure => simp [intOf]; omega
      · clear hmy hbel hown
        go_wp2
        go_meet
        exact ⟨n2, unhide HMY, by omega, by omega, unhide HBEL⟩
  case rest =>
  obtain ⟨m, hmy, hn, hn1, hbel⟩ := hcut
  have HBEL := hide hbel
  obtain ⟨gm, cm, rfl, hgm, hnc, hcm, hat⟩ := hmy.slice_ hn1
  unfold maxLen at hcm
  have HAT := hide hat
  have hn100 : m ≤ 100000 := by omega
  clear hat hmy hbel
  go_wp2_with (go_at_call 45; go_loud (refine (pick_any g m hn100 _ ((unhide HF).below (unhide HBEL) hgl)).mono ?_; rintro e w5 ⟨j, hj, rfl, hg5, hz5, hF5⟩; have hj2 : j < m := hj.elim (fun h => h ▸ hn1) id; obtain ⟨A6, c6, bs, hc6, hP6, ho6⟩ := unhide HAT w5 g hg5 hgl j hj2; have HG5 := hide hg5; have HF5 := hide hF5; have HP6 := hide hP6; have HO6 := hide ho6; have HZ5 := hide hz5; clear hg5 hF5 hP6 ho6 hz5 hj))
  rw [unhide HT]
  exact ⟨_, bs, unhide HP6, rfl, unhide HO6, (only_of_below (unhide HBEL) (some g)).trans (unhide HG5), unhide HF5⟩
end Go.Proofs.YtlnpiigdjjadiaaDoor
