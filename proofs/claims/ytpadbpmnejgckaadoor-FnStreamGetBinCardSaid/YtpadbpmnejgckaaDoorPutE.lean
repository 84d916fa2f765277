/-
  spec's Forms.putExt: which form is chosen is left open. Conditions: at most 2^31 bytes, a type of 8 bits.
-/
import Derived.Test.YtpadbpmnejgckaaDoorPutI
namespace Go.Proofs.YtpadbpmnejgckaaDoor
set_option linter.unusedSimpArgs false
set_option linter.unusedVariables false
set_option linter.unusedVariables false
open Go.RowKit
def extF (n : Nat) (kb : UInt8) (bs : List UInt8) : Prop :=
  (n = 1 ∧ bs = [UInt8.ofNat 212, kb]) ∨ (n = 2 ∧ bs = [UInt8.ofNat 213, kb]) ∨ (n = 4 ∧ bs = [UInt8.ofNat 214, kb]) ∨ (n = 8 ∧ bs = [UInt8.ofNat 215, kb]) ∨ (n = 16 ∧ bs = [UInt8.ofNat 216, kb]) ∨
  (n < 256 ∧ bs = UInt8.ofNat 199 :: beL n 1 ++ [kb]) ∨ (n < 65536 ∧ bs = UInt8.ofNat 200 :: beL n 2 ++ [kb]) ∨ (n < 4294967296 ∧ bs = UInt8.ofNat 201 :: beL n 4 ++ [kb])
theorem two_own {w : World} {base : Nat} {b : Nat} {x y : Int} {c d : UInt8} (h : Blk w b 5 #[.int .u8 x, .int .u8 y]) (he : Value.int .u8 x = u8 c) (hf : Value.int .u8 y = u8 d) (hb : base ≤ b) : w.ownsRow base 5 1 (.slice (some ⟨b, 0, none⟩) 2 2) [c, d].length ([c, d].map u8) := by
  rw [he, hf] at h
  exact ⟨rfl, .inr ⟨b, 2, _, rfl, hb, h, Nat.le_refl _, by unfold maxLen; omega, rfl, rfl⟩⟩
theorem own_kept_far {w w' : World} {w0 : Nat} {e : TypeId} {size n : Nat} {u : Value} {xs : List Value} {row : Option Nat} (h : w.ownsRow w0 e size u n xs) (hg : w.grownBy w' row) (hr : ∀ k, row = some k → w.heap.size ≤ k) : w'.ownsRow w0 e size u n xs := by
  refine h.kept hg ?_
  rcases hk : u.ownBlock with _ | k
  · exact .inl rfl
  · right
    intro he
    have h1 := own_ge' h k hk
    have h2 := hr k he.symm
    omega
def f3 : List (Nat × Nat) := [(199, 1), (200, 2), (201, 4)]
theorem f3_good : ∀ f ∈ f3, goodF f := by
  intro f hf
  unfold f3 at hf
  simp only [List.mem_cons, List.not_mem_nil, or_false] at hf
  rcases hf with rfl | rfl | rfl <;> exact ⟨by simp, by omega⟩
theorem f3_some (n : Nat) (h : n < 4294967296) : 0 < (mayF n f3).length ∧ (mayF n f3).length ≤ 3 := by
  refine ⟨?_, mayF_le n f3⟩
  apply List.length_pos_of_mem (a := (201, 4))
  unfold mayF f3
  rw [List.mem_filter]
  exact ⟨by simp, by simp [fitsF]; omega⟩
theorem extF_form {n c s : Nat} {kb : UInt8} (h : (c, s) ∈ mayF n f3) : extF n kb ((UInt8.ofNat c :: beL n s) ++ [kb]) := by
  obtain ⟨h1, h2⟩ := mayF_mem h
  unfold f3 at h1
  simp only [List.mem_cons, Prod.mk.injEq, List.not_mem_nil, or_false] at h1 h2
  rcases h1 with ⟨rfl, rfl⟩ | ⟨rfl, rfl⟩ | ⟨rfl, rfl⟩
  · exact .inr (.inr (.inr (.inr (.inr (.inl ⟨by omega, rfl⟩)))))
  · exact .inr (.inr (.inr (.inr (.inr (.inr (.inl ⟨by omega, rfl⟩))))))
  · exact .inr (.inr (.inr (.inr (.inr (.inr (.inr ⟨by omega, rfl⟩))))))
set_option maxRecDepth 100000 in
set_option maxHeartbeats 6400000 in
theorem putExt_any (g n : Nat) (e : Int) (w : World) (hF : FormsAt w g) (h2 : n < 2147483648) :
    Calls Tryd.prog 94 #[.pointer (some ⟨g, 0, none⟩), .int .i64 n, .int .i64 e] w (PutH (extF n (UInt8.ofNat (e % 256).toNat)) g w) := by
  have HF := hide hF
  have hgl := hF.lt
  clear hF
  obtain ⟨kb, hkb⟩ : ∃ kb, kb = UInt8.ofNat (e % 256).toNat := ⟨_, rfl⟩
  rw [← hkb]
  have hkb2 : Value.int .u8 (e % 256) = u8 kb := by
    rw [hkb]
    simp [u8]
    omega
  have HKB := hide hkb2
  clear hkb hkb2
  obtain ⟨T, hT⟩ : ∃ T, T = PutH (extF n kb) g w := ⟨_, rfl⟩
  rw [← hT]
  have HT := hide hT
  clear hT
  go_enter Tryd.func94, Tryd.ntmps94
  go_upto_block 0 with fail
  go_cut [7] (fun v wx => ∃ m, May w.heap.size (extF n kb) wx v m ∧ m ≤ 5 ∧ Below w.heap.size w wx)
  case first =>
    go_wp2
    go_loopw [7, 14] (fun v i wr => ∃ k m : Nat, i = .int .i64 k ∧ k ≤ 5 ∧ May w.heap.size (extF n kb) wr v m ∧ m ≤ k ∧ Below w.heap.size w wr ∧ Blk wr w.heap.size 3 #[.int .i64 1, .int .i64 2, .int .i64 4, .int .i64 8, .int .i64 16]) (fun _ i _ => 5 - (intOf i).toNat)
    case atStart => exact ⟨0, 0, rfl, by omega, May.nil _ _ _, by omega, (Below.refl _ _).alloc (Nat.le_refl _) _, Blk.new _ _ _⟩
    case round =>
      obtain ⟨k, n2, rfl, hk, hmy, hn, hbel, hba⟩ := hrel
      obtain ⟨gA, hgAe⟩ : ∃ gA, gA = w.heap.size := ⟨_, rfl⟩
      have hgA : w.heap.size ≤ gA := by omega
      have hba' : Blk wr gA 3 #[.int .i64 1, .int .i64 2, .int .i64 4, .int .i64 8, .int .i64 16] := by rw [hgAe]; exact hba
      have HGA := hide hgAe
      obtain ⟨Av, cv, rfl⟩ := hmy.form
      have HMY := hide hmy
      have HBA := hide hba'
      have HBEL := hide hbel
      have hzr := hbel.size
      have hgl2 := hba.lt
      have fA0 := hba.cell 0
      have fA1 := hba.cell 1
      have fA2 := hba.cell 2
      have fA3 := hba.cell 3
      have fA4 := hba.cell 4
      simp only [List.getElem?_toArray, List.getElem?_cons_zero, List.getElem?_cons_succ] at fA0 fA1 fA2 fA3 fA4
      clear hmy hbel hba hba' hgAe
      have hk' : k = 0 ∨ k = 1 ∨ k = 2 ∨ k = 3 ∨ k = 4 ∨ k = 5 := by omega
      rcases hk' with rfl | rfl | rfl | rfl | rfl | rfl
      · rcases hy : ((n : Int) == 1) with _ | _
        · go_wp2
          go_roundw
          case rel => exact ⟨1, _, by go_num, by omega, unhide HMY, by omega, unhide HBEL, by rw [← unhide HGA]; exact unhide HBA⟩
          case measure => simp [intOf]
        · go_wp2_with (at_builtin; go_loud (refine wpList_may rfl (.tmp 22) (.tmp 29) rfl w.heap.size (extF n kb) (.slice Av n2 cv) n2 (wr.heap.size + 1) (.slice (some ⟨wr.heap.size, 0, none⟩) 2 2) [UInt8.ofNat 212, kb] rfl rfl (((unhide HMY).below ((Below.refl _ _).alloc (Nat.le_refl _) _)).below ((Below.refl _ _).alloc (Nat.le_refl _) _)) ?xB ?xO ⟨_, _, rfl⟩ ?xP (by omega) ?xZ ?_; (case xB => exact Blk.new2 (by simp)); (case xZ => simp; omega); (case xO => exact two_own ((Blk.new2 rfl).alloc _) rfl (unhide HKB) (unhide HBEL).size); (case xP => exact .inl ⟨(by have h := hy; simp at h; omega), rfl⟩); intro mv' w4 hm4 hk4 hb4; have hba4 := hk4 gA _ _ hgA (by decide) (((unhide HBA).alloc _).alloc _); have hbel4 : Below w.heap.size w w4 := Below.trans (((unhide HBEL).alloc (unhide HBEL).size _).alloc (by have := (unhide HBEL).size; simp; omega) _) hb4; have HM4 := hide hm4; have HBA4 := hide hba4; have HBEL4 := hide hbel4; clear hm4 hk4 hb4 hba4 hbel4))
          go_roundw
          case rel => exact ⟨1, _, by go_num, by omega, unhide HM4, by omega, unhide HBEL4, by rw [← unhide HGA]; exact unhide HBA4⟩
          case measure => simp [intOf]
      · rcases hy : ((n : Int) == 2) with _ | _
        · go_wp2
          go_roundw
          case rel => exact ⟨2, _, by go_num, by omega, unhide HMY, by omega, unhide HBEL, by rw [← unhide HGA]; exact unhide HBA⟩
          case measure => simp [intOf]
        · go_wp2_with (at_builtin; go_loud (refine wpList_may rfl (.tmp 22) (.tmp 29) rfl w.heap.size (extF n kb) (.slice Av n2 cv) n2 (wr.heap.size + 1) (.slice (some ⟨wr.heap.size, 0, none⟩) 2 2) [UInt8.ofNat 213, kb] rfl rfl (((unhide HMY).below ((Below.refl _ _).alloc (Nat.le_refl _) _)).below ((Below.refl _ _).alloc (Nat.le_refl _) _)) ?xB ?xO ⟨_, _, rfl⟩ ?xP (by omega) ?xZ ?_; (case xB => exact Blk.new2 (by simp)); (case xZ => simp; omega); (case xO => exact two_own ((Blk.new2 rfl).alloc _) rfl (unhide HKB) (unhide HBEL).size); (case xP => exact .inr (.inl ⟨(by have h := hy; simp at h; omega), rfl⟩)); intro mv' w4 hm4 hk4 hb4; have hba4 := hk4 gA _ _ hgA (by decide) (((unhide HBA).alloc _).alloc _); have hbel4 : Below w.heap.size w w4 := Below.trans (((unhide HBEL).alloc (unhide HBEL).size _).alloc (by have := (unhide HBEL).size; simp; omega) _) hb4; have HM4 := hide hm4; have HBA4 := hide hba4; have HBEL4 := hide hbel4; clear hm4 hk4 hb4 hba4 hbel4))
          go_roundw
          case rel => exact ⟨2, _, by go_num, by omega, unhide HM4, by omega, unhide HBEL4, by rw [← unhide HGA]; exact unhide HBA4⟩
          case measure => simp [intOf]
      · rcases hy : ((n : Int) == 4) with _ | _
        · go_wp2
          go_roundw
          case rel => exact ⟨3, _, by go_num, by omega, unhide HMY, by omega, unhide HBEL, by rw [← unhide HGA]; exact unhide HBA⟩
          case measure => simp [intOf]
        · go_wp2_with (at_builtin; go_loud (refine wpList_may rfl (.tmp 22) (.tmp 29) rfl w.heap.size (extF n kb) (.slice Av n2 cv) n2 (wr.heap.size + 1) (.slice (some ⟨wr.heap.size, 0, none⟩) 2 2) [UInt8.ofNat 214, kb] rfl rfl (((unhide HMY).below ((Below.refl _ _).alloc (Nat.le_refl _) _)).below ((Below.refl _ _).alloc (Nat.le_refl _) _)) ?xB ?xO ⟨_, _, rfl⟩ ?xP (by omega) ?xZ ?_; (case xB => exact Blk.new2 (by simp)); (case xZ => simp; omega); (case xO => exact two_own ((Blk.new2 rfl).alloc _) rfl (unhide HKB) (unhide HBEL).size); (case xP => exact .inr (.inr (.inl ⟨(by have h := hy; simp at h; omega), rfl⟩))); intro mv' w4 hm4 hk4 hb4; have hba4 := hk4 gA _ _ hgA (by decide) (((unhide HBA).alloc _).alloc _); have hbel4 : Below w.heap.size w w4 := Below.trans (((unhide HBEL).alloc (unhide HBEL).size _).alloc (by have := (unhide HBEL).size; simp; omega) _) hb4; have HM4 := hide hm4; have HBA4 := hide hba4; have HBEL4 := hide hbel4; clear hm4 hk4 hb4 hba4 hbel4))
          go_roundw
          case rel => exact ⟨3, _, by go_num, by omega, unhide HM4, by omega, unhide HBEL4, by rw [← unhide HGA]; exact unhide HBA4⟩
          case measure => simp [intOf]
      · rcases hy : ((n : Int) == 8) with _ | _
        · go_wp2
          go_roundw
          case rel => exact ⟨4, _, by go_num, by omega, unhide HMY, by omega, unhide HBEL, by rw [← unhide HGA]; exact unhide HBA⟩
          case measure => simp [intOf]
        · go_wp2_with (at_builtin; go_loud (refine wpList_may rfl (.tmp 22) (.tmp 29) rfl w.heap.size (extF n kb) (.slice Av n2 cv) n2 (wr.heap.size + 1) (.slice (some ⟨wr.heap.size, 0, none⟩) 2 2) [UInt8.ofNat 215, kb] rfl rfl (((unhide HMY).below ((Below.refl _ _).alloc (Nat.le_refl _) _)).below ((Below.refl _ _).alloc (Nat.le_refl _) _)) ?xB ?xO ⟨_, _, rfl⟩ ?xP (by omega) ?xZ ?_; (case xB => exact Blk.new2 (by simp)); (case xZ => simp; omega); (case xO => exact two_own ((Blk.new2 rfl).alloc _) rfl (unhide HKB) (unhide HBEL).size); (case xP => exact .inr (.inr (.inr (.inl ⟨(by have h := hy; simp at h; omega), rfl⟩)))); intro mv' w4 hm4 hk4 hb4; have hba4 := hk4 gA _ _ hgA (by decide) (((unhide HBA).alloc _).alloc _); have hbel4 : Below w.heap.size w w4 := Below.trans (((unhide HBEL).alloc (unhide HBEL).size _).alloc (by have := (unhide HBEL).size; simp; omega) _) hb4; have HM4 := hide hm4; have HBA4 := hide hba4; have HBEL4 := hide hbel4; clear hm4 hk4 hb4 hba4 hbel4))
          go_roundw
          case rel => exact ⟨4, _, by go_num, by omega, unhide HM4, by omega, unhide HBEL4, by rw [← unhide HGA]; exact unhide HBA4⟩
          case measure => simp [intOf]
      · rcases hy : ((n : Int) == 16) with _ | _
        · go_wp2
          go_roundw
          case rel => exact ⟨5, _, by go_num, by omega, unhide HMY, by omega, unhide HBEL, by rw [← unhide HGA]; exact unhide HBA⟩
          case measure => simp [intOf]
        · go_wp2_with (at_builtin; go_loud (refine wpList_may rfl (.tmp 22) (.tmp 29) rfl w.heap.size (extF n kb) (.slice Av n2 cv) n2 (wr.heap.size + 1) (.slice (some ⟨wr.heap.size, 0, none⟩) 2 2) [UInt8.ofNat 216, kb] rfl rfl (((unhide HMY).below ((Below.refl _ _).alloc (Nat.le_refl _) _)).below ((Below.refl _ _).alloc (Nat.le_refl _) _)) ?xB ?xO ⟨_, _, rfl⟩ ?xP (by omega) ?xZ ?_; (case xB => exact Blk.new2 (by simp)); (case xZ => simp; omega); (case xO => exact two_own ((Blk.new2 rfl).alloc _) rfl (unhide HKB) (unhide HBEL).size); (case xP => exact .inr (.inr (.inr (.inr (.inl ⟨(by have h := hy; simp at h; omega), rfl⟩))))); intro mv' w4 hm4 hk4 hb4; have hba4 := hk4 gA _ _ hgA (by decide) (((unhide HBA).alloc _).alloc _); have hbel4 : Below w.heap.size w w4 := Below.trans (((unhide HBEL).alloc (unhide HBEL).size _).alloc (by have := (unhide HBEL).size; simp; omega) _) hb4; have HM4 := hide hm4; have HBA4 := hide hba4; have HBEL4 := hide hbel4; clear hm4 hk4 hb4 hba4 hbel4))
          go_roundw
          case rel => exact ⟨5, _, by go_num, by omega, unhide HM4, by omega, unhide HBEL4, by rw [← unhide HGA]; exact unhide HBA4⟩
          case measure => simp [intOf]
      · go_wp2
        go_meet
        exact ⟨n2, unhide HMY, by omega, unhide HBEL⟩
  case rest =>
  obtain ⟨m, hmy, hn, hbel⟩ := hcut
  have HMYa := hide hmy
  have HBELa := hide hbel
  clear hmy hbel
  have hszs := sizes_any n f3 (some ⟨wc.heap.size, 0, none⟩) 3 3 (Lt (wc.heap.size + 1)) (wc.alloc (.cells #[.int .i64 199, .int .i64 1, .int .i64 200, .int .i64 2, .int .i64 201, .int .i64 4] 160)) (by omega) rfl (reads_blk (S := Lt (wc.heap.size + 1)) (t := 160) (Blk.new _ _ _) (Nat.lt_succ_self _) 2 3 rfl) (fun b hb => by simp [Lt] at hb ⊢; omega) f3_good (by omega)
  have hf4 := f3_some n (by omega)
  obtain ⟨ms, hms⟩ : ∃ ms, ms = mayF n f3 := ⟨_, rfl⟩
  rw [← hms] at hszs hf4
  obtain ⟨q, hq⟩ : ∃ q, q = ms.length := ⟨_, rfl⟩
  rw [← hq] at hszs hf4
  have HMS := hide hms
  have HQ := hide hq
  have HSZ := hide hszs
  clear hms hq hszs
  go_upto_block 2 with (go_at_call 133; go_loud (refine (unhide HSZ).mono ?_; rintro e w1 ⟨vf, rfl, hown, hbel⟩; obtain ⟨Af, cf, rfl, hcf, hcmf, _⟩ := own_slice hown; have hmy1 := ((unhide HMYa).below ((Below.refl _ _).alloc (Nat.le_refl _) _)).below hbel; have hbel1 : Below w.heap.size w w1 := ((unhide HBELa).alloc (unhide HBELa).size _).trans (hbel.mono (by have := (unhide HBELa).size; simp; omega)); have hown1 := own_base hown (b' := w.heap.size) (by have := (unhide HBELa).size; simp; omega); have HMY1 := hide hmy1; have HBEL1 := hide hbel1; have HOWN1 := hide hown1; unfold maxLen at hcmf; clear hown hbel hmy1 hbel1 hown1))
  go_cut [7] (fun v wx => ∃ m, May w.heap.size (extF n kb) wx v m ∧ m ≤ 10 ∧ 0 < m ∧ Below w.heap.size w wx)
  case first =>
    go_wp2
    go_loopw [7, 40] (fun v i wr => ∃ k m : Nat, i = .int .i64 k ∧ k ≤ q ∧ k ≤ m ∧ m ≤ 5 + k ∧ May w.heap.size (extF n kb) wr v m ∧ Below w.heap.size w wr ∧ wr.ownsRow w.heap.size 160 2 (.slice Af q cf) q (formC ms)) (fun _ i _ => q - (intOf i).toNat)
    case atStart => exact ⟨0, m, rfl, by omega, by omega, by omega, unhide HMY1, unhide HBEL1, unhide HOWN1⟩
    case round =>
      obtain ⟨k, n2, rfl, hk, hkn, hnk, hmy, hbel, hown⟩ := hrel
      obtain ⟨Av, cv, rfl⟩ := hmy.form
      have HMY := hide hmy
      have HBEL := hide hbel
      have HOWN := hide hown
      have hzr := hbel.size
      by_cases hlt : k < q
      · have hkm : k < ms.length := by have := unhide HQ; omega
        obtain ⟨Af2, cf2, he2, _, _, hr2⟩ := own_slice hown
        injection he2 with he2a _ he2b
        subst he2a
        subst he2b
        obtain ⟨ad, rfl, hSb, hcA, hcB⟩ := form_at hr2 (unhide HQ) k hkm
        have hmem : ms[k] ∈ mayF n f3 := by
          have h : ∀ f ∈ ms, f ∈ mayF n f3 := fun f hf => by rw [← unhide HMS]; exact hf
          exact h _ (List.getElem_mem hkm)
        have hg := f3_good _ (mayF_mem hmem).1
        have hpf : extF n kb ((UInt8.ofNat ms[k].1 :: beL n ms[k].2) ++ [kb]) := extF_form hmem
        clear hmem
        obtain ⟨hgs, hgc⟩ := hg
        generalize ms[k].1 = c at *
        generalize ms[k].2 = s at *
        have hgl3 : ad.block < wr.heap.size := hSb.2
        have HPF := hide hpf
        have HGS := hide hgs
        have hs8 : s ≤ 8 := by omega
        have hbl := beL_len n s hgs
        have hlen : (UInt8.ofNat c :: beL n s).length = 1 + s := by rw [List.length_cons, hbl, Nat.add_comm]
        have hlen2 : ((UInt8.ofNat c :: beL n s) ++ [kb]).length = 1 + s + 1 := by rw [List.length_append, hlen]; rfl
        have HLEN := hide hlen
        have HLEN2 := hide hlen2
        clear hmy hbel hown hr2 hpf hgs hbl hlen hlen2
        go_wp2_with (first
          | (go_at_call 92; go_loud (refine (headed_any c s n (unhide HGS) hgc (by omega) _).mono ?_; rintro e w2 ⟨vh, rfl, hown2, hbel2⟩; obtain ⟨A2, c2, rfl, hc2, hcm2, _⟩ := own_slice hown2; have hb2 : Below wr.heap.size wr w2 := ((Below.refl _ _).alloc (Nat.le_refl _) _).trans (hbel2.mono (by simp)); rw [cellc c hgc] at hown2; have ho2 := own_base (b' := wr.heap.size) hown2 (by simp); have HO2 := hide ho2; have HB2 := hide hb2; clear hown2 hbel2 hb2 ho2))
          | (at_builtin; go_loud (obtain ⟨i0, hi0, hz0, hz1', hz2⟩ := info_parts infoB; refine wpList_append_any (S := fun _ => True) _ rfl (.tmp 48) (.tmp 51) 26 rfl wr.heap.size 5 i0 _ 1 1 Tryd.underlying26 hi0 hz0 hz1' hz2 rfl (by omega) (.slice A2 (1 + s) c2) (1 + s) ((UInt8.ofNat c :: beL n s).map Go.Proofs.YtpadbpmnejgckaaDoor.u8) rfl ?xO (some ⟨w2.heap.size, 0, none⟩) 1 1 ([kb].map Go.Proofs.YtpadbpmnejgckaaDoor.u8) rfl ?xR (u8_one _) (by unfold maxLen; omega) (by omega) ?xZ ?_; (case xO => exact (unhide HO2).alloc _); (case xR => exact one_u8 (unhide HKB) rfl); (case xZ => have := (unhide HB2).size; simp; omega); clear hi0 hz0 hz1' hz2; intro v3 w3 hown3 hgr3 hat3; obtain ⟨A3, c3, rfl, hc3, hcm3, _⟩ := own_slice hown3; have hG : wr.grownBy w3 (Value.slice A2 (1 + s) c2).ownBlock := (only_of_below ((unhide HB2).alloc (unhide HB2).size _) _).trans hgr3; have hfar : ∀ k, (Value.slice A2 (1 + s) c2).ownBlock = some k → wr.heap.size ≤ k := fun k hk => (own_ge' (unhide HO2) k hk).1; have hmy3 := (unhide HMY).kept hG (fun k hk => .inr (hfar k hk)); have hf3' := own_kept_far (unhide HOWN) hG hfar; have hb3 : Below w.heap.size w w3 := (unhide HBEL).grown hG (unhide HBEL).size (fun k hk => Nat.le_trans (unhide HBEL).size (hfar k hk)); have HMY3 := hide hmy3; have HF3 := hide hf3'; have HB3 := hide hb3; have HO3 := hide (own_base (b' := w.heap.size) hown3 hzr); clear hown3 hgr3 hat3 hG hfar hmy3 hf3' hb3))
          | (at_builtin; go_loud (refine wpList_may rfl (.tmp 44) (.tmp 53) rfl w.heap.size (extF n kb) (.slice Av n2 cv) n2 w3.heap.size (.slice A3 (1 + s + 1) c3) ((UInt8.ofNat c :: beL n s) ++ [kb]) rfl rfl ((unhide HMY3).below ((Below.refl _ _).alloc (Nat.le_refl _) _)) (Blk.new _ _ _) ?xO ⟨A3, c3, ?xL⟩ (unhide HPF) (by omega) ?xZ ?_; (case xL => rw [unhide HLEN2]); (case xO => have h := (unhide HO3).alloc (.cells #[.slice A3 (1 + s + 1) c3] 26); rw [unhide HLEN2, List.map_append]; exact h); (case xZ => have := (unhide HB3).size; simp; omega); intro mv' w4 hm4 hk4 hb4; have HM4 := hide hm4; have hf4' := own_keep26 hk4 (by decide) ((unhide HF3).alloc (.cells #[.slice A3 (1 + s + 1) c3] 26)); have hbel4 : Below w.heap.size w w4 := ((unhide HB3).alloc (unhide HB3).size _).trans hb4; have HF4 := hide hf4'; have HBEL4 := hide hbel4; clear hm4 hk4 hb4 hf4' hbel4)))
        go_roundw
        case rel => exact ⟨k + 1, n2 + 1, by go_num, by omega, by omega, by omega, unhide HM4, unhide HBEL4, unhide HF4⟩
        case measure => simp [intOf]; omega
      · clear hmy hbel hown
        go_wp2
        go_meet
        exact ⟨n2, unhide HMY, by omega, by omega, unhide HBEL⟩
  case rest =>
  obtain ⟨m, hmy, hn, hn1, hbel⟩ := hcut
  have HBEL := hide hbel
  obtain ⟨gm, cm, rfl, hgm, hnc, hcm, hat⟩ := hmy.slice_ hn1
  unfold maxLen at hcm
  have HAT := hide hat
  have hn100 : m ≤ 100000 := by omega
  clear hat hmy hbel
  go_wp2_with (go_at_call 132; go_loud (refine (pick_any g m hn100 _ ((unhide HF).below (unhide HBEL) hgl)).mono ?_; rintro e w5 ⟨j, hj, rfl, hg5, hz5, hF5⟩; have hj2 : j < m := hj.elim (fun h => h ▸ hn1) id; obtain ⟨A6, c6, bs, hc6, hP6, ho6⟩ := unhide HAT w5 g hg5 hgl j hj2; have HG5 := hide hg5; have HF5 := hide hF5; have HP6 := hide hP6; have HO6 := hide ho6; have HZ5 := hide hz5; clear hg5 hF5 hP6 ho6 hz5 hj))
  rw [unhide HT]
  exact ⟨_, bs, unhide HP6, rfl, unhide HO6, (only_of_below (unhide HBEL) (some g)).trans (unhide HG5), unhide HF5⟩
end Go.Proofs.YtpadbpmnejgckaaDoor
