/-
  spec.PutPack of arrays and maps, and of all values. Conditions: the value reads in memory, fits, and is at most 2000 values.
-/
import Derived.Test.YtpadbpmnejgckaaDoorPutPack1
namespace Go.Proofs.YtpadbpmnejgckaaDoor
set_option linter.unusedSimpArgs false
set_option linter.unusedVariables false
set_option linter.unusedVariables false
open Go.RowKit
def PutPAt (N : Nat) : Prop := ∀ (p : Pack), SizeOf.sizeOf p ≤ N → WfP p → FitsP p → cnt p ≤ 2000 → ∀ (c0 c1 c2 c3 c4 : Value) (S : Nat → Prop) (w : World) (g : Nat), Old w S → ¬ S g → PackC w S p [c0, c1, c2, c3, c4] → FormsAt w g →
  Calls Tryd.prog 54 #[.agg #[c0, c1, c2, c3, c4], .pointer (some ⟨g, 0, none⟩)] w (PutH (WrP p) g w)
theorem FormsAt.grown {w w' : World} {g : Nat} {row : Option Nat} (h : FormsAt w g) (hg : w.grownBy w' row) (hr : some g ≠ row) : FormsAt w' g := by
  obtain ⟨st, b, h1, h2⟩ := h
  exact ⟨st, b, h1, h2.grown hg hr⟩
theorem own_kept_old {w w' : World} {w0 g : Nat} {e : TypeId} {size n : Nat} {u : Value} {xs : List Value} (h : w.ownsRow w0 e size u n xs) (hg : w.grownBy w' (some g)) (hr : g < w0) : w'.ownsRow w0 e size u n xs := by
  refine h.kept hg ?_
  rcases hk : u.ownBlock with _ | k
  · exact .inl rfl
  · right
    intro he
    have h1 := own_ge' h k hk
    injection he with he
    omega
/-- What the loop over the kids has written. -/
def Kids (P : List UInt8 → Prop) (ps : List Pack) (k : Nat) (bs : List UInt8) : Prop := ∃ h r, P h ∧ WrPs (ps.take k) r ∧ bs = h ++ r
theorem Kids.len {kind q : Nat} {ps : List Pack} {k : Nat} {bs : List UInt8} (h : Kids (HeadIs kind q) ps k bs) (hf : FitsPs ps) (hc : 1 + cnts ps ≤ 2000) : bs.length ≤ 400000000 := by
  obtain ⟨h, r, h1, h2, rfl⟩ := h
  have h3 := HeadIs_len h1
  have h4 := WrPs_len _ r h2 (FitsPs_take ps k hf)
  have h5 := cnts_le ps k
  rw [List.length_append]
  omega
theorem Kids.snoc {P : List UInt8 → Prop} {ps : List Pack} {k : Nat} {bs b : List UInt8} (h : Kids P ps k bs) (hk : k < ps.length) (hb : WrP ps[k] b) : Kids P ps (k + 1) (bs ++ b) := by
  obtain ⟨h, r, h1, h2, rfl⟩ := h
  exact ⟨h, r ++ b, h1, by rw [List.take_succ_eq_append_getElem hk]; exact WrPs_snoc _ _ _ _ h2 hb, by simp⟩
set_option maxRecDepth 100000 in
set_option maxHeartbeats 3200000 in
theorem putPack_8 (N : Nat) (ih : PutPAt N) (g n m kc : Nat) (t : List UInt8) (e : Int) (ps : List Pack) (K : Option Addr) (xs : List Value) (S : Nat → Prop) (w : World) (hF : FormsAt w g) (hm : m = ps.length) (hm2 : m ≤ 2000) (hS : Old w S) (hgS : ¬ S g) (hr : Reads w S 5 K m xs) (hp : PacksC w S ps xs)
    (hsz : ∀ p ∈ ps, SizeOf.sizeOf p ≤ N) (hwf : WfPs ps) (hft : FitsPs ps) (hcn : 1 + cnts ps ≤ 2000) :
    Calls Tryd.prog 54 #[.agg #[.int .i64 8, .int .u64 n, .string ⟨t.toArray⟩, .int .i64 e, .slice K m kc], .pointer (some ⟨g, 0, none⟩)] w (PutH (WrP (.mk 8 n t e ps)) g w) := by
  have HF := hide hF
  have hgl := hF.lt
  have IH := hide ih
  have HM := hide hm
  have HR := hide hr
  have HP := hide hp
  have HWF := hide hwf
  have HFT := hide hft
  clear hF ih hm hr hp hwf hft
  obtain ⟨T, hT⟩ : ∃ T, T = PutH (WrP (.mk 8 n t e ps)) g w := ⟨_, rfl⟩
  rw [← hT]
  have HT := hide hT
  clear hT
  have HH := hide (fun (W : World) (hW : Below w.heap.size w W) (hl : W.heap.size = w.heap.size + 1) => putHead_8b g m (W.alloc (.cells #[.int .i64 220, .int .i64 2, .int .i64 221, .int .i64 4] 160)) (some ⟨w.heap.size + 1, 0, none⟩) (fun b => b = w.heap.size + 1) (((unhide HF).below hW hgl).below ((Below.refl _ _).alloc (Nat.le_refl _) _) (by omega)) (by omega)
    (reads_blk (S := fun b => b = w.heap.size + 1) (t := 160) (cs := #[.int .i64 220, .int .i64 2, .int .i64 221, .int .i64 4]) (Blk.new2 hl) rfl 2 2 rfl) (fun b hb => by rw [hb]; simp; omega))
  go_enter Tryd.func54, Tryd.ntmps54
  go_wp2_with fail
  refine (unhide HH (w.alloc (.cells #[.int .i64 8, .int .u64 n, .string ⟨t.toArray⟩, .int .i64 e, .slice K m kc] 25)) ((Below.refl _ _).alloc (Nat.le_refl _) _) (by simp)).mono ?_
  rintro e0 w1 ⟨v, bs, hP, rfl, hown, hg1, hF1⟩
  have hG : w.grownBy w1 (some g) := grown_trans' (only_of_below (by repeat (first | with_reducible exact Below.refl _ _ | with_reducible exact x | with_reducible refine Below.alloc ?_ (by first | omega | (simp; omega) | (simp; done)) _ | with_reducible refine Below.setCell ?_ (by first | omega | (simp; omega) | (simp; done)) _ | with_reducible refine Below.drew ?_ | with_reducible refine below_drewN ?_ _)) (some g)) hg1 (fun _ h => by injection h with h; subst h; exact .inl rfl)
  have hown' := own_base (b' := w.heap.size) hown (by first | omega | (simp; omega) | (simp; done))
  have q0 : w1.cell? ⟨w.heap.size, 4, none⟩ = some (.slice K m kc) := (World.cell?_of_block (hg1.block w.heap.size (by first | omega | (simp; omega) | (simp; done)) (by intro h; injection h with h; omega))).trans (by go_simp)
  have HP0 := hide hP
  have HG := hide hG
  have HO := hide hown'
  have HF1 := hide hF1
  have hzz : w.heap.size < w1.heap.size := Nat.lt_of_lt_of_le (by first | omega | (simp; omega) | (simp; done)) hg1.size
  clear hown hg1 hF1 hP hG hown' HH
  go_wp2
  go_loopw [5, 106] (fun v i wr => ∃ (k : Nat) (bs : List UInt8), i = .int .i64 k ∧ k ≤ m ∧ Kids (HeadIs 8 m) ps k bs ∧ wr.ownsRow w.heap.size 5 1 v bs.length (bs.map u8) ∧ w.grownBy wr (some g) ∧ FormsAt wr g) (fun _ i _ => m - (intOf i).toNat)
  case atStart => exact ⟨0, bs, rfl, Nat.zero_le _, ⟨bs, [], unhide HP0, by rw [List.take_zero]; unfold WrPs; rfl, by simp⟩, unhide HO, unhide HG, unhide HF1⟩
  case round =>
    obtain ⟨k, bs, rfl, hk, hkid, hown, hg, hFr⟩ := hrel
    have hlen := hkid.len (unhide HFT) hcn
    obtain ⟨Av, cv, rfl, hcv, hcmv, _⟩ := own_slice hown
    obtain ⟨l, hl⟩ : ∃ l, l = bs.length := ⟨_, rfl⟩
    rw [← hl] at hown hlen hcv ⊢
    have HL := hide hl
    have HK := hide hkid
    have HOWN := hide hown
    have HGR := hide hg
    have HFR := hide hFr
    have hzr := hg.size
    unfold maxLen at hcmv
    clear hl hkid
    by_cases hlt : k < m
    · obtain ⟨ad, rfl, hSb, hcell⟩ := (unhide HR).2 (by omega)
      have hl1 : k < ps.length := by have := unhide HM; omega
      obtain ⟨c0, c1, c2, c3, c4, hcs, hpc⟩ := PacksC.at_ ps xs (unhide HP) k hl1
      have l0 := hS _ hSb
      have hst : Stays S w wr := stays_grown hg hS hgS
      have hne : ad.block ≠ g := fun h => hgS (h ▸ hSb)
      obtain ⟨x60, x61, x62, x63, x64⟩ := five_at (w := wr) (a := ad.add (k * 5)) (c0 := c0) (c1 := c1) (c2 := c2) (c3 := c3) (c4 := c4) (fun j u hu => by rw [add_of_add]; exact (World.cell?_of_block (w := w) (a := ad.add (k * 5 + j)) (by rw [block_of_add]; exact hst _ hSb)).trans (hcell _ _ (hcs j u hu)))
      obtain ⟨k1, n1, t1, e1, K1, m1, kc1, rfl, rfl, rfl, rfl, rfl⟩ := hpc.cells
      have hmemk := List.getElem_mem hl1
      have hcnk : cnt ps[k] ≤ 2000 := by have := cnts_take ps k hl1; have := cnts_le ps (k + 1); omega
      have hblen : ∀ b, WrP ps[k] b → b.length ≤ 400000000 := fun b hb => by have := WrP_len _ b hb (FitsPs_at ps (unhide HFT) _ hmemk); omega
      have HPC := hide hpc
      have HC := hide hcell
      have HST := hide hst
      have HBL := hide hblen
      clear hcell hcs hpc hst hblen hown hg hFr
      go_wp2_with (first
        | (go_at_call 54; go_loud (refine (unhide IH ps[k] (hsz _ hmemk) (WfPs_at ps (unhide HWF) _ hmemk) (FitsPs_at ps (unhide HFT) _ hmemk) hcnk _ _ _ _ _ S _ g ?xO hgS ?xC ?xF).mono ?_; (case xO => exact fun b hb => by have := hS b hb; first | omega | (simp; omega)); (case xC => exact PackC.keep (Stays.trans (unhide HST) (stays_below (Stays.refl _ _) (by repeat (first | with_reducible exact Below.refl _ _ | with_reducible exact x | with_reducible refine Below.alloc ?_ (by first | omega | (simp; omega) | (simp; done)) _ | with_reducible refine Below.setCell ?_ (by first | omega | (simp; omega) | (simp; done)) _ | with_reducible refine Below.drew ?_ | with_reducible refine below_drewN ?_ _)) (fun b hb => Nat.lt_of_lt_of_le (hS b hb) hzr))) _ _ (unhide HPC)); (case xF => exact (unhide HFR).below (by repeat (first | with_reducible exact Below.refl _ _ | with_reducible exact x | with_reducible refine Below.alloc ?_ (by first | omega | (simp; omega) | (simp; done)) _ | with_reducible refine Below.setCell ?_ (by first | omega | (simp; omega) | (simp; done)) _ | with_reducible refine Below.drew ?_ | with_reducible refine below_drewN ?_ _)) (unhide HFR).lt); rintro e5 w5 ⟨v5, b5, hP5, rfl, hown5, hg5, hF5⟩; obtain ⟨A5, c5, rfl, hc5, hcm5, hr5⟩ := own_slice hown5; have hG5 : wr.grownBy w5 (some g) := grown_trans' (only_of_below (by repeat (first | with_reducible exact Below.refl _ _ | with_reducible exact x | with_reducible refine Below.alloc ?_ (by first | omega | (simp; omega) | (simp; done)) _ | with_reducible refine Below.setCell ?_ (by first | omega | (simp; omega) | (simp; done)) _ | with_reducible refine Below.drew ?_ | with_reducible refine below_drewN ?_ _)) (some g)) hg5 (fun _ h => by injection h with h; subst h; exact .inl rfl); have hO5 := own_kept_old (unhide HOWN) hG5 hgl; have hlb5 := unhide HBL b5 hP5; have hz5 := hG5.size; have HG5 := hide hG5; have HO5 := hide hO5; have HR5 := hide hr5; have HF5 := hide hF5; have HP5 := hide hP5; unfold maxLen at hcm5; clear hown5 hg5 hF5 hr5 hP5 hG5 hO5))
        | (at_builtin; go_loud (obtain ⟨i0, hi0, hz0, hz1', hz2⟩ := info_parts infoB; refine wpList_append_any (S := fun _ => True) _ rfl (.tmp 110) (.tmp 113) 26 rfl w.heap.size 5 i0 _ 1 1 Tryd.underlying26 hi0 hz0 hz1' hz2 rfl (by omega) (.slice Av l cv) l (bs.map Go.Proofs.YtpadbpmnejgckaaDoor.u8) rfl (unhide HO5) A5 b5.length c5 (b5.map Go.Proofs.YtpadbpmnejgckaaDoor.u8) rfl ((unhide HR5).sub (fun _ _ => trivial)) (u8_one _) (by unfold maxLen; omega) (by omega) (by omega) ?_; clear hi0 hz0 hz1' hz2; intro v6 w6 hown6 hgr6 hat6; have hfar : ∀ j, (Value.slice Av l cv).ownBlock = some j → w.heap.size ≤ j := fun j hj => (own_ge' (unhide HOWN) j hj).1; have hG6 : w.grownBy w6 (some g) := grown_trans' (grown_trans' (unhide HGR) (unhide HG5) (fun _ h => .inl h)) hgr6 (fun j hj => .inr (hfar j hj)); have hF6 := (unhide HF5).grown hgr6 (fun h => by have := hfar g h.symm; omega); have HO6 := hide hown6; have HG6 := hide hG6; have HF6 := hide hF6; clear hown6 hgr6 hat6 hfar hG6 hF6)))
      go_roundw
      case rel => exact ⟨k + 1, bs ++ b5, by go_num, by omega, (unhide HK).snoc hl1 (unhide HP5), by rw [List.length_append, List.map_append, ← unhide HL]; exact unhide HO6, unhide HG6, unhide HF6⟩
      case measure => simp [intOf]; omega
    · obtain rfl : k = m := by omega
      clear hown hg hFr
      go_wp2
      rw [unhide HT]
      obtain ⟨h, r, h1, h2, hbs⟩ := unhide HK
      refine ⟨_, bs, ?_, rfl, by rw [← unhide HL]; exact unhide HOWN, unhide HGR, unhide HFR⟩
      rw [unhide HM, List.take_length] at h2
      unfold WrP
      rw [unhide HM] at h1
      exact .inr (.inr (.inr (.inr (.inr (.inr (.inr (.inr (.inr (.inl ⟨rfl, h, r, h1, h2, hbs⟩)))))))))
set_option maxRecDepth 100000 in
set_option maxHeartbeats 3200000 in
theorem putPack_9 (N : Nat) (ih : PutPAt N) (g n m kc : Nat) (t : List UInt8) (e : Int) (ps : List Pack) (K : Option Addr) (xs : List Value) (S : Nat → Prop) (w : World) (hF : FormsAt w g) (hm : m = ps.length) (hm2 : m ≤ 2000) (hS : Old w S) (hgS : ¬ S g) (hr : Reads w S 5 K m xs) (hp : PacksC w S ps xs)
    (hsz : ∀ p ∈ ps, SizeOf.sizeOf p ≤ N) (hwf : WfPs ps) (hft : FitsPs ps) (hcn : 1 + cnts ps ≤ 2000) :
    Calls Tryd.prog 54 #[.agg #[.int .i64 9, .int .u64 n, .string ⟨t.toArray⟩, .int .i64 e, .slice K m kc], .pointer (some ⟨g, 0, none⟩)] w (PutH (WrP (.mk 9 n t e ps)) g w) := by
  have HF := hide hF
  have hgl := hF.lt
  have IH := hide ih
  have HM := hide hm
  have HR := hide hr
  have HP := hide hp
  have HWF := hide hwf
  have HFT := hide hft
  clear hF ih hm hr hp hwf hft
  obtain ⟨T, hT⟩ : ∃ T, T = PutH (WrP (.mk 9 n t e ps)) g w := ⟨_, rfl⟩
  rw [← hT]
  have HT := hide hT
  clear hT
  have HH := hide (fun (W : World) (hW : Below w.heap.size w W) (hl : W.heap.size = w.heap.size + 1) => putHead_9b g (m / 2) (W.alloc (.cells #[.int .i64 222, .int .i64 2, .int .i64 223, .int .i64 4] 160)) (some ⟨w.heap.size + 1, 0, none⟩) (fun b => b = w.heap.size + 1) (((unhide HF).below hW hgl).below ((Below.refl _ _).alloc (Nat.le_refl _) _) (by omega)) (by omega)
    (reads_blk (S := fun b => b = w.heap.size + 1) (t := 160) (cs := #[.int .i64 222, .int .i64 2, .int .i64 223, .int .i64 4]) (Blk.new2 hl) rfl 2 2 rfl) (fun b hb => by rw [hb]; simp; omega))
  have hdv : (((m / 2 : Nat)) : Int) = (m : Int) / 2 := by omega
  rw [hdv] at HH
  clear hdv
  go_enter Tryd.func54, Tryd.ntmps54
  go_wp2_with fail
  refine (unhide HH (w.alloc (.cells #[.int .i64 9, .int .u64 n, .string ⟨t.toArray⟩, .int .i64 e, .slice K m kc] 25)) ((Below.refl _ _).alloc (Nat.le_refl _) _) (by simp)).mono ?_
  rintro e0 w1 ⟨v, bs, hP, rfl, hown, hg1, hF1⟩
  have hG : w.grownBy w1 (some g) := grown_trans' (only_of_below (by repeat (first | with_reducible exact Below.refl _ _ | with_reducible exact x | with_reducible refine Below.alloc ?_ (by first | omega | (simp; omega) | (simp; done)) _ | with_reducible refine Below.setCell ?_ (by first | omega | (simp; omega) | (simp; done)) _ | with_reducible refine Below.drew ?_ | with_reducible refine below_drewN ?_ _)) (some g)) hg1 (fun _ h => by injection h with h; subst h; exact .inl rfl)
  have hown' := own_base (b' := w.heap.size) hown (by first | omega | (simp; omega) | (simp; done))
  have q0 : w1.cell? ⟨w.heap.size, 4, none⟩ = some (.slice K m kc) := (World.cell?_of_block (hg1.block w.heap.size (by first | omega | (simp; omega) | (simp; done)) (by intro h; injection h with h; omega))).trans (by go_simp)
  have HP0 := hide hP
  have HG := hide hG
  have HO := hide hown'
  have HF1 := hide hF1
  have hzz : w.heap.size < w1.heap.size := Nat.lt_of_lt_of_le (by first | omega | (simp; omega) | (simp; done)) hg1.size
  clear hown hg1 hF1 hP hG hown' HH
  go_wp2
  go_loopw [5, 106] (fun v i wr => ∃ (k : Nat) (bs : List UInt8), i = .int .i64 k ∧ k ≤ m ∧ Kids (HeadIs 9 (m / 2)) ps k bs ∧ wr.ownsRow w.heap.size 5 1 v bs.length (bs.map u8) ∧ w.grownBy wr (some g) ∧ FormsAt wr g) (fun _ i _ => m - (intOf i).toNat)
  case atStart => exact ⟨0, bs, rfl, Nat.zero_le _, ⟨bs, [], unhide HP0, by rw [List.take_zero]; unfold WrPs; rfl, by simp⟩, unhide HO, unhide HG, unhide HF1⟩
  case round =>
    obtain ⟨k, bs, rfl, hk, hkid, hown, hg, hFr⟩ := hrel
    have hlen := hkid.len (unhide HFT) hcn
    obtain ⟨Av, cv, rfl, hcv, hcmv, _⟩ := own_slice hown
    obtain ⟨l, hl⟩ : ∃ l, l = bs.length := ⟨_, rfl⟩
    rw [← hl] at hown hlen hcv ⊢
    have HL := hide hl
    have HK := hide hkid
    have HOWN := hide hown
    have HGR := hide hg
    have HFR := hide hFr
    have hzr := hg.size
    unfold maxLen at hcmv
    clear hl hkid
    by_cases hlt : k < m
    · obtain ⟨ad, rfl, hSb, hcell⟩ := (unhide HR).2 (by omega)
      have hl1 : k < ps.length := by have := unhide HM; omega
      obtain ⟨c0, c1, c2, c3, c4, hcs, hpc⟩ := PacksC.at_ ps xs (unhide HP) k hl1
      have l0 := hS _ hSb
      have hst : Stays S w wr := stays_grown hg hS hgS
      have hne : ad.block ≠ g := fun h => hgS (h ▸ hSb)
      obtain ⟨x60, x61, x62, x63, x64⟩ := five_at (w := wr) (a := ad.add (k * 5)) (c0 := c0) (c1 := c1) (c2 := c2) (c3 := c3) (c4 := c4) (fun j u hu => by rw [add_of_add]; exact (World.cell?_of_block (w := w) (a := ad.add (k * 5 + j)) (by rw [block_of_add]; exact hst _ hSb)).trans (hcell _ _ (hcs j u hu)))
      obtain ⟨k1, n1, t1, e1, K1, m1, kc1, rfl, rfl, rfl, rfl, rfl⟩ := hpc.cells
      have hmemk := List.getElem_mem hl1
      have hcnk : cnt ps[k] ≤ 2000 := by have := cnts_take ps k hl1; have := cnts_le ps (k + 1); omega
      have hblen : ∀ b, WrP ps[k] b → b.length ≤ 400000000 := fun b hb => by have := WrP_len _ b hb (FitsPs_at ps (unhide HFT) _ hmemk); omega
      have HPC := hide hpc
      have HC := hide hcell
      have HST := hide hst
      have HBL := hide hblen
      clear hcell hcs hpc hst hblen hown hg hFr
      go_wp2_with (first
        | (go_at_call 54; go_loud (refine (unhide IH ps[k] (hsz _ hmemk) (WfPs_at ps (unhide HWF) _ hmemk) (FitsPs_at ps (unhide HFT) _ hmemk) hcnk _ _ _ _ _ S _ g ?xO hgS ?xC ?xF).mono ?_; (case xO => exact fun b hb => by have := hS b hb; first | omega | (simp; omega)); (case xC => exact PackC.keep (Stays.trans (unhide HST) (stays_below (Stays.refl _ _) (by repeat (first | with_reducible exact Below.refl _ _ | with_reducible exact x | with_reducible refine Below.alloc ?_ (by first | omega | (simp; omega) | (simp; done)) _ | with_reducible refine Below.setCell ?_ (by first | omega | (simp; omega) | (simp; done)) _ | with_reducible refine Below.drew ?_ | with_reducible refine below_drewN ?_ _)) (fun b hb => Nat.lt_of_lt_of_le (hS b hb) hzr))) _ _ (unhide HPC)); (case xF => exact (unhide HFR).below (by repeat (first | with_reducible exact Below.refl _ _ | with_reducible exact x | with_reducible refine Below.alloc ?_ (by first | omega | (simp; omega) | (simp; done)) _ | with_reducible refine Below.setCell ?_ (by first | omega | (simp; omega) | (simp; done)) _ | with_reducible refine Below.drew ?_ | with_reducible refine below_drewN ?_ _)) (unhide HFR).lt); rintro e5 w5 ⟨v5, b5, hP5, rfl, hown5, hg5, hF5⟩; obtain ⟨A5, c5, rfl, hc5, hcm5, hr5⟩ := own_slice hown5; have hG5 : wr.grownBy w5 (some g) := grown_trans' (only_of_below (by repeat (first | with_reducible exact Below.refl _ _ | with_reducible exact x | with_reducible refine Below.alloc ?_ (by first | omega | (simp; omega) | (simp; done)) _ | with_reducible refine Below.setCell ?_ (by first | omega | (simp; omega) | (simp; done)) _ | with_reducible refine Below.drew ?_ | with_reducible refine below_drewN ?_ _)) (some g)) hg5 (fun _ h => by injection h with h; subst h; exact .inl rfl); have hO5 := own_kept_old (unhide HOWN) hG5 hgl; have hlb5 := unhide HBL b5 hP5; have hz5 := hG5.size; have HG5 := hide hG5; have HO5 := hide hO5; have HR5 := hide hr5; have HF5 := hide hF5; have HP5 := hide hP5; unfold maxLen at hcm5; clear hown5 hg5 hF5 hr5 hP5 hG5 hO5))
        | (at_builtin; go_loud (obtain ⟨i0, hi0, hz0, hz1', hz2⟩ := info_parts infoB; refine wpList_append_any (S := fun _ => True) _ rfl (.tmp 110) (.tmp 113) 26 rfl w.heap.size 5 i0 _ 1 1 Tryd.underlying26 hi0 hz0 hz1' hz2 rfl (by omega) (.slice Av l cv) l (bs.map Go.Proofs.YtpadbpmnejgckaaDoor.u8) rfl (unhide HO5) A5 b5.length c5 (b5.map Go.Proofs.YtpadbpmnejgckaaDoor.u8) rfl ((unhide HR5).sub (fun _ _ => trivial)) (u8_one _) (by unfold maxLen; omega) (by omega) (by omega) ?_; clear hi0 hz0 hz1' hz2; intro v6 w6 hown6 hgr6 hat6; have hfar : ∀ j, (Value.slice Av l cv).ownBlock = some j → w.heap.size ≤ j := fun j hj => (own_ge' (unhide HOWN) j hj).1; have hG6 : w.grownBy w6 (some g) := grown_trans' (grown_trans' (unhide HGR) (unhide HG5) (fun _ h => .inl h)) hgr6 (fun j hj => .inr (hfar j hj)); have hF6 := (unhide HF5).grown hgr6 (fun h => by have := hfar g h.symm; omega); have HO6 := hide hown6; have HG6 := hide hG6; have HF6 := hide hF6; clear hown6 hgr6 hat6 hfar hG6 hF6)))
      go_roundw
      case rel => exact ⟨k + 1, bs ++ b5, by go_num, by omega, (unhide HK).snoc hl1 (unhide HP5), by rw [List.length_append, List.map_append, ← unhide HL]; exact unhide HO6, unhide HG6, unhide HF6⟩
      case measure => simp [intOf]; omega
    · obtain rfl : k = m := by omega
      clear hown hg hFr
      go_wp2
      rw [unhide HT]
      obtain ⟨h, r, h1, h2, hbs⟩ := unhide HK
      refine ⟨_, bs, ?_, rfl, by rw [← unhide HL]; exact unhide HOWN, unhide HGR, unhide HFR⟩
      rw [unhide HM, List.take_length] at h2
      unfold WrP
      rw [unhide HM] at h1
      exact .inr (.inr (.inr (.inr (.inr (.inr (.inr (.inr (.inr (.inr ⟨rfl, h, r, h1, h2, hbs⟩)))))))))
theorem putPack_all : ∀ N, PutPAt N
  | 0 => by
    intro p hp
    cases p
    simp at hp
  | N + 1 => by
    intro p hsz hwf hft hcn c0 c1 c2 c3 c4 S w g hS hgS hp hF
    cases p with
    | mk k n t e ps =>
    unfold PackC at hp
    obtain ⟨K, kc, xs, hc, h1, h2, h3, h4⟩ := hp
    simp only [List.cons.injEq, and_true] at hc
    obtain ⟨rfl, rfl, rfl, rfl, rfl⟩ := hc
    unfold WfP at hwf
    unfold FitsP FitHd at hft
    unfold cnt at hcn
    obtain ⟨⟨a, b, hkk, htt, hnn, hee, hl, hu, hb1, hb4, _, hm2, htl⟩, hfk⟩ := hft
    have hk : k = 0 ∨ k = 1 ∨ k = 2 ∨ k = 3 ∨ k = 4 ∨ k = 5 ∨ k = 6 ∨ k = 7 ∨ k = 8 ∨ k = 9 ∨ k = 10 := by omega
    rcases hk with rfl | rfl | rfl | rfl | rfl | rfl | rfl | rfl | rfl | rfl | rfl
    · exact putPack_0 0 g n _ kc t e ps K w hF
    · exact putPack_1 0 g n _ kc t e ps K w hF (hb1 rfl)
    · by_cases hn : n < 9223372036854775808
      · exact putPack_2p 0 g n _ kc t e ps K w hF hn
      · exact putPack_2n 0 g n _ kc t e ps K w hF (by omega) hwf.1
    · exact putPack_3 0 g n _ kc t e ps K w hF hwf.1
    · exact putPack_4 0 g n _ kc t e ps K w hF (hb4 rfl)
    · exact putPack_5 0 g n _ kc t e ps K w hF hwf.1
    · exact putPack_6 0 g n _ kc t e ps K w hF htl
    · exact putPack_7 0 g n _ kc t e ps K w hF htl
    · exact putPack_8 N (putPack_all N) g n _ kc t e ps K xs S w hF rfl hm2 hS hgS h3 h4 (fun p hp => by have := sizeOf_mem ps p hp; simp at hsz; omega) hwf.2 hfk hcn
    · exact putPack_9 N (putPack_all N) g n _ kc t e ps K xs S w hF rfl hm2 hS hgS h3 h4 (fun p hp => by have := sizeOf_mem ps p hp; simp at hsz; omega) hwf.2 hfk hcn
    · exact putPack_10 0 g n _ kc t e ps K w hF htl
end Go.Proofs.YtpadbpmnejgckaaDoor
