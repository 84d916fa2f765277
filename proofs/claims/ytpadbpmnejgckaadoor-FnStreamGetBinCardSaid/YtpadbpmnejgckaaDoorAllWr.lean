/-
  laws.allWritten: values written one behind the other, in whatever forms. Conditions: at most 100 values that fit, none with values inside.
-/
import Derived.Test.YtpadbpmnejgckaaDoorPutPack2
import Derived.Test.YtpadbpmnejgckaaDoorEncsP
namespace Go.Proofs.YtpadbpmnejgckaaDoor
set_option linter.unusedSimpArgs false
set_option linter.unusedVariables false
set_option linter.unusedVariables false
open Go.RowKit
/-- What a writer of bytes of its own answers. -/
def WrOut (P : List UInt8 → Prop) (w : World) (e : Ending) (w' : World) : Prop := ∃ A c bs, P bs ∧ e = .returned (.slice A bs.length c) ∧ bs.length ≤ c ∧ c ≤ maxLen ∧ RB w' (fun b => w.heap.size ≤ b ∧ b < w'.heap.size) A bs ∧ Below w.heap.size w w'
theorem cnts_one : ∀ (ps : List Pack), (∀ p ∈ ps, cnt p = 1) → cnts ps = ps.length
  | [], _ => by simp [cnts]
  | p :: ps, h => by
    have h1 := h p (by simp)
    have h2 := cnts_one ps (fun q hq => h q (by simp [hq]))
    unfold cnts
    rw [h1, h2, List.length_cons]
    omega
def AllRel (ps : List Pack) (w wr : World) (o i : Value) : Prop :=
  ∃ (k : Nat) (A : Option Addr) (c : Nat) (bs : List UInt8), k ≤ ps.length ∧ i = .int .i64 k ∧ o = .slice A bs.length c ∧ wr.ownsRow (w.heap.size + 1) 5 1 (.slice A bs.length c) bs.length (bs.map u8) ∧ WrPs (ps.take k) bs ∧ FormsAt wr w.heap.size ∧ Below w.heap.size w wr
set_option maxRecDepth 100000 in
set_option maxHeartbeats 3200000 in
theorem allWritten_any (ps : List Pack) (K : Option Addr) (m kc fm : Nat) (xs : List Value) (S : Nat → Prop) (w : World) (hm : m = ps.length) (hm2 : m ≤ 100) (hfm : fm < 18446744073709551616) (hS : Old w S) (hr : Reads w S 5 K m xs) (hp : PacksC w S ps xs) (hwf : WfPs ps) (hft : FitsPs ps) (hc1 : ∀ p ∈ ps, cnt p = 1) :
    Calls Tryd.prog 27 #[.slice K m kc, .int .u64 fm] w (WrOut (WrPs ps) w) := by
  obtain ⟨i0, hi0, hz0, hz1', hz2⟩ := info_parts infoB
  have HM := hide hm
  have HR := hide hr
  have HP := hide hp
  have HWF := hide hwf
  have HFT := hide hft
  have HC1 := hide hc1
  obtain ⟨T, hT⟩ : ∃ T, T = WrOut (WrPs ps) w := ⟨_, rfl⟩
  rw [← hT]
  have HT := hide hT
  clear hm hr hp hwf hft hc1 hT
  go_enter Tryd.func27, Tryd.ntmps27
  go_wp2
  go_loopw [6, 14] (fun o i wr => AllRel ps w wr o i) (fun _ i _ => m - (intOf i).toNat)
  case atStart => exact ⟨0, none, 0, [], Nat.zero_le _, rfl, rfl, World.ownsRow_nil _ _ _ _, by simp [WrPs], ⟨fm, false, hfm, Blk.new _ _ _⟩, (by repeat (first | with_reducible exact Below.refl _ _ | with_reducible exact x | with_reducible refine Below.alloc ?_ (by first | omega | (simp; omega) | (simp; done)) _ | with_reducible refine Below.setCell ?_ (by first | omega | (simp; omega) | (simp; done)) _ | with_reducible refine Below.drew ?_ | with_reducible refine below_drewN ?_ _))⟩
  case round =>
    obtain ⟨k, A, c, bs, hk, rfl, rfl, hown, hwr, hF, hbel⟩ := hrel
    have hmx := unhide HM
    by_cases hlt : k < m
    · have hkx : k < ps.length := by omega
      have hlen : bs.length ≤ 20000000 := by
        have h1 := WrPs_len _ bs hwr (FitsPs_take ps k (unhide HFT))
        have h2 := cnts_one (ps.take k) (fun p hp => unhide HC1 p (List.mem_of_mem_take hp))
        rw [List.length_take] at h2
        omega
      obtain ⟨l, hl⟩ : ∃ l, l = bs.length := ⟨_, rfl⟩
      obtain ⟨_, _, hv, hcv, hcmv, _⟩ := own_slice hown
      obtain ⟨rfl, _, rfl⟩ := Value.slice.inj hv
      rw [← hl] at hown hlen hcv hv ⊢
      obtain ⟨ad, rfl, hSb, hcell⟩ := (unhide HR).2 (by omega)
      obtain ⟨c0, c1, c2, c3, c4, hcs, hpc⟩ := PacksC.at_ ps xs (unhide HP) k hkx
      have l0 := hS _ hSb
      have hst : Stays S w wr := fun b hb => hbel.block b (hS b hb)
      obtain ⟨x60, x61, x62, x63, x64⟩ := five_at (w := wr) (a := ad.add (k * 5)) (c0 := c0) (c1 := c1) (c2 := c2) (c3 := c3) (c4 := c4) (fun j u hu => by rw [add_of_add]; exact (World.cell?_of_block (w := w) (a := ad.add (k * 5 + j)) (by rw [block_of_add]; exact hst _ hSb)).trans (hcell _ _ (hcs j u hu)))
      obtain ⟨k1, n1, t1, e1, K1, m1, kc1, rfl, rfl, rfl, rfl, rfl⟩ := hpc.cells
      have hmemk := List.getElem_mem hkx
      have hcnk : cnt ps[k] ≤ 2000 := by rw [unhide HC1 _ hmemk]; omega
      have hblen : ∀ b, WrP ps[k] b → b.length ≤ 200000 := fun b hb => by have h1 := WrP_len _ b hb (FitsPs_at ps (unhide HFT) _ hmemk); rw [unhide HC1 _ hmemk] at h1; omega
      have hsnoc : ∀ b, WrP ps[k] b → WrPs (ps.take (k + 1)) (bs ++ b) := fun b hb => by rw [List.take_succ_eq_append_getElem hkx]; exact WrPs_snoc _ _ _ _ hwr hb
      have hzr := hbel.size
      have hF0 := hF.lt
      have HPC := hide hpc
      have HST := hide hst
      have HBL := hide hblen
      have HSN := hide hsnoc
      have HL := hide hl
      have HOWN := hide hown
      have HBEL := hide hbel
      have HFR := hide hF
      have hlt2 : (k : Int) < (m : Int) := by omega
      have hk0 : (0 : Int) ≤ (k : Int) := by omega
      unfold maxLen at hcmv
      clear hcell hcs hpc hst hblen hown hbel hF hsnoc hl hwr hmx hv
      go_wp2_with (first
        | (go_at_call 54; go_loud (refine (putPack_all _ ps[k] (Nat.le_refl _) (WfPs_at ps (unhide HWF) _ hmemk) (FitsPs_at ps (unhide HFT) _ hmemk) hcnk _ _ _ _ _ S _ w.heap.size ?xO (fun h => Nat.lt_irrefl _ (hS _ h)) ?xC ?xF).mono ?_; (case xO => exact fun b hb => by have := hS b hb; simp; omega); (case xC => exact PackC.keep (Stays.trans (unhide HST) (stays_below (Stays.refl _ _) (by repeat (first | with_reducible exact Below.refl _ _ | with_reducible exact x | with_reducible refine Below.alloc ?_ (by first | omega | (simp; omega) | (simp; done)) _ | with_reducible refine Below.setCell ?_ (by first | omega | (simp; omega) | (simp; done)) _ | with_reducible refine Below.drew ?_ | with_reducible refine below_drewN ?_ _)) (fun b hb => Nat.lt_of_lt_of_le (hS b hb) hzr))) _ _ (unhide HPC)); (case xF => exact (unhide HFR).below (by repeat (first | with_reducible exact Below.refl _ _ | with_reducible exact x | with_reducible refine Below.alloc ?_ (by first | omega | (simp; omega) | (simp; done)) _ | with_reducible refine Below.setCell ?_ (by first | omega | (simp; omega) | (simp; done)) _ | with_reducible refine Below.drew ?_ | with_reducible refine below_drewN ?_ _)) (unhide HFR).lt); rintro e5 w5 ⟨v5, b5, hP5, rfl, hown5, hg5, hF5⟩; obtain ⟨A5, c5, rfl, hc5, hcm5, hr5⟩ := own_slice hown5; have hG5 : wr.grownBy w5 (some w.heap.size) := grown_trans' (only_of_below (by repeat (first | with_reducible exact Below.refl _ _ | with_reducible exact x | with_reducible refine Below.alloc ?_ (by first | omega | (simp; omega) | (simp; done)) _ | with_reducible refine Below.setCell ?_ (by first | omega | (simp; omega) | (simp; done)) _ | with_reducible refine Below.drew ?_ | with_reducible refine below_drewN ?_ _)) (some w.heap.size)) hg5 (fun _ h => by injection h with h; subst h; exact .inl rfl); have hO5 := own_kept_old (unhide HOWN) hG5 (Nat.lt_succ_self _); have hlb5 := unhide HBL b5 hP5; have hz5 := hG5.size; have HG5 := hide hG5; have HO5 := hide hO5; have HR5 := hide hr5; have HF5 := hide hF5; have HP5 := hide hP5; unfold maxLen at hcm5; clear hown5 hg5 hF5 hr5 hP5 hG5 hO5))
        | (at_builtin; go_loud (refine wpList_append_any (S := fun _ => True) _ rfl _ _ 26 rfl (w.heap.size + 1) 5 i0 _ 1 1 Tryd.underlying26 hi0 hz0 hz1' hz2 rfl (by omega) (.slice A l c) l (bs.map Go.Proofs.YtpadbpmnejgckaaDoor.u8) rfl (unhide HO5) A5 b5.length c5 (b5.map Go.Proofs.YtpadbpmnejgckaaDoor.u8) rfl ((unhide HR5).sub (fun _ _ => trivial)) (u8_one _) (by unfold maxLen; omega) (by omega) (by omega) ?_; intro v6 w6 hown6 hgr6 hat6; obtain ⟨A6, c6, rfl, _, _, _⟩ := own_slice hown6; have HO6 := hide hown6; have HG6 := hide hgr6; clear hown6 hgr6 hat6)))
      go_roundw
      case rel =>
        have hfar : ∀ j, (Value.slice A l c).ownBlock = some j → w.heap.size + 1 ≤ j := fun j hj => (own_ge' (unhide HOWN) j hj).1
        have hF6 := (unhide HF5).grown (unhide HG6) (fun h => by have := hfar _ h.symm; omega)
        have hb5 : Below w.heap.size w w5 := (unhide HBEL).grown (unhide HG5) (unhide HBEL).size (fun j hj => by injection hj with hj; omega)
        have hb6 : Below w.heap.size w w6 := hb5.grown (unhide HG6) hb5.size (fun j hj => by have := hfar j hj; omega)
        refine ⟨k + 1, A6, c6, bs ++ b5, hkx, by go_num, by rw [List.length_append, ← unhide HL], ?_, unhide HSN b5 (unhide HP5), hF6, hb6⟩
        rw [List.length_append, List.map_append, ← unhide HL]
        exact unhide HO6
      case measure => simp [intOf]; omega
    · obtain rfl : k = m := by omega
      have hlt2 : ¬ (k : Int) < (k : Int) := by omega
      have hall : ps.take k = ps := List.take_of_length_le (by omega)
      rw [hall] at hwr
      obtain ⟨A', c', hv, hkc, hkm, hRk⟩ := own_slice hown
      obtain ⟨rfl, _, rfl⟩ := Value.slice.inj hv
      have HRK := hide hRk
      have HB2 := hide hbel
      have HWR := hide hwr
      obtain ⟨L, hL⟩ : ∃ L, L = bs.length := ⟨_, rfl⟩
      rw [← hL]
      have HL := hide hL
      clear hmx hall hown hwr hF hbel hRk hv hL
      go_wp2_with fail
      rw [unhide HT, unhide HL]
      exact ⟨A, c, bs, unhide HWR, rfl, hkc, hkm, (unhide HRK).sub (fun b hb => ⟨by have h1 := hb.1; omega, hb.2⟩), unhide HB2⟩
end Go.Proofs.YtpadbpmnejgckaaDoor
