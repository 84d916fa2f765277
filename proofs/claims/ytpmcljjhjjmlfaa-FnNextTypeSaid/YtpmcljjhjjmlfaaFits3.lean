/-
  spec.packFits: if it answers true the value fits (FitsP). Conditions: it reads as a value in memory; at most 1000 levels.
-/
import Derived.Test.YtpmcljjhjjmlfaaFits2
import Derived.Test.YtpmcljjhjjmlfaaFitsP
import Derived.BigGuardPart
namespace Go.Proofs.Ytpmcljjhjjmlfaa
set_option linter.unusedSimpArgs false
set_option linter.unusedVariables false
set_option linter.unusedVariables false
open Go.RowKit
/-- What packFits says of a value without its kids: its first tests. -/
def HeadF1 (lv k n e : Int) (T : ByteArray) (m : Nat) : Prop :=
  0 < lv ∧ 0 ≤ k ∧ k < 11 ∧ ((k = 8 ∨ k = 9) ∨ m = 0) ∧ ((k = 6 ∨ k = 7 ∨ k = 10) ∨ T.toList = []) ∧ ((1 ≤ k ∧ k ≤ 5) ∨ n = 0) ∧ (k = 10 ∨ e = 0) ∧ -128 ≤ e ∧ e ≤ 127
/-- Its later tests. -/
def HeadF2 (k n : Int) (T : ByteArray) (m : Nat) : Prop :=
  (k = 1 → n ≤ 1) ∧ (k = 4 → n < 4294967296) ∧ (k = 9 → m % 2 = 0) ∧ m ≤ 2000 ∧ T.size ≤ 131072
theorem headF1_mk {lv k n e : Int} {T : ByteArray} {m : Nat} {bk bt bn : Bool} (H5 : Hid (bk = true → k = 8 ∨ k = 9)) (H6 : Hid (bt = true → k = 6 ∨ k = 7 ∨ k = 10)) (H7 : Hid (bn = true → 1 ≤ k ∧ k ≤ 5))
    (h1 : 0 < lv) (h2 : 0 ≤ k) (h3 : k < 11) (h4 : bk = true ∨ ¬ 0 < m) (h5 : bt = true ∨ T.toList.isEmpty = true) (h6 : bn = true ∨ n = 0) (h7 : k = 10 ∨ e = 0) (h8 : -128 ≤ e) (h9 : e ≤ 127) : HeadF1 lv k n e T m :=
  ⟨h1, h2, h3, h4.imp (unhide H5) (fun h => by omega), h5.imp (unhide H6) (fun h => List.isEmpty_iff.1 h), h6.imp (unhide H7) id, h7, h8, h9⟩
theorem fit_of {lv k e : Int} {n : Nat} {t : List UInt8} {m : Nat} (h1 : HeadF1 lv k n e ⟨t.toArray⟩ m) (h2 : HeadF2 k n ⟨t.toArray⟩ m) : FitHd k n t e m := by
  obtain ⟨_, a, b, c, d, f, g, i, j⟩ := h1
  obtain ⟨p, q, r, s, u⟩ := h2
  rw [ByteArray.toList_mk] at d
  refine ⟨a, b, c, d, f.imp id (fun h => by omega), g, i, j, fun h => by have := p h; omega, fun h => by have := q h; omega, r, s, ?_⟩
  simpa [ByteArray.size] using u
/-- What packFits answers. -/
def FitsR (p : Pack) (w : World) (e : Ending) (w' : World) : Prop := ∃ b : Bool, e = .returned (.bool b) ∧ Below w.heap.size w w' ∧ (b = true → FitsP p)
def PackFitsAt (N : Nat) : Prop := ∀ (p : Pack), SizeOf.sizeOf p ≤ N → ∀ (c0 c1 c2 c3 c4 : Value) (S : Nat → Prop) (w : World) (lv : Int), 0 ≤ lv → lv ≤ 1000 → Old w S → PackC w S p [c0, c1, c2, c3, c4] →
  Calls Try.prog 14 #[.agg #[c0, c1, c2, c3, c4], .int .i64 lv] w (FitsR p w)
set_option maxRecDepth 100000 in
set_option maxHeartbeats 12800000 in
theorem packFits_step (N : Nat) (ih : PackFitsAt N) (k e lv : Int) (n m : Nat) (T : ByteArray) (t : List UInt8) (ps : List Pack) (K : Option Addr) (kc : Nat) (xs : List Value) (S : Nat → Prop) (w : World) (hT : T = ⟨t.toArray⟩) (hm : m = ps.length) (hmk : m ≤ maxLen)
    (hS : Old w S) (hr : Reads w S 5 K m xs) (hp : PacksC w S ps xs) (hsz : ∀ p ∈ ps, SizeOf.sizeOf p ≤ N) (hlv : 0 ≤ lv) (hlv2 : lv ≤ 1000) :
    Calls Try.prog 14 #[.agg #[.int .i64 k, .int .u64 n, .string T, .int .i64 e, .slice K m kc], .int .i64 lv] w (FitsR (.mk k n t e ps) w) := by
  have IH := hide ih
  have HM := hide hm
  have HP := hide hp
  have HT := hide hT
  have HR := hide hr
  clear ih hm hp hT hr
  unfold maxLen at hmk
  go_enter Try.func14, Try.ntmps14
  go_upto_region 1 with fail
  go_cut [0, 5] (fun s0 s wx => ∃ b : Bool, s = .bool b ∧ wx = (w.alloc (.cells #[.int .i64 k, .int .u64 n, .string T, .int .i64 e, .slice K m kc] 25)) ∧ (b = true → k = 8 ∨ k = 9))
  case first => as_aux_lemma =>
    go_wp2
    all_goals go_meet
    all_goals exact ⟨_, rfl, by first | rfl | simp only [*], by first | (simp; omega) | simp⟩
  case rest =>
  obtain ⟨bk, rfl, rfl, hbk⟩ := hcut
  go_upto_region 2 with fail
  go_cut [0, 6] (fun s0 s wx => ∃ b : Bool, s = .bool b ∧ wx = (w.alloc (.cells #[.int .i64 k, .int .u64 n, .string T, .int .i64 e, .slice K m kc] 25)) ∧ (b = true → k = 6 ∨ k = 7 ∨ k = 10))
  case first => as_aux_lemma =>
    go_wp2
    all_goals go_meet
    all_goals exact ⟨_, rfl, by first | rfl | simp only [*], by first | (simp; omega) | simp⟩
  case rest =>
  obtain ⟨bt, rfl, rfl, hbt⟩ := hcut
  go_upto_region 3 with fail
  go_cut [0, 7] (fun s0 s wx => ∃ b : Bool, s = .bool b ∧ wx = (w.alloc (.cells #[.int .i64 k, .int .u64 n, .string T, .int .i64 e, .slice K m kc] 25)) ∧ (b = true → 1 ≤ k ∧ k ≤ 5))
  case first => as_aux_lemma =>
    go_wp2
    all_goals go_meet
    all_goals exact ⟨_, rfl, by first | rfl | simp only [*], by first | (simp; omega) | simp⟩
  case rest =>
  obtain ⟨bn, rfl, rfl, hbn⟩ := hcut
  go_upto_region 4 with fail
  have HBK := hide hbk
  have HBT := hide hbt
  have HBN := hide hbn
  clear hbk hbt hbn
  go_cut [0, 5, 6, 7, 98] (fun s0 s5 s6 s7 s wx => ∃ b, s = .bool b ∧ wx = (w.alloc (.cells #[.int .i64 k, .int .u64 n, .string T, .int .i64 e, .slice K m kc] 25)) ∧ (b = false → HeadF1 lv k n e T m))
  case first => as_aux_lemma =>
    go_wp2
    all_goals go_meet
    all_goals refine ⟨_, rfl, by first | rfl | simp only [*], fun hb => ?_⟩
    all_goals first
      | (cases hb; done)
      | exact headF1_mk HBK HBT HBN (by omega) (by omega) (by omega) (by first | exact .inl (by assumption) | exact .inr (by assumption)) (by first | exact .inl (by assumption) | exact .inr (by assumption)) (by first | exact .inl (by assumption) | exact .inr (by omega)) (by omega) (by omega) (by simp at hb; omega)
  case rest =>
  obtain ⟨b, rfl, rfl, hf1⟩ := hcut
  have HF1 := hide hf1
  clear hf1 HBK HBT HBN
  rcases b with _ | _
  · go_upto_region 6 with fail
    go_cut [0, 141] (fun s0 s wx => ∃ b, s = .bool b ∧ wx = (w.alloc (.cells #[.int .i64 k, .int .u64 n, .string T, .int .i64 e, .slice K m kc] 25)) ∧ (b = false → HeadF2 k n T m))
    case first => as_aux_lemma =>
      go_wp2
      all_goals go_meet
      all_goals refine ⟨_, rfl, by first | rfl | simp only [*], fun hb => ?_⟩
      all_goals first
        | (cases hb; done)
        | exact ⟨fun _ => by omega, fun _ => by omega, fun _ => by omega, by omega, by simp at hb; omega⟩
    case rest =>
    obtain ⟨b, rfl, rfl, hf2⟩ := hcut
    have HF2 := hide hf2
    clear hf2
    rcases b with _ | _
    · have h1 := unhide HF1 rfl
      have h2 := unhide HF2 rfl
      have hlp := h1.1
      rw [unhide HT] at h1 h2
      have HFIT := hide (fit_of h1 h2)
      clear h1 h2 HF1 HF2 hlv
      go_wp2
      go_loopw [145] (fun i wr => ∃ k0 : Nat, i = .int .i64 k0 ∧ k0 ≤ m ∧ FitsPs (ps.take k0) ∧ Below w.heap.size w wr) (fun i _ => m - (intOf i).toNat)
      case atStart => exact ⟨0, rfl, Nat.zero_le _, by rw [List.take_zero]; trivial, (by repeat (first | with_reducible exact Below.refl _ _ | with_reducible exact x | with_reducible refine Below.alloc ?_ (by first | omega | (simp; omega) | (simp; done)) _ | with_reducible refine Below.setCell ?_ (by first | omega | (simp; omega) | (simp; done)) _ | with_reducible refine Below.drew ?_ | with_reducible refine below_drewN ?_ _))⟩
      case round =>
        obtain ⟨k0, rfl, hk0, hfit, hbel⟩ := hrel
        have HFI := hide hfit
        clear hfit
        by_cases hlt : k0 < m
        · obtain ⟨ad, rfl, hSb, hcell⟩ := (unhide HR).2 (by omega)
          have hl1 : k0 < ps.length := by have := unhide HM; omega
          obtain ⟨c0, c1, c2, c3, c4, hcs, hpc⟩ := PacksC.at_ ps xs (unhide HP) k0 hl1
          have l0 := hS _ hSb
          obtain ⟨x60, x61, x62, x63, x64⟩ := five_at (w := wr) (a := ad.add (k0 * 5)) (c0 := c0) (c1 := c1) (c2 := c2) (c3 := c3) (c4 := c4) (fun j u hu => by rw [add_of_add]; exact (hbel.cell (p := ad.add (k0 * 5 + j)) (by rw [block_of_add]; exact l0)).trans (hcell _ _ (hcs j u hu)))
          obtain ⟨k1, n1, t1, e1, K1, m1, kc1, rfl, rfl, rfl, rfl, rfl⟩ := hpc.cells
          have HPC := hide hpc
          have HC := hide hcell
          clear hcell hcs hpc
          have hbz := hbel.size
          go_wp2_with fail
          refine (unhide IH ps[k0] (hsz _ (List.getElem_mem hl1)) _ _ _ _ _ S _ (lv - 1) (by omega) (by omega) (old_below ?h1 hS) (PackC.keep (stays_below (Stays.refl _ _) ?h1 hS) _ _ (unhide HPC))).mono ?_
          case h1 => exact (by repeat (first | with_reducible exact Below.refl _ _ | with_reducible exact hbel | with_reducible refine Below.alloc ?_ (by first | omega | (simp; omega) | (simp; done)) _ | with_reducible refine Below.setCell ?_ (by first | omega | (simp; omega) | (simp; done)) _ | with_reducible refine Below.drew ?_ | with_reducible refine below_drewN ?_ _))
          rintro x w5 ⟨b5, rfl, hb5, hft⟩
          have hw5 : Below w.heap.size w w5 := Below.trans (by repeat (first | with_reducible exact Below.refl _ _ | with_reducible exact hbel | with_reducible refine Below.alloc ?_ (by first | omega | (simp; omega) | (simp; done)) _ | with_reducible refine Below.setCell ?_ (by first | omega | (simp; omega) | (simp; done)) _ | with_reducible refine Below.drew ?_ | with_reducible refine below_drewN ?_ _)) (hb5.mono (by have := hbel.size; simp; omega))
          rcases b5 with _ | _
          · go_wp2
            go_ret
            exact ⟨false, rfl, hw5, fun h => by cases h⟩
          · have HFT := hide (hft rfl)
            clear hft
            go_wp2
            go_roundw
            case rel => exact ⟨k0 + 1, by go_num, by omega, by rw [List.take_succ_eq_append_getElem hl1]; exact FitsPs_snoc _ _ (unhide HFI) (unhide HFT), hw5⟩
            case measure => simp [intOf]; omega
        · obtain rfl : k0 = m := by omega
          have hfull : FitsPs ps := by have h := unhide HFI; rwa [unhide HM, List.take_length] at h
          have HFULL := hide hfull
          clear hfull
          go_wp2
          go_ret
          exact ⟨true, rfl, hbel, fun _ => by unfold FitsP; rw [← unhide HM]; exact ⟨unhide HFIT, unhide HFULL⟩⟩
    · go_wp2
      go_ret
      exact ⟨false, rfl, (by repeat (first | with_reducible exact Below.refl _ _ | with_reducible exact x | with_reducible refine Below.alloc ?_ (by first | omega | (simp; omega) | (simp; done)) _ | with_reducible refine Below.setCell ?_ (by first | omega | (simp; omega) | (simp; done)) _ | with_reducible refine Below.drew ?_ | with_reducible refine below_drewN ?_ _)), fun h => by cases h⟩
  · go_wp2
    go_ret
    exact ⟨false, rfl, (by repeat (first | with_reducible exact Below.refl _ _ | with_reducible exact x | with_reducible refine Below.alloc ?_ (by first | omega | (simp; omega) | (simp; done)) _ | with_reducible refine Below.setCell ?_ (by first | omega | (simp; omega) | (simp; done)) _ | with_reducible refine Below.drew ?_ | with_reducible refine below_drewN ?_ _)), fun h => by cases h⟩
theorem packFits_all : ∀ N, PackFitsAt N
  | 0 => by
    intro p hp
    cases p
    simp at hp
  | N + 1 => by
    intro p hsz c0 c1 c2 c3 c4 S w lv hlv hlv2 hS hp
    cases p with
    | mk k n t e ps =>
    unfold PackC at hp
    obtain ⟨K, kc, xs, hc, h1, h2, h3, h4⟩ := hp
    simp only [List.cons.injEq, and_true] at hc
    obtain ⟨rfl, rfl, rfl, rfl, rfl⟩ := hc
    exact packFits_step N (packFits_all N) k e lv n ps.length _ t ps K kc xs S w rfl rfl (Nat.le_trans h1 h2) hS h3 h4 (fun p hp => by have := sizeOf_mem ps p hp; simp at hsz; omega) hlv hlv2
end Go.Proofs.Ytpmcljjhjjmlfaa
