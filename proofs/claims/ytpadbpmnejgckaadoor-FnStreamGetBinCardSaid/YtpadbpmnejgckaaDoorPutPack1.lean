/-
  spec.PutPack: a value of MessagePack, written in one of its forms (WrP). Conditions: it reads as a value in memory, fits, and is at most 2000 values.
-/
import Derived.Test.YtpadbpmnejgckaaDoorWr
namespace Go.Proofs.YtpadbpmnejgckaaDoor
set_option linter.unusedSimpArgs false
set_option linter.unusedVariables false
set_option linter.unusedVariables false
open Go.RowKit
theorem bytes_own {P : List UInt8 → Prop} {w0 w : World} {g b n : Nat} {cs : Array Value} (bs : List UInt8) (hP : P bs) (hc : cs.toList = bs.map u8) (hn : n = bs.length) (hb : w.heap.size = b) (hg : w0.grownBy w (some g)) (hF : FormsAt w g) (hn2 : n ≤ maxLen) :
    PutH P g w0 (.returned (.slice (some ⟨b, 0, none⟩) n n)) (w.alloc (.cells cs 5)) := by
  subst hb
  refine ⟨_, bs, hP, rfl, ?_, grown_trans' hg (World.grownBy_alloc _ _ none) (fun _ h => by cases h), hF.below ((Below.refl _ _).alloc (Nat.le_refl _) _) hF.lt⟩
  have hs : cs.size = n * 1 := by have := congrArg List.length hc; simp at this; omega
  rw [← hn, ← hc]
  exact World.ownsRow_lit w cs n hg.size hn2 hs
set_option maxRecDepth 100000 in
set_option maxHeartbeats 1600000 in
theorem putPack_0 (k0 : Int) (g n m kc : Nat) (t : List UInt8) (e : Int) (ps : List Pack) (K : Option Addr) (w : World) (hF : FormsAt w g) :
    Calls Tryd.prog 54 #[.agg #[.int .i64 0, .int .u64 n, .string ⟨t.toArray⟩, .int .i64 e, .slice K m kc], .pointer (some ⟨g, 0, none⟩)] w (PutH (WrP (.mk 0 n t e ps)) g w) := by
  have HF := hide hF
  have hgl := hF.lt
  clear hF
  obtain ⟨T, hT⟩ : ∃ T, T = PutH (WrP (.mk 0 n t e ps)) g w := ⟨_, rfl⟩
  rw [← hT]
  have HT := hide hT
  clear hT
  go_enter Tryd.func54, Tryd.ntmps54
  go_wp2
  rw [unhide HT]
  refine bytes_own (n := 1) [UInt8.ofNat 192] ?_ ?_ rfl ?_ (World.grownBy_alloc _ _ _) ((unhide HF).below ((Below.refl _ _).alloc (Nat.le_refl _) _) hgl) (by unfold maxLen; omega)
  · unfold WrP
    exact .inl ⟨rfl, rfl⟩
  · rfl
  · simp
set_option maxRecDepth 100000 in
set_option maxHeartbeats 1600000 in
theorem putPack_1 (k0 : Int) (g n m kc : Nat) (t : List UInt8) (e : Int) (ps : List Pack) (K : Option Addr) (w : World) (hF : FormsAt w g) (hn : n ≤ 1) :
    Calls Tryd.prog 54 #[.agg #[.int .i64 1, .int .u64 n, .string ⟨t.toArray⟩, .int .i64 e, .slice K m kc], .pointer (some ⟨g, 0, none⟩)] w (PutH (WrP (.mk 1 n t e ps)) g w) := by
  have HF := hide hF
  have hgl := hF.lt
  clear hF
  obtain ⟨T, hT⟩ : ∃ T, T = PutH (WrP (.mk 1 n t e ps)) g w := ⟨_, rfl⟩
  rw [← hT]
  have HT := hide hT
  clear hT
  have hn2 : (n : Int) ≤ 1 := by omega
  go_enter Tryd.func54, Tryd.ntmps54
  go_wp2
  rw [unhide HT]
  refine bytes_own (n := 1) [UInt8.ofNat (194 + n)] ?_ ?_ rfl ?_ (World.grownBy_alloc _ _ _) ((unhide HF).below ((Below.refl _ _).alloc (Nat.le_refl _) _) hgl) (by unfold maxLen; omega)
  · unfold WrP
    exact .inr (.inl ⟨rfl, rfl⟩)
  · simp [u8]
    omega
  · simp
set_option maxRecDepth 100000 in
set_option maxHeartbeats 1600000 in
theorem putPack_2n (k0 : Int) (g n m kc : Nat) (t : List UInt8) (e : Int) (ps : List Pack) (K : Option Addr) (w : World) (hF : FormsAt w g) (h1 : 9223372036854775808 ≤ n) (h2 : n < 18446744073709551616) :
    Calls Tryd.prog 54 #[.agg #[.int .i64 2, .int .u64 n, .string ⟨t.toArray⟩, .int .i64 e, .slice K m kc], .pointer (some ⟨g, 0, none⟩)] w (PutH (WrP (.mk 2 n t e ps)) g w) := by
  have HF := hide hF
  have hgl := hF.lt
  clear hF
  obtain ⟨T, hT⟩ : ∃ T, T = PutH (WrP (.mk 2 n t e ps)) g w := ⟨_, rfl⟩
  rw [← hT]
  have HT := hide hT
  clear hT
  go_enter Tryd.func54, Tryd.ntmps54
  go_wp2_with fail
  refine (putInt_neg g n _ ((unhide HF).below ((Below.refl _ _).alloc (Nat.le_refl _) _) hgl) h1 h2).mono ?_
  intro e0 w2 h2'
  obtain ⟨v, bs, h3⟩ := h2'
  have hfin : PutH (WrP (.mk 2 n t e ps)) g w e0 w2 := PutH.more ⟨v, bs, h3⟩ ((Below.refl w.heap.size w).alloc (Nat.le_refl _) _) (fun bs hb => by unfold WrP; exact .inr (.inr (.inl ⟨rfl, h1, hb⟩)))
  obtain ⟨_, rfl, _⟩ := h3
  have HFIN := hide hfin
  clear hfin
  go_wp2
  rw [unhide HT]
  exact unhide HFIN
set_option maxRecDepth 100000 in
set_option maxHeartbeats 1600000 in
theorem putPack_2p (k0 : Int) (g n m kc : Nat) (t : List UInt8) (e : Int) (ps : List Pack) (K : Option Addr) (w : World) (hF : FormsAt w g) (h1 : n < 9223372036854775808) :
    Calls Tryd.prog 54 #[.agg #[.int .i64 2, .int .u64 n, .string ⟨t.toArray⟩, .int .i64 e, .slice K m kc], .pointer (some ⟨g, 0, none⟩)] w (PutH (WrP (.mk 2 n t e ps)) g w) := by
  have HF := hide hF
  have hgl := hF.lt
  clear hF
  obtain ⟨T, hT⟩ : ∃ T, T = PutH (WrP (.mk 2 n t e ps)) g w := ⟨_, rfl⟩
  rw [← hT]
  have HT := hide hT
  clear hT
  go_enter Tryd.func54, Tryd.ntmps54
  go_wp2_with fail
  refine (putInt_pos g n true _ ((unhide HF).below ((Below.refl _ _).alloc (Nat.le_refl _) _) hgl) (.inr h1) (by omega)).mono ?_
  intro e0 w2 h2'
  obtain ⟨v, bs, h3⟩ := h2'
  have hfin : PutH (WrP (.mk 2 n t e ps)) g w e0 w2 := PutH.more ⟨v, bs, h3⟩ ((Below.refl w.heap.size w).alloc (Nat.le_refl _) _) (fun bs hb => by unfold WrP; exact .inr (.inr (.inr (.inl ⟨.inl ⟨rfl, h1⟩, hb⟩))))
  obtain ⟨_, rfl, _⟩ := h3
  have HFIN := hide hfin
  clear hfin
  go_wp2
  rw [unhide HT]
  exact unhide HFIN
set_option maxRecDepth 100000 in
set_option maxHeartbeats 1600000 in
theorem putPack_3 (k0 : Int) (g n m kc : Nat) (t : List UInt8) (e : Int) (ps : List Pack) (K : Option Addr) (w : World) (hF : FormsAt w g) (h2 : n < 18446744073709551616) :
    Calls Tryd.prog 54 #[.agg #[.int .i64 3, .int .u64 n, .string ⟨t.toArray⟩, .int .i64 e, .slice K m kc], .pointer (some ⟨g, 0, none⟩)] w (PutH (WrP (.mk 3 n t e ps)) g w) := by
  have HF := hide hF
  have hgl := hF.lt
  clear hF
  obtain ⟨T, hT⟩ : ∃ T, T = PutH (WrP (.mk 3 n t e ps)) g w := ⟨_, rfl⟩
  rw [← hT]
  have HT := hide hT
  clear hT
  go_enter Tryd.func54, Tryd.ntmps54
  go_wp2_with fail
  refine (putInt_pos g n false _ ((unhide HF).below ((Below.refl _ _).alloc (Nat.le_refl _) _) hgl) (.inl rfl) h2).mono ?_
  intro e0 w2 h2'
  obtain ⟨v, bs, h3⟩ := h2'
  have hfin : PutH (WrP (.mk 3 n t e ps)) g w e0 w2 := PutH.more ⟨v, bs, h3⟩ ((Below.refl w.heap.size w).alloc (Nat.le_refl _) _) (fun bs hb => by unfold WrP; exact .inr (.inr (.inr (.inl ⟨.inr rfl, hb⟩))))
  obtain ⟨_, rfl, _⟩ := h3
  have HFIN := hide hfin
  clear hfin
  go_wp2
  rw [unhide HT]
  exact unhide HFIN
set_option maxRecDepth 100000 in
set_option maxHeartbeats 1600000 in
theorem putPack_4 (k0 : Int) (g n m kc : Nat) (t : List UInt8) (e : Int) (ps : List Pack) (K : Option Addr) (w : World) (hF : FormsAt w g) (h2 : n < 4294967296) :
    Calls Tryd.prog 54 #[.agg #[.int .i64 4, .int .u64 n, .string ⟨t.toArray⟩, .int .i64 e, .slice K m kc], .pointer (some ⟨g, 0, none⟩)] w (PutH (WrP (.mk 4 n t e ps)) g w) := by
  have HF := hide hF
  have hgl := hF.lt
  clear hF
  obtain ⟨T, hT⟩ : ∃ T, T = PutH (WrP (.mk 4 n t e ps)) g w := ⟨_, rfl⟩
  rw [← hT]
  have HT := hide hT
  clear hT
  go_enter Tryd.func54, Tryd.ntmps54
  go_wp2_with fail
  refine (headed_any 202 4 n (by omega) (by omega) (by omega) _).mono ?_
  rintro e0 w2 ⟨v, rfl, hown, hbel⟩
  have hfin : PutH (WrP (.mk 4 n t e ps)) g w (.returned v) w2 := headed_put (World.grownBy_alloc _ _ _) hgl ((unhide HF).below ((Below.refl _ _).alloc (Nat.le_refl _) _) hgl) (by omega) (by omega) hown hbel (by unfold WrP; exact .inr (.inr (.inr (.inr (.inl ⟨rfl, rfl⟩)))))
  have HFIN := hide hfin
  clear hfin hown hbel
  go_wp2
  rw [unhide HT]
  exact unhide HFIN
set_option maxRecDepth 100000 in
set_option maxHeartbeats 1600000 in
theorem putPack_5 (k0 : Int) (g n m kc : Nat) (t : List UInt8) (e : Int) (ps : List Pack) (K : Option Addr) (w : World) (hF : FormsAt w g) (h2 : n < 18446744073709551616) :
    Calls Tryd.prog 54 #[.agg #[.int .i64 5, .int .u64 n, .string ⟨t.toArray⟩, .int .i64 e, .slice K m kc], .pointer (some ⟨g, 0, none⟩)] w (PutH (WrP (.mk 5 n t e ps)) g w) := by
  have HF := hide hF
  have hgl := hF.lt
  clear hF
  obtain ⟨T, hT⟩ : ∃ T, T = PutH (WrP (.mk 5 n t e ps)) g w := ⟨_, rfl⟩
  rw [← hT]
  have HT := hide hT
  clear hT
  go_enter Tryd.func54, Tryd.ntmps54
  go_wp2_with fail
  refine (headed_any 203 8 n (by omega) (by omega) (by omega) _).mono ?_
  rintro e0 w2 ⟨v, rfl, hown, hbel⟩
  have hfin : PutH (WrP (.mk 5 n t e ps)) g w (.returned v) w2 := headed_put (World.grownBy_alloc _ _ _) hgl ((unhide HF).below ((Below.refl _ _).alloc (Nat.le_refl _) _) hgl) (by omega) (by omega) hown hbel (by unfold WrP; exact .inr (.inr (.inr (.inr (.inr (.inl ⟨rfl, rfl⟩))))))
  have HFIN := hide hfin
  clear hfin hown hbel
  go_wp2
  rw [unhide HT]
  exact unhide HFIN
set_option maxRecDepth 100000 in
set_option maxHeartbeats 1600000 in
theorem putPack_6 (k0 : Int) (g n m kc : Nat) (t : List UInt8) (e : Int) (ps : List Pack) (K : Option Addr) (w : World) (hF : FormsAt w g) (htl : t.length ≤ 131072) :
    Calls Tryd.prog 54 #[.agg #[.int .i64 6, .int .u64 n, .string ⟨t.toArray⟩, .int .i64 e, .slice K m kc], .pointer (some ⟨g, 0, none⟩)] w (PutH (WrP (.mk 6 n t e ps)) g w) := by
  have HF := hide hF
  have hgl := hF.lt
  clear hF
  obtain ⟨T, hT⟩ : ∃ T, T = PutH (WrP (.mk 6 n t e ps)) g w := ⟨_, rfl⟩
  rw [← hT]
  have HT := hide hT
  clear hT
  obtain ⟨i0, hi0, hz0, hz1', hz2⟩ := info_parts infoB
  go_enter Tryd.func54, Tryd.ntmps54
  go_wp2
  have s0 : (w.alloc (.cells #[.int .i64 6, .int .u64 n, .string ⟨t.toArray⟩, .int .i64 e, .slice K m kc] 25)).cell? ⟨w.heap.size, 2, none⟩ = some (.string ⟨t.toArray⟩) := by go_simp
  have s1 : (w.alloc (.cells #[.int .i64 6, .int .u64 n, .string ⟨t.toArray⟩, .int .i64 e, .slice K m kc] 25)).cell? ⟨w.heap.size, 3, none⟩ = some (.int .i64 e) := by go_simp
  go_region_held3 (fun W => W.cell? ⟨w.heap.size, 2, none⟩ = some (.string ⟨t.toArray⟩) ∧ W.cell? ⟨w.heap.size, 3, none⟩ = some (.int .i64 e)) (go_keep)
    (first
    | (go_at_call 93; go_loud (refine (putHead_6b g t.length _ (some ⟨w.heap.size + 1, 0, none⟩) (fun b => b = w.heap.size + 1) ?xF (by omega) ?xR ?xS).mono ?_; (case xF => exact (unhide HF).below (by repeat (first | with_reducible exact Below.refl _ _ | with_reducible exact x | with_reducible refine Below.alloc ?_ (by first | omega | (simp; omega) | (simp; done)) _ | with_reducible refine Below.setCell ?_ (by first | omega | (simp; omega) | (simp; done)) _ | with_reducible refine Below.drew ?_ | with_reducible refine below_drewN ?_ _)) hgl); (case xR => exact reads_blk (S := fun b => b = w.heap.size + 1) (t := 160) (cs := #[.int .i64 217, .int .i64 1, .int .i64 218, .int .i64 2, .int .i64 219, .int .i64 4]) (by repeat (first | with_reducible exact Blk.new2 (by first | rfl | simp) | with_reducible refine Blk.drew ?_ | with_reducible refine Blk.drewN ?_ _)) rfl 2 3 rfl); (case xS => (intro b hb; rw [hb]; simp)); rintro e0 w1 ⟨v, bs, hP, rfl, hown, hg1, hF1⟩; obtain ⟨A1, cv1, rfl, hcv1, hcm1, hr1⟩ := own_slice hown; have hlen := HeadIs_len hP; have q0 : w1.cell? ⟨w.heap.size, 2, none⟩ = some (.string ⟨t.toArray⟩) := (World.cell?_of_block (hg1.block w.heap.size (by first | omega | (simp; omega) | (simp; done)) (by intro h; injection h with h; omega))).trans (by go_simp); have q1 : w1.cell? ⟨w.heap.size, 3, none⟩ = some (.int .i64 e) := (World.cell?_of_block (hg1.block w.heap.size (by first | omega | (simp; omega) | (simp; done)) (by intro h; injection h with h; omega))).trans (by go_simp); have hG : w.grownBy w1 (some g) := grown_trans' (only_of_below (by repeat (first | with_reducible exact Below.refl _ _ | with_reducible exact x | with_reducible refine Below.alloc ?_ (by first | omega | (simp; omega) | (simp; done)) _ | with_reducible refine Below.setCell ?_ (by first | omega | (simp; omega) | (simp; done)) _ | with_reducible refine Below.drew ?_ | with_reducible refine below_drewN ?_ _)) (some g)) hg1 (fun _ h => by injection h with h; subst h; exact .inl rfl); have HG := hide hG; have HP := hide hP; have HO := hide (own_base (b' := w.heap.size + 1) hown (by first | omega | (simp; omega) | (simp; done))); have HF1 := hide hF1; have hz1 : w.heap.size + 1 ≤ w1.heap.size := Nat.le_trans (by first | omega | (simp; omega) | (simp; done)) hg1.size; clear hown hg1 hF1 hr1 hP hG))
    | (go_loud (refine step_append_str rfl (.tmp 52) (.tmp 54) 26 9 rfl (w.heap.size + 1) 5 i0 Tryd.underlying26 Tryd.underlying9 hi0 hz0 hz1' hz2 (.slice A1 bs.length cv1) bs.length (bs.map Go.Proofs.YtpadbpmnejgckaaDoor.u8) ?a1 ?a2 t ?a3 (by omega) ?a5 ?_; (case a1 => simp [Act.eval, Act.put]; done); (case a2 => exact unhide HO); (case a3 => simp [Act.eval, Act.put]; done); (case a5 => first | omega | (simp; omega)); intro v' w' hown' hgr; have gq := hgr.block w.heap.size (by omega) (fun h => by have := (own_ge' (unhide HO) _ h.symm).1; omega); have q2 : w'.cell? ⟨w.heap.size, 2, none⟩ = some (.string ⟨t.toArray⟩) := (World.cell?_of_block gq).trans (by assumption); have q3 : w'.cell? ⟨w.heap.size, 3, none⟩ = some (.int .i64 e) := (World.cell?_of_block gq).trans (by assumption); clear gq; have HO2 := hide hown'; have HG2 := hide hgr; clear hown' hgr hi0 hz0 hz1' hz2)))
  all_goals (
    go_wp2
    rw [unhide HT]
    refine ⟨_, bs ++ t, by unfold WrP; exact .inr (.inr (.inr (.inr (.inr (.inr (.inl ⟨rfl, bs, unhide HP, rfl⟩)))))), rfl, by rw [List.length_append, List.map_append]; exact own_base (unhide HO2) (by omega), grown_trans' (unhide HG) (unhide HG2) (fun k hk => .inr (by have := (own_ge' (unhide HO) _ hk).1; omega)), ?_⟩
    obtain ⟨st, b, h1, h2⟩ := unhide HF1
    exact ⟨st, b, h1, h2.grown (unhide HG2) (fun h => by have := (own_ge' (unhide HO) _ h.symm).1; omega)⟩)
set_option maxRecDepth 100000 in
set_option maxHeartbeats 1600000 in
theorem putPack_7 (k0 : Int) (g n m kc : Nat) (t : List UInt8) (e : Int) (ps : List Pack) (K : Option Addr) (w : World) (hF : FormsAt w g) (htl : t.length ≤ 131072) :
    Calls Tryd.prog 54 #[.agg #[.int .i64 7, .int .u64 n, .string ⟨t.toArray⟩, .int .i64 e, .slice K m kc], .pointer (some ⟨g, 0, none⟩)] w (PutH (WrP (.mk 7 n t e ps)) g w) := by
  have HF := hide hF
  have hgl := hF.lt
  clear hF
  obtain ⟨T, hT⟩ : ∃ T, T = PutH (WrP (.mk 7 n t e ps)) g w := ⟨_, rfl⟩
  rw [← hT]
  have HT := hide hT
  clear hT
  obtain ⟨i0, hi0, hz0, hz1', hz2⟩ := info_parts infoB
  go_enter Tryd.func54, Tryd.ntmps54
  go_wp2
  have s0 : (w.alloc (.cells #[.int .i64 7, .int .u64 n, .string ⟨t.toArray⟩, .int .i64 e, .slice K m kc] 25)).cell? ⟨w.heap.size, 2, none⟩ = some (.string ⟨t.toArray⟩) := by go_simp
  have s1 : (w.alloc (.cells #[.int .i64 7, .int .u64 n, .string ⟨t.toArray⟩, .int .i64 e, .slice K m kc] 25)).cell? ⟨w.heap.size, 3, none⟩ = some (.int .i64 e) := by go_simp
  go_region_held3 (fun W => W.cell? ⟨w.heap.size, 2, none⟩ = some (.string ⟨t.toArray⟩) ∧ W.cell? ⟨w.heap.size, 3, none⟩ = some (.int .i64 e)) (go_keep)
    (first
    | (go_at_call 93; go_loud (refine (putHead_7b g t.length _ (some ⟨w.heap.size + 1, 0, none⟩) (fun b => b = w.heap.size + 1) ?xF (by omega) ?xR ?xS).mono ?_; (case xF => exact (unhide HF).below (by repeat (first | with_reducible exact Below.refl _ _ | with_reducible exact x | with_reducible refine Below.alloc ?_ (by first | omega | (simp; omega) | (simp; done)) _ | with_reducible refine Below.setCell ?_ (by first | omega | (simp; omega) | (simp; done)) _ | with_reducible refine Below.drew ?_ | with_reducible refine below_drewN ?_ _)) hgl); (case xR => exact reads_blk (S := fun b => b = w.heap.size + 1) (t := 160) (cs := #[.int .i64 196, .int .i64 1, .int .i64 197, .int .i64 2, .int .i64 198, .int .i64 4]) (by repeat (first | with_reducible exact Blk.new2 (by first | rfl | simp) | with_reducible refine Blk.drew ?_ | with_reducible refine Blk.drewN ?_ _)) rfl 2 3 rfl); (case xS => (intro b hb; rw [hb]; simp)); rintro e0 w1 ⟨v, bs, hP, rfl, hown, hg1, hF1⟩; obtain ⟨A1, cv1, rfl, hcv1, hcm1, hr1⟩ := own_slice hown; have hlen := HeadIs_len hP; have q0 : w1.cell? ⟨w.heap.size, 2, none⟩ = some (.string ⟨t.toArray⟩) := (World.cell?_of_block (hg1.block w.heap.size (by first | omega | (simp; omega) | (simp; done)) (by intro h; injection h with h; omega))).trans (by go_simp); have q1 : w1.cell? ⟨w.heap.size, 3, none⟩ = some (.int .i64 e) := (World.cell?_of_block (hg1.block w.heap.size (by first | omega | (simp; omega) | (simp; done)) (by intro h; injection h with h; omega))).trans (by go_simp); have hG : w.grownBy w1 (some g) := grown_trans' (only_of_below (by repeat (first | with_reducible exact Below.refl _ _ | with_reducible exact x | with_reducible refine Below.alloc ?_ (by first | omega | (simp; omega) | (simp; done)) _ | with_reducible refine Below.setCell ?_ (by first | omega | (simp; omega) | (simp; done)) _ | with_reducible refine Below.drew ?_ | with_reducible refine below_drewN ?_ _)) (some g)) hg1 (fun _ h => by injection h with h; subst h; exact .inl rfl); have HG := hide hG; have HP := hide hP; have HO := hide (own_base (b' := w.heap.size + 1) hown (by first | omega | (simp; omega) | (simp; done))); have HF1 := hide hF1; have hz1 : w.heap.size + 1 ≤ w1.heap.size := Nat.le_trans (by first | omega | (simp; omega) | (simp; done)) hg1.size; clear hown hg1 hF1 hr1 hP hG))
    | (go_loud (refine step_append_str rfl (.tmp 66) (.tmp 68) 26 9 rfl (w.heap.size + 1) 5 i0 Tryd.underlying26 Tryd.underlying9 hi0 hz0 hz1' hz2 (.slice A1 bs.length cv1) bs.length (bs.map Go.Proofs.YtpadbpmnejgckaaDoor.u8) ?a1 ?a2 t ?a3 (by omega) ?a5 ?_; (case a1 => simp [Act.eval, Act.put]; done); (case a2 => exact unhide HO); (case a3 => simp [Act.eval, Act.put]; done); (case a5 => first | omega | (simp; omega)); intro v' w' hown' hgr; have gq := hgr.block w.heap.size (by omega) (fun h => by have := (own_ge' (unhide HO) _ h.symm).1; omega); have q2 : w'.cell? ⟨w.heap.size, 2, none⟩ = some (.string ⟨t.toArray⟩) := (World.cell?_of_block gq).trans (by assumption); have q3 : w'.cell? ⟨w.heap.size, 3, none⟩ = some (.int .i64 e) := (World.cell?_of_block gq).trans (by assumption); clear gq; have HO2 := hide hown'; have HG2 := hide hgr; clear hown' hgr hi0 hz0 hz1' hz2)))
  all_goals (
    go_wp2
    rw [unhide HT]
    refine ⟨_, bs ++ t, by unfold WrP; exact .inr (.inr (.inr (.inr (.inr (.inr (.inr (.inl ⟨rfl, bs, unhide HP, rfl⟩))))))), rfl, by rw [List.length_append, List.map_append]; exact own_base (unhide HO2) (by omega), grown_trans' (unhide HG) (unhide HG2) (fun k hk => .inr (by have := (own_ge' (unhide HO) _ hk).1; omega)), ?_⟩
    obtain ⟨st, b, h1, h2⟩ := unhide HF1
    exact ⟨st, b, h1, h2.grown (unhide HG2) (fun h => by have := (own_ge' (unhide HO) _ h.symm).1; omega)⟩)
set_option maxRecDepth 100000 in
set_option maxHeartbeats 1600000 in
theorem putPack_10 (k0 : Int) (g n m kc : Nat) (t : List UInt8) (e : Int) (ps : List Pack) (K : Option Addr) (w : World) (hF : FormsAt w g) (htl : t.length ≤ 131072) :
    Calls Tryd.prog 54 #[.agg #[.int .i64 10, .int .u64 n, .string ⟨t.toArray⟩, .int .i64 e, .slice K m kc], .pointer (some ⟨g, 0, none⟩)] w (PutH (WrP (.mk 10 n t e ps)) g w) := by
  have HF := hide hF
  have hgl := hF.lt
  clear hF
  obtain ⟨T, hT⟩ : ∃ T, T = PutH (WrP (.mk 10 n t e ps)) g w := ⟨_, rfl⟩
  rw [← hT]
  have HT := hide hT
  clear hT
  obtain ⟨i0, hi0, hz0, hz1', hz2⟩ := info_parts infoB
  go_enter Tryd.func54, Tryd.ntmps54
  go_wp2
  have s0 : (w.alloc (.cells #[.int .i64 10, .int .u64 n, .string ⟨t.toArray⟩, .int .i64 e, .slice K m kc] 25)).cell? ⟨w.heap.size, 2, none⟩ = some (.string ⟨t.toArray⟩) := by go_simp
  have s1 : (w.alloc (.cells #[.int .i64 10, .int .u64 n, .string ⟨t.toArray⟩, .int .i64 e, .slice K m kc] 25)).cell? ⟨w.heap.size, 3, none⟩ = some (.int .i64 e) := by go_simp
  go_region_held3 (fun W => W.cell? ⟨w.heap.size, 2, none⟩ = some (.string ⟨t.toArray⟩) ∧ W.cell? ⟨w.heap.size, 3, none⟩ = some (.int .i64 e)) (go_keep)
    (first
    | (go_at_call 94; go_loud (refine (putExt_any g t.length e _ ?xF (by omega)).mono ?_; (case xF => exact (unhide HF).below (by repeat (first | with_reducible exact Below.refl _ _ | with_reducible exact x | with_reducible refine Below.alloc ?_ (by first | omega | (simp; omega) | (simp; done)) _ | with_reducible refine Below.setCell ?_ (by first | omega | (simp; omega) | (simp; done)) _ | with_reducible refine Below.drew ?_ | with_reducible refine below_drewN ?_ _)) hgl); rintro e0 w1 ⟨v, bs, hP, rfl, hown, hg1, hF1⟩; obtain ⟨A1, cv1, rfl, hcv1, hcm1, hr1⟩ := own_slice hown; have hlen := extF_len hP; have q0 : w1.cell? ⟨w.heap.size, 2, none⟩ = some (.string ⟨t.toArray⟩) := (World.cell?_of_block (hg1.block w.heap.size (by first | omega | (simp; omega) | (simp; done)) (by intro h; injection h with h; omega))).trans (by go_simp); have q1 : w1.cell? ⟨w.heap.size, 3, none⟩ = some (.int .i64 e) := (World.cell?_of_block (hg1.block w.heap.size (by first | omega | (simp; omega) | (simp; done)) (by intro h; injection h with h; omega))).trans (by go_simp); have hG : w.grownBy w1 (some g) := grown_trans' (only_of_below (by repeat (first | with_reducible exact Below.refl _ _ | with_reducible exact x | with_reducible refine Below.alloc ?_ (by first | omega | (simp; omega) | (simp; done)) _ | with_reducible refine Below.setCell ?_ (by first | omega | (simp; omega) | (simp; done)) _ | with_reducible refine Below.drew ?_ | with_reducible refine below_drewN ?_ _)) (some g)) hg1 (fun _ h => by injection h with h; subst h; exact .inl rfl); have HG := hide hG; have HP := hide hP; have HO := hide (own_base (b' := w.heap.size + 1) hown (by first | omega | (simp; omega) | (simp; done))); have HF1 := hide hF1; have hz1 : w.heap.size + 1 ≤ w1.heap.size := Nat.le_trans (by first | omega | (simp; omega) | (simp; done)) hg1.size; clear hown hg1 hF1 hr1 hP hG))
    | (go_loud (refine step_append_str rfl (.tmp 78) (.tmp 80) 26 9 rfl (w.heap.size + 1) 5 i0 Tryd.underlying26 Tryd.underlying9 hi0 hz0 hz1' hz2 (.slice A1 bs.length cv1) bs.length (bs.map Go.Proofs.YtpadbpmnejgckaaDoor.u8) ?a1 ?a2 t ?a3 (by omega) ?a5 ?_; (case a1 => simp [Act.eval, Act.put]; done); (case a2 => exact unhide HO); (case a3 => simp [Act.eval, Act.put]; done); (case a5 => first | omega | (simp; omega)); intro v' w' hown' hgr; have gq := hgr.block w.heap.size (by omega) (fun h => by have := (own_ge' (unhide HO) _ h.symm).1; omega); have q2 : w'.cell? ⟨w.heap.size, 2, none⟩ = some (.string ⟨t.toArray⟩) := (World.cell?_of_block gq).trans (by assumption); have q3 : w'.cell? ⟨w.heap.size, 3, none⟩ = some (.int .i64 e) := (World.cell?_of_block gq).trans (by assumption); clear gq; have HO2 := hide hown'; have HG2 := hide hgr; clear hown' hgr hi0 hz0 hz1' hz2)))
  all_goals (
    go_wp2
    rw [unhide HT]
    refine ⟨_, bs ++ t, by unfold WrP; exact .inr (.inr (.inr (.inr (.inr (.inr (.inr (.inr (.inl ⟨rfl, bs, unhide HP, rfl⟩)))))))), rfl, by rw [List.length_append, List.map_append]; exact own_base (unhide HO2) (by omega), grown_trans' (unhide HG) (unhide HG2) (fun k hk => .inr (by have := (own_ge' (unhide HO) _ hk).1; omega)), ?_⟩
    obtain ⟨st, b, h1, h2⟩ := unhide HF1
    exact ⟨st, b, h1, h2.grown (unhide HG2) (fun h => by have := (own_ge' (unhide HO) _ h.symm).1; omega)⟩)
end Go.Proofs.YtpadbpmnejgckaaDoor
