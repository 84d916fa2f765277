/-
  spec.Packs, spec.packFits: a value of MessagePack counted and looked at. Conditions: it reads as a value in memory.
-/
import Derived.Test.YtpadbpmnejgckaaDoorFits
import Derived.Deep.DeepCutAuto
namespace Go.Proofs.YtpadbpmnejgckaaDoor
set_option linter.unusedSimpArgs false
set_option linter.unusedVariables false
set_option linter.unusedVariables false
open Go.RowKit
def PacksAt (N : Nat) : Prop := ∀ (p : Pack), SizeOf.sizeOf p ≤ N → ∀ (c0 c1 c2 c3 c4 : Value) (S : Nat → Prop) (w : World), Old w S → PackC w S p [c0, c1, c2, c3, c4] → cnt p ≤ 2000 →
  Calls Tryd.prog 53 #[.agg #[c0, c1, c2, c3, c4]] w fun x w' => x = .returned (.int .i64 (cnt p : Nat)) ∧ Below w.heap.size w w'
theorem PackC.cells {w : World} {S : Nat → Prop} {p : Pack} {c0 c1 c2 c3 c4 : Value} (h : PackC w S p [c0, c1, c2, c3, c4]) :
    ∃ k n t e K m kc, c0 = .int .i64 k ∧ c1 = .int .u64 n ∧ c2 = .string t ∧ c3 = .int .i64 e ∧ c4 = .slice K m kc := by
  cases p with
  | mk k n t e ps =>
  unfold PackC at h
  obtain ⟨K, kc, xs, hc, _⟩ := h
  simp only [List.cons.injEq, and_true] at hc
  obtain ⟨rfl, rfl, rfl, rfl, rfl⟩ := hc
  exact ⟨_, _, _, _, _, _, _, rfl, rfl, rfl, rfl, rfl⟩
theorem cnts_le : ∀ (ps : List Pack) (k : Nat), cnts (ps.take k) ≤ cnts ps
  | [], k => by simp
  | p :: ps, 0 => by simp [cnts]
  | p :: ps, k + 1 => by
    have := cnts_le ps k
    simp only [List.take_succ_cons, cnts]
    omega
set_option maxRecDepth 100000 in
set_option maxHeartbeats 1600000 in
theorem packs_step (N : Nat) (ih : PacksAt N) (k e : Int) (n m : Nat) (t : List UInt8) (ps : List Pack) (K : Option Addr) (kc : Nat) (xs : List Value) (S : Nat → Prop) (w : World) (hm : m = ps.length) (hmk : m ≤ maxLen)
    (hS : Old w S) (hr : Reads w S 5 K m xs) (hp : PacksC w S ps xs) (hsz : ∀ p ∈ ps, SizeOf.sizeOf p ≤ N) (hl2 : 1 + cnts ps ≤ 2000) :
    Calls Tryd.prog 53 #[.agg #[.int .i64 k, .int .u64 n, .string ⟨t.toArray⟩, .int .i64 e, .slice K m kc]] w fun x w' => x = .returned (.int .i64 (1 + cnts ps : Nat)) ∧ Below w.heap.size w w' := by
  have IH := hide ih
  have HM := hide hm
  have HP := hide hp
  clear ih hm hp
  unfold maxLen at hmk
  go_enter Tryd.func53, Tryd.ntmps53
  go_wp2
  go_loopw [3, 9] (fun c i wr => ∃ k0 : Nat, i = .int .i64 k0 ∧ k0 ≤ m ∧ c = .int .i64 ((1 + cnts (ps.take k0) : Nat) : Int) ∧ Below w.heap.size w wr) (fun _ i _ => m - (intOf i).toNat)
  case atStart => exact ⟨0, rfl, Nat.zero_le _, by simp [cnts], (by repeat (first | with_reducible exact Below.refl _ _ | with_reducible exact x | with_reducible refine Below.alloc ?_ (by first | omega | (simp; omega) | (simp; done)) _ | with_reducible refine Below.setCell ?_ (by first | omega | (simp; omega) | (simp; done)) _ | with_reducible refine Below.drew ?_ | with_reducible refine below_drewN ?_ _))⟩
  case round =>
    obtain ⟨k0, rfl, hk0, rfl, hbel⟩ := hrel
    by_cases hlt : k0 < m
    · obtain ⟨ad, rfl, hSb, hcell⟩ := hr.2 (by omega)
      have hl1 : k0 < ps.length := by have := unhide HM; omega
      obtain ⟨c0, c1, c2, c3, c4, hcs, hpc⟩ := PacksC.at_ ps xs (unhide HP) k0 hl1
      have l0 := hS _ hSb
      obtain ⟨x60, x61, x62, x63, x64⟩ := five_at (w := wr) (a := ad.add (k0 * 5)) (c0 := c0) (c1 := c1) (c2 := c2) (c3 := c3) (c4 := c4) (fun j u hu => by rw [add_of_add]; exact (hbel.cell (p := ad.add (k0 * 5 + j)) (by rw [block_of_add]; exact l0)).trans (hcell _ _ (hcs j u hu)))
      obtain ⟨k1, n1, t1, e1, K1, m1, kc1, rfl, rfl, rfl, rfl, rfl⟩ := hpc.cells
      have HPC := hide hpc
      have HR := hide hr
      have HC := hide hcell
      clear hr hcell hcs hpc
      have hct := cnts_take ps k0 hl1
      have hle := cnts_le ps (k0 + 1)
      have hbz := hbel.size
      go_wp2_with fail
      refine (unhide IH ps[k0] (hsz _ (List.getElem_mem hl1)) _ _ _ _ _ S _ (old_below ?h1 hS) (PackC.keep (stays_below (Stays.refl _ _) ?h1 hS) _ _ (unhide HPC)) (by omega)).mono ?_
      case h1 => exact (by repeat (first | with_reducible exact Below.refl _ _ | with_reducible exact hbel | with_reducible refine Below.alloc ?_ (by first | omega | (simp; omega) | (simp; done)) _ | with_reducible refine Below.setCell ?_ (by first | omega | (simp; omega) | (simp; done)) _ | with_reducible refine Below.drew ?_ | with_reducible refine below_drewN ?_ _))
      rintro x w5 ⟨rfl, hb5⟩
      have hw5 : Below w.heap.size w w5 := Below.trans (by repeat (first | with_reducible exact Below.refl _ _ | with_reducible exact hbel | with_reducible refine Below.alloc ?_ (by first | omega | (simp; omega) | (simp; done)) _ | with_reducible refine Below.setCell ?_ (by first | omega | (simp; omega) | (simp; done)) _ | with_reducible refine Below.drew ?_ | with_reducible refine below_drewN ?_ _)) (hb5.mono (by have := hbel.size; simp; omega))
      generalize cnt ps[k0] = q at *
      go_wp2
      go_roundw
      case rel => exact ⟨k0 + 1, by go_num, by omega, by go_num, hw5⟩
      case measure => simp [intOf]; omega
    · obtain rfl : k0 = m := by omega
      have hfull : ps.take k0 = ps := by rw [unhide HM, List.take_length]
      rw [hfull]
      clear hfull
      go_wp2
      go_ret
      exact ⟨rfl, hbel⟩
theorem packs_all : ∀ N, PacksAt N
  | 0 => by
    intro p hp
    cases p
    simp at hp
  | N + 1 => by
    intro p hsz c0 c1 c2 c3 c4 S w hS hp hl2
    cases p with
    | mk k n t e ps =>
    unfold PackC at hp
    obtain ⟨K, kc, xs, hc, h1, h2, h3, h4⟩ := hp
    simp only [List.cons.injEq, and_true] at hc
    obtain ⟨rfl, rfl, rfl, rfl, rfl⟩ := hc
    unfold cnt at hl2 ⊢
    exact packs_step N (packs_all N) k e n ps.length t ps K kc xs S w rfl (Nat.le_trans h1 h2) hS h3 h4 (fun p hp => by have := sizeOf_mem ps p hp; simp at hsz; omega) hl2
end Go.Proofs.YtpadbpmnejgckaaDoor
