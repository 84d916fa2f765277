/-
  spec.fewPacks, spec.Packs: a value of MessagePack counted. Conditions: it reads as a value in memory.
-/
import Derived.Test.YtpadbpmnejgckaaDoorPackC
import Derived.Test.YtpadbpmnejgckaaDoorForms4
import Derived.Test.YtpadbpmnejgckaaDoorOwn
import Derived.StillTailTactics
namespace Go.Proofs.YtpadbpmnejgckaaDoor
set_option linter.unusedSimpArgs false
set_option linter.unusedVariables false
set_option linter.unusedVariables false
open Go.RowKit
mutual
/-- How many values a value is. -/
def cnt : Pack → Nat
  | .mk _ _ _ _ ks => 1 + cnts ks
def cnts : List Pack → Nat
  | [] => 0
  | p :: ps => cnt p + cnts ps
end
theorem cnts_snoc : ∀ (ps : List Pack) (p : Pack), cnts (ps ++ [p]) = cnts ps + cnt p
  | [], p => by simp [cnts]
  | q :: ps, p => by
    simp only [List.cons_append, cnts, cnts_snoc ps p]
    omega
theorem cnts_take (ps : List Pack) (k : Nat) (h : k < ps.length) : cnts (ps.take (k + 1)) = cnts (ps.take k) + cnt ps[k] := by
  rw [List.take_succ_eq_append_getElem h, cnts_snoc]
/-- What fewPacks answers: if true, as many have been taken away. -/
def FewR (g : Nat) (l n : Nat) (w : World) (e : Ending) (w' : World) : Prop :=
  ∃ (b : Bool) (l' : Int), e = .returned (.bool b) ∧ Blk w' g 3 #[.int .i64 l'] ∧ w.grownBy w' (some g) ∧ (b = true → l' = (l : Int) - n ∧ 0 ≤ l')
def FewAt (N : Nat) : Prop := ∀ (p : Pack), SizeOf.sizeOf p ≤ N → ∀ (c0 c1 c2 c3 c4 : Value) (S : Nat → Prop) (w : World) (g l : Nat), Old w S → ¬ S g → PackC w S p [c0, c1, c2, c3, c4] → Blk w g 3 #[.int .i64 l] → l ≤ 2000 →
  Calls Tryd.prog 89 #[.agg #[c0, c1, c2, c3, c4], .pointer (some ⟨g, 0, none⟩)] w (FewR g l (cnt p) w)
set_option maxRecDepth 100000 in
set_option maxHeartbeats 1600000 in
theorem few_step (N : Nat) (ih : FewAt N) (k e : Int) (n m : Nat) (t : List UInt8) (ps : List Pack) (K : Option Addr) (kc : Nat) (xs : List Value) (S : Nat → Prop) (w : World) (g l : Nat) (hm : m = ps.length) (hmk : m ≤ maxLen)
    (hS : Old w S) (hgS : ¬ S g) (hr : Reads w S 5 K m xs) (hp : PacksC w S ps xs) (hsz : ∀ p ∈ ps, SizeOf.sizeOf p ≤ N) (hl : Blk w g 3 #[.int .i64 l]) (hl2 : l ≤ 2000) :
    Calls Tryd.prog 89 #[.agg #[.int .i64 k, .int .u64 n, .string ⟨t.toArray⟩, .int .i64 e, .slice K m kc], .pointer (some ⟨g, 0, none⟩)] w (FewR g l (1 + cnts ps) w) := by
  have hgl := hl.lt
  have c0 := hl.cell 0
  have f0 := hl.frozen 0
  simp only [List.getElem?_toArray, List.getElem?_cons_zero, List.getElem?_cons_succ] at c0
  have HL := hide hl
  have IH := hide ih
  have HM := hide hm
  have HP := hide hp
  clear hl ih hm hp
  unfold maxLen at hmk
  by_cases h0 : l = 0
  · subst h0
    go_enter Tryd.func89, Tryd.ntmps89
    go_wp2
    go_ret
    refine ⟨false, -1, rfl, ?_, ?_, fun h => by cases h⟩
    · exact ((unhide HL).set_ 0 (.int .i64 (-1))).alloc _
    · exact (grown_setCell (World.grownBy.refl _ _) 0 _).trans (World.grownBy_alloc _ _ _)
  · have hl1 : ((l : Int) - 1 < 0) = False := by simp; omega
    obtain ⟨q, rfl⟩ : ∃ q, l = q + 1 := ⟨l - 1, by omega⟩
    have hq : ¬ (q : Int) < 0 := by omega
    have hqe : ((q + 1 : Nat) : Int) - 1 = (q : Int) := by omega
    clear h0 hl1
    go_enter Tryd.func89, Tryd.ntmps89
    go_wp2
    go_loopw [5] (fun i wr => ∃ k0 : Nat, i = .int .i64 k0 ∧ k0 ≤ m ∧ cnts (ps.take k0) ≤ q ∧
        Blk wr w.heap.size 25 #[.int .i64 k, .int .u64 n, .string ⟨t.toArray⟩, .int .i64 e, .slice K m kc] ∧ Blk wr g 3 #[.int .i64 ((q - cnts (ps.take k0) : Nat) : Int)] ∧ w.grownBy wr (some g)) (fun i _ => m - (intOf i).toNat)
    case atStart => exact ⟨0, rfl, Nat.zero_le _, by simp [cnts], by have h := Blk.new (w.setCell ⟨g, 0, none⟩ (.int .i64 q)) 25 #[.int .i64 k, .int .u64 n, .string ⟨t.toArray⟩, .int .i64 e, .slice K m kc]; simpa using h, by have h := ((unhide HL).set_ 0 (.int .i64 q)).alloc (.cells #[.int .i64 k, .int .u64 n, .string ⟨t.toArray⟩, .int .i64 e, .slice K m kc] 25); simpa [cnts] using h, (grown_setCell (World.grownBy.refl _ _) 0 _).trans (World.grownBy_alloc _ _ _)⟩
    case round =>
      obtain ⟨k0, rfl, hk0, hcn, hB0, hB1, hgr⟩ := hrel
      obtain ⟨⟨a0, a1, a2, a3, a4⟩, _⟩ := five_cells hB0
      by_cases hlt : k0 < m
      · obtain ⟨ad, rfl, hSb, hcell⟩ := hr.2 (by omega)
        have hl1 : k0 < ps.length := by have := unhide HM; omega
        obtain ⟨c0, c1, c2, c3, c4, hcs, hpc⟩ := PacksC.at_ ps xs (unhide HP) k0 hl1
        have hst : Stays S w wr := stays_grown hgr hS hgS
        obtain ⟨x60, x61, x62, x63, x64⟩ := five_at (w := wr) (a := ad.add (k0 * 5)) (c0 := c0) (c1 := c1) (c2 := c2) (c3 := c3) (c4 := c4) (fun j u hu => by rw [add_of_add]; exact (World.cell?_of_block (w := w) (a := ad.add (k0 * 5 + j)) (by rw [block_of_add]; exact hst _ hSb)).trans (hcell _ _ (hcs j u hu)))
        have HPC := hide hpc
        clear hpc
        have HR := hide hr
        have HC := hide hcell
        have HSTR := hide hst
        clear hr hcell hcs hst
        go_wp2_with fail
        refine (unhide IH ps[k0] (hsz _ (List.getElem_mem hl1)) c0 c1 c2 c3 c4 S wr g (q - cnts (ps.take k0)) (fun b hb => Nat.lt_of_lt_of_le (hS b hb) hgr.size) hgS (PackC.keep (unhide HSTR) _ _ (unhide HPC)) hB1 (by omega)).mono ?_
        rintro x w5 ⟨b, l', rfl, hB5, hgr5, hb5⟩
        have hB05 : Blk w5 w.heap.size 25 #[.int .i64 k, .int .u64 n, .string ⟨t.toArray⟩, .int .i64 e, .slice (some ad) m kc] := hB0.grown hgr5 (by intro h; injection h with h; omega)
        have hgr6 : w.grownBy w5 (some g) := grown_trans' hgr hgr5 (fun j hj => .inl hj)
        cases b
        · go_wp2
          go_ret
          exact ⟨false, l', rfl, hB5, hgr6, fun h => by cases h⟩
        · have hb := hb5 rfl
          have hct := cnts_take ps k0 hl1
          have hl2' : l' = ((q - cnts (ps.take (k0 + 1)) : Nat) : Int) := by omega
          have hcn2 : cnts (ps.take (k0 + 1)) ≤ q := by omega
          subst hl2'
          clear hb5 hb hct
          go_wp2
          go_roundw
          case rel => exact ⟨k0 + 1, by go_num, by omega, hcn2, hB05, hB5, hgr6⟩
          case measure => simp [intOf]; omega
      · obtain rfl : k0 = m := by omega
        have hfull : ps.take k0 = ps := by rw [unhide HM, List.take_length]
        rw [hfull] at hB1 hcn
        have HB1 := hide hB1
        clear hB1 hfull
        go_wp2
        go_ret
        exact ⟨true, _, rfl, unhide HB1, hgr, fun _ => by omega⟩
theorem few_all : ∀ N, FewAt N
  | 0 => by
    intro p hp
    cases p
    simp at hp
  | N + 1 => by
    intro p hsz c0 c1 c2 c3 c4 S w g l hS hgS hp hl hl2
    cases p with
    | mk k n t e ps =>
    unfold PackC at hp
    obtain ⟨K, kc, xs, hc, h1, h2, h3, h4⟩ := hp
    simp only [List.cons.injEq, and_true] at hc
    obtain ⟨rfl, rfl, rfl, rfl, rfl⟩ := hc
    unfold cnt
    exact few_step N (few_all N) k e n ps.length t ps K kc xs S w g l rfl (Nat.le_trans h1 h2) hS hgS h3 h4 (fun p hp => by have := sizeOf_mem ps p hp; simp at hsz; omega) hl hl2
end Go.Proofs.YtpadbpmnejgckaaDoor
