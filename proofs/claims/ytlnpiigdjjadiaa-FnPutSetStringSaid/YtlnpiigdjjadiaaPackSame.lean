/-
  The reference's comparison of two values of MessagePack (spec.SamePack) computes the plain function samePk; conditions: both read as values in memory.
-/
import Derived.Test.YtlnpiigdjjadiaaPackRead
import Derived.Deep.RegionHeld3
import Derived.Deep.DeepCutAuto
import Derived.StillTailTactics
namespace Go.Proofs.Ytlnpiigdjjadiaa
set_option linter.unusedSimpArgs false
set_option linter.unusedVariables false
set_option linter.unusedVariables false
open Go.RowKit
/-- Its kind, non-negative integers as unsigned ones. -/
def nk (kind : Int) (num : Nat) : Int := if kind = 2 ∧ num < 9223372036854775808 then 3 else kind
mutual
/-- A value whose numbers fit their cells, with lists of at most 2^40 elements. -/
def GoodP : Pack → Prop
  | .mk _ n _ _ ks => n < 18446744073709551616 ∧ ks.length ≤ 1099511627776 ∧ GoodPs ks
def GoodPs : List Pack → Prop
  | [] => True
  | p :: ps => GoodP p ∧ GoodPs ps
end
mutual
def samePk : Pack → Pack → Bool
  | .mk k n t e ks, .mk k' n' t' e' ks' => nk k n == nk k' n' && n == n' && t == t' && e == e' && samePs ks ks'
def samePs : List Pack → List Pack → Bool
  | [], [] => true
  | p :: ps, q :: qs => samePk p q && samePs ps qs
  | _, _ => false
end
theorem wrap64_pos (n : Nat) (h : n < 18446744073709551616) : (0 ≤ wrap64 (n : Int)) ↔ n < 9223372036854775808 := by
  unfold wrap64
  omega
/-- What the heads of two values must be. -/
def headB (k k' e e' : Int) (n n' : Nat) (t t' : List UInt8) (kl kl' : Nat) : Bool := nk k n == nk k' n' && n == n' && t == t' && e == e' && kl == kl'
theorem samePs_snoc : ∀ (ps qs : List Pack) (p q : Pack), ps.length = qs.length → samePs (ps ++ [p]) (qs ++ [q]) = (samePs ps qs && samePk p q)
  | [], [], p, q, _ => by simp [samePs]
  | [], _ :: _, _, _, h => by simp at h
  | _ :: _, [], _, _, h => by simp at h
  | a :: ps, b :: qs, p, q, h => by
    simp only [List.cons_append, samePs]
    rw [samePs_snoc ps qs p q (by simpa using h), Bool.and_assoc]
theorem samePs_false : ∀ (ps qs : List Pack) (k : Nat) (h1 : k < ps.length) (h2 : k < qs.length), samePk ps[k] qs[k] = false → samePs ps qs = false
  | [], _, k, h1, _, _ => by simp at h1
  | _ :: _, [], k, _, h2, _ => by simp at h2
  | p :: ps, q :: qs, 0, _, _, h => by
    simp only [List.getElem_cons_zero] at h
    simp [samePs, h]
  | p :: ps, q :: qs, k + 1, h1, h2, h => by
    simp only [List.getElem_cons_succ] at h
    simp [samePs, samePs_false ps qs k (by simpa using h1) (by simpa using h2) h]
theorem same_take (ps qs : List Pack) (k : Nat) (h1 : k < ps.length) (h2 : k < qs.length) (h : samePs (ps.take k) (qs.take k) = true) (hk : samePk ps[k] qs[k] = true) : samePs (ps.take (k + 1)) (qs.take (k + 1)) = true := by
  rw [List.take_succ_eq_append_getElem h1, List.take_succ_eq_append_getElem h2, samePs_snoc _ _ _ _ (by simp; omega), h, hk]
  rfl
theorem samePs_len : ∀ (ps qs : List Pack), ps.length ≠ qs.length → samePs ps qs = false
  | [], [], h => absurd rfl h
  | [], _ :: _, _ => rfl
  | _ :: _, [], _ => rfl
  | p :: ps, q :: qs, h => by
    simp only [samePs]
    rw [samePs_len ps qs (by simpa using h)]
    simp
theorem samePk_head {k k' e e' : Int} {n n' : Nat} {t t' : List UInt8} {ps qs : List Pack} (h : headB k k' e e' n n' t t' ps.length qs.length = false) : samePk (.mk k n t e ps) (.mk k' n' t' e' qs) = false := by
  unfold headB at h
  unfold samePk
  by_cases hl : ps.length = qs.length
  · rw [hl] at h
    simp only [beq_self_eq_true, Bool.and_true] at h
    rw [h]
    rfl
  · rw [samePs_len ps qs hl]
    simp
def SameAt (N : Nat) : Prop := ∀ (p : Pack), SizeOf.sizeOf p ≤ N → ∀ (q : Pack) (c0 c1 c2 c3 c4 d0 d1 d2 d3 d4 : Value) (S S' : Nat → Prop) (w : World), Old w S → Old w S' → PackC w S p [c0, c1, c2, c3, c4] → PackC w S' q [d0, d1, d2, d3, d4] → GoodP p → GoodP q →
  Calls Try.prog 18 #[.agg #[c0, c1, c2, c3, c4], .agg #[d0, d1, d2, d3, d4]] w fun e w' => e = .returned (.bool (samePk p q)) ∧ Below w.heap.size w w'
set_option maxHeartbeats 1600000 in
set_option maxRecDepth 100000 in
theorem samePack_step (N : Nat) (ih : SameAt N) (k k' e e' : Int) (n n' : Nat) (t t' : List UInt8) (ps qs : List Pack) (K K' : Option Addr) (kc kc' : Nat) (xs ys : List Value) (S S' : Nat → Prop) (w : World) (hn : n < 18446744073709551616) (hn' : n' < 18446744073709551616)
    (hkl : ps.length ≤ 1099511627776) (hkl' : qs.length ≤ 1099511627776) (hS : Old w S) (hS' : Old w S') (hr : Reads w S 5 K ps.length xs) (hr' : Reads w S' 5 K' qs.length ys) (hp : PacksC w S ps xs) (hq : PacksC w S' qs ys) (hsz : ∀ p ∈ ps, SizeOf.sizeOf p ≤ N)
    (hg : ∀ p ∈ ps, GoodP p) (hg' : ∀ p ∈ qs, GoodP p) :
    Calls Try.prog 18 #[.agg #[.int .i64 k, .int .u64 n, .string ⟨t.toArray⟩, .int .i64 e, .slice K ps.length kc], .agg #[.int .i64 k', .int .u64 n', .string ⟨t'.toArray⟩, .int .i64 e', .slice K' qs.length kc']] w
      fun x w' => x = .returned (.bool (samePk (.mk k n t e ps) (.mk k' n' t' e' qs))) ∧ Below w.heap.size w w' := by
  have IH := hide ih
  clear ih
  have hw := wrap64_pos n hn
  have hw' := wrap64_pos n' hn'
  obtain ⟨T, hT⟩ : ∃ T : ByteArray, T = ⟨t.toArray⟩ := ⟨_, rfl⟩
  obtain ⟨T', hT'⟩ : ∃ T : ByteArray, T = ⟨t'.toArray⟩ := ⟨_, rfl⟩
  rw [← hT, ← hT']
  have HT := hide hT
  have HT' := hide hT'
  clear hT hT'
  go_enter Try.func18, Try.ntmps18
  go_upto_region 1 with fail
  go_cut [14] (fun s wx => s = .bool (decide (k = 2 ∧ n < 9223372036854775808)) ∧ wx = (w.alloc (.cells #[.int .i64 k, .int .u64 n, .string T, .int .i64 e, .slice K ps.length kc] 31)).alloc (.cells #[.int .i64 k', .int .u64 n', .string T', .int .i64 e', .slice K' qs.length kc'] 31))
  case first =>
    by_cases h1 : (k == 2) = true
    · go_wp2
      go_meet
      exact ⟨by simp at h1; simp [h1], rfl⟩
    · have h1 : (k == 2) = false := by simpa using h1
      go_wp2
      go_meet
      exact ⟨by simp at h1; simp [h1], rfl⟩
  case rest =>
  obtain ⟨rfl, rfl⟩ := hcut
  go_upto_if 14 with fail
  go_cut [] (fun wx => wx = (w.alloc (.cells #[.int .i64 (nk k n), .int .u64 n, .string T, .int .i64 e, .slice K ps.length kc] 31)).alloc (.cells #[.int .i64 k', .int .u64 n', .string T', .int .i64 e', .slice K' qs.length kc'] 31))
  case first =>
    by_cases h1 : k = 2 ∧ n < 9223372036854775808
    · have h2 : decide (k = 2 ∧ n < 9223372036854775808) = true := by simpa using h1
      go_wp2
      go_meet
      rw [nk, if_pos h1]
    · have h2 : decide (k = 2 ∧ n < 9223372036854775808) = false := by simpa using h1
      go_wp2
      go_meet
      rw [nk, if_neg h1]
  case rest =>
  subst hcut
  go_upto_region 3 with fail
  go_cut [24] (fun s wx => s = .bool (decide (k' = 2 ∧ n' < 9223372036854775808)) ∧ wx = (w.alloc (.cells #[.int .i64 (nk k n), .int .u64 n, .string T, .int .i64 e, .slice K ps.length kc] 31)).alloc (.cells #[.int .i64 k', .int .u64 n', .string T', .int .i64 e', .slice K' qs.length kc'] 31))
  case first =>
    by_cases h1 : (k' == 2) = true
    · go_wp2
      go_meet
      exact ⟨by simp at h1; simp [h1], rfl⟩
    · have h1 : (k' == 2) = false := by simpa using h1
      go_wp2
      go_meet
      exact ⟨by simp at h1; simp [h1], rfl⟩
  case rest =>
  obtain ⟨rfl, rfl⟩ := hcut
  go_upto_if 24 with fail
  go_cut [] (fun wx => wx = (w.alloc (.cells #[.int .i64 (nk k n), .int .u64 n, .string T, .int .i64 e, .slice K ps.length kc] 31)).alloc (.cells #[.int .i64 (nk k' n'), .int .u64 n', .string T', .int .i64 e', .slice K' qs.length kc'] 31))
  case first =>
    by_cases h1 : k' = 2 ∧ n' < 9223372036854775808
    · have h2 : decide (k' = 2 ∧ n' < 9223372036854775808) = true := by simpa using h1
      go_wp2
      go_meet
      rw [show nk k' n' = 3 from if_pos h1]
    · have h2 : decide (k' = 2 ∧ n' < 9223372036854775808) = false := by simpa using h1
      go_wp2
      go_meet
      rw [show nk k' n' = k' from if_neg h1]
  case rest =>
  subst hcut
  have hhd : headB k k' e e' n n' t t' ps.length qs.length = (nk k n == nk k' n' && n == n' && t == t' && e == e' && ps.length == qs.length) := rfl
  have hsm := hide (samePk_head (k := k) (k' := k') (e := e) (e' := e') (n := n) (n' := n') (t := t) (t' := t') (ps := ps) (qs := qs))
  have hnd : (!headB k k' e e' n n' t t' ps.length qs.length) = !(nk k n == nk k' n' && n == n' && t == t' && e == e' && ps.length == qs.length) := by rw [hhd]
  have HH := hide hnd
  have hsm : Hid ((!headB k k' e e' n n' t t' ps.length qs.length) = true → samePk (.mk k n t e ps) (.mk k' n' t' e' qs) = false) := hide fun h => unhide hsm (by simpa using h)
  clear hhd hnd
  generalize (!headB k k' e e' n n' t t' ps.length qs.length) = nd at HH hsm
  go_upto_region 5 with fail
  go_cut [60] (fun s wx => s = .bool nd ∧ wx = (w.alloc (.cells #[.int .i64 (nk k n), .int .u64 n, .string T, .int .i64 e, .slice K ps.length kc] 31)).alloc (.cells #[.int .i64 (nk k' n'), .int .u64 n', .string T', .int .i64 e', .slice K' qs.length kc'] 31))
  case first =>
    -- [[
    have e1 : T.toList = t := by rw [unhide HT]; simp
    have e2 : T'.toList = t' := by rw [unhide HT']; simp
    have E := hide (And.intro e1 e2)
    clear e1 e2
    by_cases b1 : (nk k n != nk k' n') = false
    · by_cases b2 : ((n : Int) != (n' : Int)) = false
      · by_cases b3 : (T.toList == T'.toList) = true
        · by_cases b4 : (e != e') = false
          · by_cases b5 : ((ps.length : Int) != (qs.length : Int)) = false
            · go_wp2
              go_meet
              obtain ⟨e1, e2⟩ := unhide E; exact ⟨congrArg Value.bool (by rw [unhide HH, ← e1, ← e2]; simp at b1 b2 b3 b4 b5; (simp [b1, b3, b4] <;> omega)), rfl⟩
            · replace b5 : ((ps.length : Int) != (qs.length : Int)) = true := by simpa using b5
              go_wp2
              go_meet
              obtain ⟨e1, e2⟩ := unhide E; exact ⟨congrArg Value.bool (by rw [unhide HH, ← e1, ← e2]; simp at b1 b2 b3 b4 b5; (simp [b1, b3, b4] <;> omega)), rfl⟩
          · replace b4 : (e != e') = true := by simpa using b4
            go_wp2
            go_meet
            obtain ⟨e1, e2⟩ := unhide E; exact ⟨congrArg Value.bool (by rw [unhide HH, ← e1, ← e2]; simp at b1 b2 b3 b4; (simp [b1, b3, b4] <;> omega)), rfl⟩
        · replace b3 : (T.toList == T'.toList) = false := by simpa using b3
          go_wp2
          go_meet
          obtain ⟨e1, e2⟩ := unhide E; exact ⟨congrArg Value.bool (by rw [unhide HH, ← e1, ← e2]; simp at b1 b2 b3; (simp [b1, b3])), rfl⟩
      · replace b2 : ((n : Int) != (n' : Int)) = true := by simpa using b2
        go_wp2
        go_meet
        obtain ⟨e1, e2⟩ := unhide E; exact ⟨congrArg Value.bool (by rw [unhide HH, ← e1, ← e2]; simp at b1 b2; (simp [b1] <;> omega)), rfl⟩
    · replace b1 : (nk k n != nk k' n') = true := by simpa using b1
      go_wp2
      go_meet
      obtain ⟨e1, e2⟩ := unhide E; exact ⟨congrArg Value.bool (by rw [unhide HH, ← e1, ← e2]; simp at b1; simp [b1]), rfl⟩
    -- ]]
  case rest =>
  obtain ⟨rfl, rfl⟩ := hcut
  by_cases hb : nd = true
  · have HF := hide (unhide hsm hb)
    subst hb
    clear HH hsm
    go_wp2
    go_ret
    exact ⟨by rw [unhide HF]; rfl, (by repeat (first | with_reducible exact Below.refl _ _ | with_reducible exact x | with_reducible refine Below.alloc ?_ (by first | omega | (simp; omega) | (simp; done)) _ | with_reducible refine Below.setCell ?_ (by first | omega | (simp; omega) | (simp; done)) _ | with_reducible refine Below.drew ?_ | with_reducible refine below_drewN ?_ _))⟩
  · obtain rfl : nd = false := by simpa using hb
    clear hsm
    go_wp2
    have hlen : ps.length = qs.length := by
      have := unhide HH
      simp at this
      exact this.2
    have HL := hide hlen
    have hle : ps.length ≤ qs.length := Nat.le_of_eq hlen
    have hle' : qs.length ≤ ps.length := Nat.le_of_eq hlen.symm
    clear hlen
    go_loopw [64] (fun i wr => ∃ k0 : Nat, i = .int .i64 k0 ∧ k0 ≤ ps.length ∧ samePs (ps.take k0) (qs.take k0) = true ∧
        Blk wr w.heap.size 31 #[.int .i64 (nk k n), .int .u64 n, .string T, .int .i64 e, .slice K ps.length kc] ∧ Blk wr (w.heap.size + 1) 31 #[.int .i64 (nk k' n'), .int .u64 n', .string T', .int .i64 e', .slice K' qs.length kc'] ∧ Below w.heap.size w wr) (fun i _ => ps.length - (intOf i).toNat)
    case atStart => exact ⟨0, rfl, Nat.zero_le _, by simp [samePs], (Blk.new w 31 _).alloc _, by have := Blk.new (w.alloc (.cells #[.int .i64 (nk k n), .int .u64 n, .string T, .int .i64 e, .slice K ps.length kc] 31)) 31 #[.int .i64 (nk k' n'), .int .u64 n', .string T', .int .i64 e', .slice K' qs.length kc']; simpa using this, (by repeat (first | with_reducible exact Below.refl _ _ | with_reducible exact x | with_reducible refine Below.alloc ?_ (by first | omega | (simp; omega) | (simp; done)) _ | with_reducible refine Below.setCell ?_ (by first | omega | (simp; omega) | (simp; done)) _ | with_reducible refine Below.drew ?_ | with_reducible refine below_drewN ?_ _))⟩
    case round =>
      obtain ⟨k0, rfl, hk0, hsame, hB0, hB1, hbel⟩ := hrel
      have HSM := hide hsame
      clear hsame
      by_cases hlt : k0 < ps.length
      · obtain ⟨ad, rfl, hSb, hcell⟩ := hr.2 (by omega)
        obtain ⟨ad', rfl, hSb', hcell'⟩ := hr'.2 (by omega)
        obtain ⟨c0, c1, c2, c3, c4, hcs, hpc⟩ := PacksC.at_ ps xs hp k0 hlt
        obtain ⟨d0, d1, d2, d3, d4, hds, hpd⟩ := PacksC.at_ qs ys hq k0 (by omega)
        obtain ⟨⟨a0, a1, a2, a3, a4⟩, _⟩ := five_cells hB0
        obtain ⟨⟨b0, b1, b2, b3, b4⟩, _⟩ := five_cells hB1
        have l0 := hS _ hSb
        have l0' := hS' _ hSb'
        obtain ⟨x60, x61, x62, x63, x64⟩ := five_at (w := wr) (a := ad.add (k0 * 5)) (c0 := c0) (c1 := c1) (c2 := c2) (c3 := c3) (c4 := c4) (fun j u hu => by rw [add_of_add]; exact (hbel.cell (p := ad.add (k0 * 5 + j)) (by rw [block_of_add]; exact l0)).trans (hcell _ _ (hcs j u hu)))
        obtain ⟨y60, y61, y62, y63, y64⟩ := five_at (w := wr) (a := ad'.add (k0 * 5)) (c0 := d0) (c1 := d1) (c2 := d2) (c3 := d3) (c4 := d4) (fun j u hu => by rw [add_of_add]; exact (hbel.cell (p := ad'.add (k0 * 5 + j)) (by rw [block_of_add]; exact l0')).trans (hcell' _ _ (hds j u hu)))
        have hlt' : k0 < qs.length := by omega
        go_wp2
        go_still_tail 10, (by kernel_rfl)
        change wpList _ _ _ _ _ wr.drew
        obtain ⟨w4, hw4⟩ : ∃ w4, w4 = wr.drew := ⟨_, rfl⟩
        rw [← hw4]
        have hbel4 : Below w.heap.size w w4 := by rw [hw4]; exact hbel.drew
        have hB04 : Blk w4 w.heap.size 31 #[.int .i64 (nk k n), .int .u64 n, .string T, .int .i64 e, .slice (some ad) ps.length kc] := by rw [hw4]; exact hB0.drew
        have hB14 : Blk w4 (w.heap.size + 1) 31 #[.int .i64 (nk k' n'), .int .u64 n', .string T', .int .i64 e', .slice (some ad') qs.length kc'] := by rw [hw4]; exact hB1.drew
        clear hw4
        go_wp2_with fail
        refine (unhide IH ps[k0] (hsz _ (List.getElem_mem hlt)) qs[k0] _ _ _ _ _ _ _ _ _ _ S S' _ (old_below hbel4 hS) (old_below hbel4 hS') (PackC.keep (stays_below (Stays.refl _ _) hbel4 hS) _ _ hpc) (PackC.keep (stays_below (Stays.refl _ _) hbel4 hS') _ _ hpd) (hg _ (List.getElem_mem hlt)) (hg' _ (List.getElem_mem hlt'))).mono ?_
        rintro x w5 ⟨rfl, hbel5⟩
        by_cases hs : samePk ps[k0] qs[k0] = true
        · have HN := hide (same_take ps qs k0 hlt hlt' (unhide HSM) hs)
          go_wp2
          go_roundw
          case rel => exact ⟨k0 + 1, by go_num, by omega, unhide HN, hB04.below hbel5 hB04.lt, hB14.below hbel5 hB14.lt, hbel4.trans (hbel5.mono hbel4.size)⟩
          case measure => simp [intOf]; omega
        · have hs' : samePk ps[k0] qs[k0] = false := by simpa using hs
          have HN := hide (samePs_false ps qs k0 hlt hlt' hs')
          clear hs
          go_wp2
          go_ret
          exact ⟨by unfold samePk; rw [unhide HN]; simp, hbel4.trans (hbel5.mono hbel4.size)⟩
      · obtain rfl : k0 = ps.length := by omega
        have hend : samePk (.mk k n t e ps) (.mk k' n' t' e' qs) = true := by
          have h1 := unhide HSM
          have h2 := unhide HH
          rw [List.take_length, unhide HL, List.take_length] at h1
          unfold samePk
          rw [h1]
          simp at h2
          obtain ⟨⟨⟨⟨q1, q2⟩, q3⟩, q4⟩, _⟩ := h2
          rw [q1, q2, q3, q4]
          simp
        have HE := hide hend
        clear hend
        go_wp2
        go_ret
        exact ⟨by rw [unhide HE]; rfl, hbel⟩
theorem goodPs_mem : ∀ (ps : List Pack), GoodPs ps → ∀ p ∈ ps, GoodP p
  | [], _, p, h => by simp at h
  | q :: qs, h, p, hp => by
    unfold GoodPs at h
    rcases List.mem_cons.1 hp with rfl | hp
    · exact h.1
    · exact goodPs_mem qs h.2 p hp
theorem same_all : ∀ N, SameAt N
  | 0 => by
    intro p hp
    cases p
    simp at hp
  | N + 1 => by
    intro p hsz q c0 c1 c2 c3 c4 d0 d1 d2 d3 d4 S S' w hS hS' hp hq hg hg'
    cases p with
    | mk k n t e ps =>
    cases q with
    | mk k' n' t' e' qs =>
    unfold PackC at hp hq
    obtain ⟨K, kc, xs, hc, h1, h2, h3, h4⟩ := hp
    obtain ⟨K', kc', ys, hc', h1', h2', h3', h4'⟩ := hq
    unfold GoodP at hg hg'
    simp only [List.cons.injEq, and_true] at hc hc'
    obtain ⟨rfl, rfl, rfl, rfl, rfl⟩ := hc
    obtain ⟨rfl, rfl, rfl, rfl, rfl⟩ := hc'
    exact samePack_step N (same_all N) k k' e e' n n' t t' ps qs K K' kc kc' xs ys S S' w hg.1 hg'.1 hg.2.1 hg'.2.1 hS hS' h3 h3' h4 h4' (fun p hp => by have := sizeOf_mem ps p hp; simp at hsz; omega) (goodPs_mem ps hg.2.2) (goodPs_mem qs hg'.2.2)
/-- spec.SamePack. -/
theorem samePack_any (p q : Pack) (c0 c1 c2 c3 c4 d0 d1 d2 d3 d4 : Value) (S S' : Nat → Prop) (w : World) (hS : Old w S) (hS' : Old w S') (hp : PackC w S p [c0, c1, c2, c3, c4]) (hq : PackC w S' q [d0, d1, d2, d3, d4]) (hg : GoodP p) (hg' : GoodP q) :
    Calls Try.prog 18 #[.agg #[c0, c1, c2, c3, c4], .agg #[d0, d1, d2, d3, d4]] w fun e w' => e = .returned (.bool (samePk p q)) ∧ Below w.heap.size w w' :=
  same_all _ p (Nat.le_refl _) q c0 c1 c2 c3 c4 d0 d1 d2 d3 d4 S S' w hS hS' hp hq hg hg'
end Go.Proofs.Ytlnpiigdjjadiaa
