/-
  spec.SameValue answers true of two values that are the same (what kind an empty array is of is not compared). Conditions: both read as values in memory.
-/
import Derived.Test.YtnnddknplhhnkaaDoorWrote
import Derived.StillTailTactics
namespace Go.Proofs.YtnnddknplhhnkaaDoor
set_option linter.unusedSimpArgs false
set_option linter.unusedVariables false
open Go.RowKit
mutual
/-- The same value, but for the kind of an empty array. -/
def SameA : AV → AV → Prop
  | .mk k n t ks _ d, .mk k' n' t' ks' _ d' => k = k' ∧ n = n' ∧ t = t' ∧ SameAs ks ks' ∧ SameAs d d'
def SameAs : List AV → List AV → Prop
  | [], [] => True
  | p :: ps, q :: qs => SameA p q ∧ SameAs ps qs
  | _, _ => False
end
mutual
theorem SameA.refl : ∀ p : AV, SameA p p
  | .mk k n t ks o d => by
    unfold SameA
    exact ⟨rfl, rfl, rfl, SameAs.refl ks, SameAs.refl d⟩
theorem SameAs.refl : ∀ p : List AV, SameAs p p
  | [] => by unfold SameAs; trivial
  | p :: ps => by
    unfold SameAs
    exact ⟨SameA.refl p, SameAs.refl ps⟩
end
theorem SameAs.len : ∀ (ps qs : List AV), SameAs ps qs → ps.length = qs.length
  | [], [], _ => rfl
  | [], _ :: _, h => by unfold SameAs at h; exact h.elim
  | _ :: _, [], h => by unfold SameAs at h; exact h.elim
  | p :: ps, q :: qs, h => by
    unfold SameAs at h
    rw [List.length_cons, List.length_cons, SameAs.len ps qs h.2]
theorem SameAs.get : ∀ (ps qs : List AV), SameAs ps qs → ∀ k (h : k < ps.length) (h' : k < qs.length), SameA ps[k] qs[k]
  | [], _, _, k, h, _ => absurd h (by simp)
  | _ :: _, [], _, k, _, h => absurd h (by simp)
  | p :: ps, q :: qs, h, 0, _, _ => by
    unfold SameAs at h
    exact h.1
  | p :: ps, q :: qs, h, k + 1, h1, h2 => by
    unfold SameAs at h
    exact SameAs.get ps qs h.2 k (by simpa using h1) (by simpa using h2)
theorem list6 {l : List Value} (h : l.length = 6) : ∃ a b c d e f, l = [a, b, c, d, e, f] := by
  match l, h with
  | [a, b, c, d, e, f], _ => exact ⟨a, b, c, d, e, f, rfl⟩
theorem AVsC.at6 {w : World} {S : Nat → Prop} (ps : List AV) (cs : List Value) (h : AVsC w S ps cs) (k : Nat) (hk : k < ps.length) : ∃ c0 c1 c2 c3 c4 c5, (∀ j u, [c0, c1, c2, c3, c4, c5][j]? = some u → cs[k * 6 + j]? = some u) ∧ AVC w S ps[k] [c0, c1, c2, c3, c4, c5] := by
  have h1 := AVsC.get ps cs h k hk
  obtain ⟨c0, c1, c2, c3, c4, c5, he⟩ := list6 (AVC.len h1)
  refine ⟨c0, c1, c2, c3, c4, c5, fun j u hu => ?_, by rw [← he]; exact h1⟩
  rw [← he, List.getElem?_take] at hu
  split at hu
  · rwa [List.getElem?_drop] at hu
  · cases hu
theorem six_at {w : World} {a : Addr} {c0 c1 c2 c3 c4 c5 : Value} (h : ∀ j u, [c0, c1, c2, c3, c4, c5][j]? = some u → w.cell? (a.add j) = some u) :
    w.cell? a = some c0 ∧ w.cell? ⟨a.block, a.off + 1, none⟩ = some c1 ∧ w.cell? ⟨a.block, a.off + 2, none⟩ = some c2 ∧ w.cell? ⟨a.block, a.off + 3, none⟩ = some c3 ∧ w.cell? ⟨a.block, a.off + 4, none⟩ = some c4 ∧ w.cell? ⟨a.block, a.off + 5, none⟩ = some c5 :=
  ⟨h 0 c0 rfl, h 1 c1 rfl, h 2 c2 rfl, h 3 c3 rfl, h 4 c4 rfl, h 5 c5 rfl⟩
theorem sizeA_mem : ∀ (ps : List AV) (p : AV), p ∈ ps → SizeOf.sizeOf p < SizeOf.sizeOf ps
  | [], p, h => by simp at h
  | q :: qs, p, hp => by
    rcases List.mem_cons.1 hp with rfl | hp
    · simp
      omega
    · have := sizeA_mem qs p hp
      simp
      omega
def SameVAt (N : Nat) : Prop := ∀ (p : AV), SizeOf.sizeOf p ≤ N → ∀ (q : AV) (c0 c1 c2 c3 c4 c5 d0 d1 d2 d3 d4 d5 : Value) (S S' : Nat → Prop) (w : World), Old w S → Old w S' → AVC w S p [c0, c1, c2, c3, c4, c5] → AVC w S' q [d0, d1, d2, d3, d4, d5] → SameA p q →
  Calls Tryd.prog 26 #[.agg #[c0, c1, c2, c3, c4, c5], .agg #[d0, d1, d2, d3, d4, d5]] w fun e w' => e = .returned (.bool true) ∧ Below w.heap.size w w'
set_option maxRecDepth 100000 in
set_option maxHeartbeats 1600000 in
theorem sameV_step (N : Nat) (ih : SameVAt N) (k o o' : Int) (n m dm : Nat) (t : List UInt8) (ps qs ds es : List AV) (K K' D D' : Option Addr) (kc kc' dc dc' : Nat) (xs ys us vs : List Value) (S S' : Nat → Prop) (w : World)
    (hm : m = ps.length) (hm' : m = qs.length) (hdm : dm = ds.length) (hdm' : dm = es.length) (hml : m ≤ kc) (hkc : kc ≤ maxLen) (hdl : dm ≤ dc) (hdc : dc ≤ maxLen) (hS : Old w S) (hS' : Old w S') (hr : Reads w S 6 K m xs) (hr' : Reads w S' 6 K' m ys) (hp : AVsC w S ps xs) (hq : AVsC w S' qs ys)
    (hrd : Reads w S 6 D dm us) (hrd' : Reads w S' 6 D' dm vs) (hd : AVsC w S ds us) (he : AVsC w S' es vs) (hsz : ∀ p ∈ ps, SizeOf.sizeOf p ≤ N) (hszd : ∀ p ∈ ds, SizeOf.sizeOf p ≤ N) (hs : SameAs ps qs) (hsd : SameAs ds es) :
    Calls Tryd.prog 26 #[.agg #[.int .i64 k, .int .u64 n, .string ⟨t.toArray⟩, .slice K m kc, .int .i64 o, .slice D dm dc], .agg #[.int .i64 k, .int .u64 n, .string ⟨t.toArray⟩, .slice K' m kc', .int .i64 o', .slice D' dm dc']] w
      fun x w' => x = .returned (.bool true) ∧ Below w.heap.size w w' := by
  have IH := hide ih
  have HM := hide hm
  have HM' := hide hm'
  have HDM := hide hdm
  have HDM' := hide hdm'
  clear ih hm hm' hdm hdm'
  have HP := hide hp
  have HQ := hide hq
  have HD := hide hd
  have HE := hide he
  clear hp hq hd he
  have hmm : m ≤ maxLen := Nat.le_trans hml hkc
  have hdd : dm ≤ maxLen := Nat.le_trans hdl hdc
  unfold maxLen at hmm hdd
  clear hml hkc hdl hdc
  go_enter Tryd.func26, Tryd.ntmps26
  go_wp2
  go_loopw [46] (fun i wr => ∃ k0 : Nat, i = .int .i64 k0 ∧ k0 ≤ m ∧
      Blk wr w.heap.size 29 #[.int .i64 k, .int .u64 n, .string ⟨t.toArray⟩, .slice K m kc, .int .i64 o, .slice D dm dc] ∧ Blk wr (w.heap.size + 1) 29 #[.int .i64 k, .int .u64 n, .string ⟨t.toArray⟩, .slice K' m kc', .int .i64 o', .slice D' dm dc'] ∧ Below w.heap.size w wr) (fun i _ => m - (intOf i).toNat)
  case atStart => exact ⟨0, rfl, Nat.zero_le _, (Blk.new w 29 _).alloc _, by have := Blk.new (w.alloc (.cells #[.int .i64 k, .int .u64 n, .string ⟨t.toArray⟩, .slice K m kc, .int .i64 o, .slice D dm dc] 29)) 29 #[.int .i64 k, .int .u64 n, .string ⟨t.toArray⟩, .slice K' m kc', .int .i64 o', .slice D' dm dc']; simpa using this, (by repeat (first | with_reducible exact Below.refl _ _ | with_reducible exact x | with_reducible refine Below.alloc ?_ (by first | omega | (simp; omega) | (simp; done)) _ | with_reducible refine Below.setCell ?_ (by first | omega | (simp; omega) | (simp; done)) _ | with_reducible refine Below.drew ?_ | with_reducible refine below_drewN ?_ _))⟩
  case round =>
    obtain ⟨k0, rfl, hk0, hB0, hB1, hbel⟩ := hrel
    obtain ⟨⟨a0, a1, a2, a3, a4, a5⟩, _⟩ := six_cells hB0
    obtain ⟨⟨b0, b1, b2, b3, b4, b5⟩, _⟩ := six_cells hB1
    by_cases hlt : k0 < m
    · obtain ⟨ad, rfl, hSb, hcell⟩ := hr.2 (by omega)
      obtain ⟨ad', rfl, hSb', hcell'⟩ := hr'.2 (by omega)
      have hl1 : k0 < ps.length := by have := unhide HM; omega
      have hl2 : k0 < qs.length := by have := unhide HM'; omega
      obtain ⟨c0, c1, c2, c3, c4, c5, hcs, hpc⟩ := AVsC.at6 ps xs (unhide HP) k0 hl1
      obtain ⟨d0, d1, d2, d3, d4, d5, hds, hpd⟩ := AVsC.at6 qs ys (unhide HQ) k0 hl2
      have l0 := hS _ hSb
      have l0' := hS' _ hSb'
      obtain ⟨x60, x61, x62, x63, x64, x65⟩ := six_at (w := wr) (a := ad.add (k0 * 6)) (c0 := c0) (c1 := c1) (c2 := c2) (c3 := c3) (c4 := c4) (c5 := c5) (fun j u hu => by rw [add_of_add]; exact (hbel.cell (p := ad.add (k0 * 6 + j)) (by rw [block_of_add]; exact l0)).trans (hcell _ _ (hcs j u hu)))
      obtain ⟨y60, y61, y62, y63, y64, y65⟩ := six_at (w := wr) (a := ad'.add (k0 * 6)) (c0 := d0) (c1 := d1) (c2 := d2) (c3 := d3) (c4 := d4) (c5 := d5) (fun j u hu => by rw [add_of_add]; exact (hbel.cell (p := ad'.add (k0 * 6 + j)) (by rw [block_of_add]; exact l0')).trans (hcell' _ _ (hds j u hu)))
      have HPC := hide hpc
      have HPD := hide hpd
      clear hpc hpd
      go_wp2
      go_still_tail 10, (by kernel_rfl)
      change wpList _ _ _ _ _ wr.drew
      obtain ⟨w4, hw4⟩ : ∃ w4, w4 = wr.drew := ⟨_, rfl⟩
      rw [← hw4]
      have hbel4 : Below w.heap.size w w4 := by rw [hw4]; exact hbel.drew
      have hB04 : Blk w4 w.heap.size 29 #[.int .i64 k, .int .u64 n, .string ⟨t.toArray⟩, .slice (some ad) m kc, .int .i64 o, .slice D dm dc] := by rw [hw4]; exact hB0.drew
      have hB14 : Blk w4 (w.heap.size + 1) 29 #[.int .i64 k, .int .u64 n, .string ⟨t.toArray⟩, .slice (some ad') m kc', .int .i64 o', .slice D' dm dc'] := by rw [hw4]; exact hB1.drew
      clear hw4
      go_wp2_with fail
      refine (unhide IH ps[k0] (hsz _ (List.getElem_mem hl1)) qs[k0] _ _ _ _ _ _ _ _ _ _ _ _ S S' _ (old_below hbel4 hS) (old_below hbel4 hS') (AVC.keep (unhide HPC) (stays_below (Stays.refl _ _) hbel4 hS)) (AVC.keep (unhide HPD) (stays_below (Stays.refl _ _) hbel4 hS')) (SameAs.get ps qs hs k0 hl1 hl2)).mono ?_
      rintro x w5 ⟨rfl, hbel5⟩
      go_wp2
      go_roundw
      case rel => exact ⟨k0 + 1, by go_num, by omega, hB04.below hbel5 hB04.lt, hB14.below hbel5 hB14.lt, hbel4.trans (hbel5.mono hbel4.size)⟩
      case measure => simp [intOf]; omega
    · by_cases hd0 : dm = 0
      · subst hd0
        go_wp2
        go_quiet (fail)
        go_wp2
        go_ret
        exact ⟨rfl, below_drewN hbel _⟩
      · have hd1 : ((dm : Int) == 0) = false := by simp; omega
        obtain ⟨ad, rfl, hSb, hcell⟩ := hrd.2 (by omega)
        obtain ⟨ad', rfl, hSb', hcell'⟩ := hrd'.2 (by omega)
        have hl1 : 0 < ds.length := by have := unhide HDM; omega
        have hl2 : 0 < es.length := by have := unhide HDM'; omega
        obtain ⟨c0, c1, c2, c3, c4, c5, hcs, hpc⟩ := AVsC.at6 ds us (unhide HD) 0 hl1
        obtain ⟨d0, d1, d2, d3, d4, d5, hds, hpd⟩ := AVsC.at6 es vs (unhide HE) 0 hl2
        simp only [Nat.zero_mul, Nat.zero_add] at hcs hds
        have l0 := hS _ hSb
        have l0' := hS' _ hSb'
        obtain ⟨x60, x61, x62, x63, x64, x65⟩ := six_at (w := wr) (a := ad) (c0 := c0) (c1 := c1) (c2 := c2) (c3 := c3) (c4 := c4) (c5 := c5) (fun j u hu => (hbel.cell (p := ad.add j) (by rw [block_of_add]; exact l0)).trans (hcell _ _ (hcs j u hu)))
        obtain ⟨y60, y61, y62, y63, y64, y65⟩ := six_at (w := wr) (a := ad') (c0 := d0) (c1 := d1) (c2 := d2) (c3 := d3) (c4 := d4) (c5 := d5) (fun j u hu => (hbel.cell (p := ad'.add j) (by rw [block_of_add]; exact l0')).trans (hcell' _ _ (hds j u hu)))
        have HPC := hide hpc
        have HPD := hide hpd
        clear hpc hpd
        have hdp : 0 < dm := by omega
        go_wp2
        go_still_tail 13, (by kernel_rfl)
        change wpList _ _ _ _ _ wr.drew
        obtain ⟨w4, hw4⟩ : ∃ w4, w4 = wr.drew := ⟨_, rfl⟩
        rw [← hw4]
        have hbel4 : Below w.heap.size w w4 := by rw [hw4]; exact hbel.drew
        clear hw4
        go_wp2_with fail
        refine (unhide IH ds[0] (hszd _ (List.getElem_mem hl1)) es[0] _ _ _ _ _ _ _ _ _ _ _ _ S S' _ (old_below hbel4 hS) (old_below hbel4 hS') (AVC.keep (unhide HPC) (stays_below (Stays.refl _ _) hbel4 hS)) (AVC.keep (unhide HPD) (stays_below (Stays.refl _ _) hbel4 hS')) (SameAs.get ds es hsd 0 hl1 hl2)).mono ?_
        rintro x w5 ⟨rfl, hbel5⟩
        go_wp2
        go_ret
        exact ⟨rfl, hbel4.trans (hbel5.mono hbel4.size)⟩
theorem sameV_all : ∀ N, SameVAt N
  | 0 => by
    intro p hp
    cases p
    simp at hp
  | N + 1 => by
    intro p hsz q c0 c1 c2 c3 c4 c5 d0 d1 d2 d3 d4 d5 S S' w hS hS' hp hq hs
    cases p with
    | mk k n t ps o ds =>
    cases q with
    | mk k' n' t' qs o' es =>
    unfold AVC at hp hq
    unfold SameA at hs
    obtain ⟨rfl, rfl, rfl, hsk, hsd⟩ := hs
    obtain ⟨K, kc, xs, D, dc, us, hc, h1, h2, h3, h4, h5, h6, h7, h8⟩ := hp
    obtain ⟨K', kc', ys, D', dc', vs, hc', h1', h2', h3', h4', h5', h6', h7', h8'⟩ := hq
    simp only [List.cons.injEq, and_true] at hc hc'
    obtain ⟨rfl, rfl, rfl, rfl, rfl, rfl⟩ := hc
    obtain ⟨rfl, rfl, rfl, rfl, rfl, rfl⟩ := hc'
    rw [← SameAs.len ps qs hsk] at h3' ⊢
    rw [← SameAs.len ds es hsd] at h7' ⊢
    exact sameV_step N (sameV_all N) k o o' n ps.length ds.length t ps qs ds es K K' D D' kc kc' dc dc' xs ys us vs S S' w rfl (SameAs.len ps qs hsk) rfl (SameAs.len ds es hsd) h1 h2 h5 h6 hS hS' h3 h3' h4 h4' h7 h7' h8 h8' (fun p hp => by have := sizeA_mem ps p hp; simp at hsz; omega) (fun p hp => by have := sizeA_mem ds p hp; simp at hsz; omega) hsk hsd
/-- spec.SameValue of two values that are the same. -/
theorem sameV_any (p q : AV) (c0 c1 c2 c3 c4 c5 d0 d1 d2 d3 d4 d5 : Value) (S S' : Nat → Prop) (w : World) (hS : Old w S) (hS' : Old w S') (hp : AVC w S p [c0, c1, c2, c3, c4, c5]) (hq : AVC w S' q [d0, d1, d2, d3, d4, d5]) (hs : SameA p q) :
    Calls Tryd.prog 26 #[.agg #[c0, c1, c2, c3, c4, c5], .agg #[d0, d1, d2, d3, d4, d5]] w fun e w' => e = .returned (.bool true) ∧ Below w.heap.size w w' :=
  sameV_all _ p (Nat.le_refl _) q c0 c1 c2 c3 c4 c5 d0 d1 d2 d3 d4 d5 S S' w hS hS' hp hq hs
end Go.Proofs.YtnnddknplhhnkaaDoor
