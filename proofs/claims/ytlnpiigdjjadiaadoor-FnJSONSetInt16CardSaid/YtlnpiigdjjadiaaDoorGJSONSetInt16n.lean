/-
  Lemmas, 2 texts in one: JNum, JVal. Each says its conditions.
-/
import Derived.Test.YtlnpiigdjjadiaaDoorGJSONSetInt16m
import Derived.Lib.ItoaMem

/-
  spec's reader of JSON: whole numbers. Conditions: the text is at most 2^40 bytes; numbers of 64 bits.
-/
namespace Go.Proofs.YtlnpiigdjjadiaaDoor
set_option linter.unusedSimpArgs false
set_option linter.unusedVariables false
set_option linter.unusedVariables false
open Go.RowKit
/-- What digits say. -/
def dv (ds : List UInt8) : Nat := ds.foldl (fun a c => 10 * a + (c.toNat - 48)) 0
theorem dv_snoc (ds : List UInt8) (c : UInt8) : dv (ds ++ [c]) = 10 * dv ds + (c.toNat - 48) := by simp [dv]
theorem dv_one (c : UInt8) : dv [c] = c.toNat - 48 := by simp [dv]
theorem dv_mono (ds : List UInt8) (k : Nat) : dv (ds.take k) ≤ dv ds := by
  have h : ∀ (l : List UInt8) (a : Nat), a ≤ l.foldl (fun a c => 10 * a + (c.toNat - 48)) a := by
    intro l
    induction l with
    | nil => intro a; exact Nat.le_refl _
    | cons c l ih =>
      intro a
      have := ih (10 * a + (c.toNat - 48))
      simp only [List.foldl_cons]
      omega
  conv => rhs; rw [← List.take_append_drop k ds]
  unfold dv
  rw [List.foldl_append]
  exact h _ _
def Digit (c : UInt8) : Prop := 48 ≤ c.toNat ∧ c.toNat ≤ 57
theorem noOver (U d : Nat) (h : 10 * U + d ≤ 18446744073709551615) (hd : d ≤ 9) : ¬ ((18446744073709551615 - (d : Int)) / 10 < (U : Int)) := by omega
theorem decDv : ∀ u : Nat, dv (Lib.decDigits u) = u := by
  intro u
  induction u using Nat.strongRecOn with
  | _ u ih =>
    rw [Lib.decDigits]
    split
    · rename_i h
      have : (UInt8.ofNat (48 + u)).toNat = 48 + u := by simp; omega
      rw [dv_one, this]
      omega
    · rename_i h
      have : (UInt8.ofNat (48 + u % 10)).toNat = 48 + u % 10 := by simp; omega
      rw [dv_snoc, ih (u / 10) (by omega), this]
      omega
theorem decDigit : ∀ (u : Nat) (c : UInt8), c ∈ Lib.decDigits u → Digit c := by
  intro u
  induction u using Nat.strongRecOn with
  | _ u ih =>
    intro c hc
    rw [Lib.decDigits] at hc
    split at hc
    · rename_i h
      have hc := List.mem_singleton.1 hc
      subst hc
      have : (UInt8.ofNat (48 + u)).toNat = 48 + u := by simp; omega
      unfold Digit
      omega
    · rename_i h
      rcases List.mem_append.1 hc with hc | hc
      · exact ih (u / 10) (by omega) c hc
      · have hc := List.mem_singleton.1 hc
        subst hc
        have : (UInt8.ofNat (48 + u % 10)).toNat = 48 + u % 10 := by simp; omega
        unfold Digit
        omega
theorem decHead : ∀ (u : Nat), ∃ c r, Lib.decDigits u = c :: r ∧ (r ≠ [] → c.toNat ≠ 48) := by
  intro u
  induction u using Nat.strongRecOn with
  | _ u ih =>
    rw [Lib.decDigits]
    split
    · exact ⟨_, [], rfl, fun h => absurd rfl h⟩
    · rename_i h
      obtain ⟨c, r, hc, hr⟩ := ih (u / 10) (by omega)
      rw [hc]
      refine ⟨c, r ++ [UInt8.ofNat (48 + u % 10)], rfl, fun _ => ?_⟩
      rcases r with _ | ⟨a, r⟩
      · have h1 := decDv (u / 10)
        rw [hc] at h1
        have h2 : dv [c] = c.toNat - 48 := by simp [dv]
        omega
      · exact hr (by simp)
theorem at_get {S : ByteArray} {p : Nat} : ∀ (ds : List UInt8) (tl : List UInt8), At S p (ds ++ tl) → ∀ (k : Nat) (hk : k < ds.length), ∃ hp : p + k < S.size, S[p + k] = ds[k]
  | [], _, _, k, hk => by simp at hk
  | c :: ds, tl, h, k, hk => by
    obtain ⟨hp, hc, h2⟩ := At.cons h
    rcases k with _ | k
    · exact ⟨hp, hc⟩
    · obtain ⟨h3, h4⟩ := at_get ds tl h2 k (by simpa using hk)
      refine ⟨by omega, ?_⟩
      simp only [List.getElem_cons_succ]
      rw [← h4]
      congr 1
      omega
theorem noOver2 (U d : Nat) (h : 10 * U + d ≤ 18446744073709551615) (hd : d ≤ 9) : (U : Int) ≤ (18446744073709551615 - (d : Int)) / 10 := by omega
theorem wrapMul (U d : Nat) (h : 10 * U + d ≤ 18446744073709551615) : IntKind.u64.wrap (10 * (U : Int)) = 10 * (U : Int) ∧ IntKind.u64.wrap (10 * (U : Int) + (d : Int)) = ((10 * U + d : Nat) : Int) := by
  simp only [IntKind.wrap, IntKind.bits, IntKind.signed]
  simp
  omega
theorem wrapSub (d : Nat) (hd : d ≤ 9) : IntKind.u64.wrap (18446744073709551615 - (d : Int)) = 18446744073709551615 - (d : Int) ∧ IntKind.u64.wrap (d : Int) = (d : Int) := by
  simp only [IntKind.wrap, IntKind.bits, IntKind.signed]
  simp
  omega
theorem wrapDig (c : UInt8) (h : Digit c) : IntKind.u8.wrap ((c.toNat : Int) - 48) = ((c.toNat - 48 : Nat) : Int) := by
  obtain ⟨h1, h2⟩ := h
  simp only [IntKind.wrap, IntKind.bits, IntKind.signed]
  simp
  omega
/-- Where the reader stands. -/
def jpos (g : Nat) (w : World) : Nat := match w.cell? ⟨g, 1, none⟩ with
  | some (.int _ p) => p.toNat
  | _ => 0
theorem JT.pos {w : World} {g p : Nat} {S : ByteArray} (h : JT w g S p) : jpos g w = p := by
  unfold jpos
  rw [h.cells.1.2.1]
  simp
theorem JOn.fin {S : ByteArray} {g r : Nat} {w W : World} {o : Obj} (hg : g < w.heap.size) (h : JOn S g r (w.alloc o) W) (c0 c1 c2 c3 c4 : Value) :
    JOn S g r w (((((W.setCell ⟨w.heap.size, 0, none⟩ c0).setCell ⟨w.heap.size, 1, none⟩ c1).setCell ⟨w.heap.size, 2, none⟩ c2).setCell ⟨w.heap.size, 3, none⟩ c3).setCell ⟨w.heap.size, 4, none⟩ c4) := by
  have hne : g ≠ w.heap.size := by omega
  refine ⟨?_, ?_⟩
  · exact Blk.far (Blk.far (Blk.far (Blk.far (Blk.far h.1 hne _) hne _) hne _) hne _) hne _
  · have h0 : w.grownBy W (some g) := grown_trans' (World.grownBy_alloc w o (some g)) h.2 (fun _ h => .inl h)
    have hs : ∀ (X : World) (i : Nat) (v : Value), w.grownBy X (some g) → w.grownBy (X.setCell ⟨w.heap.size, i, none⟩ v) (some g) := fun X i v hx => grown_trans' hx (grownSetJ X _ v) (fun j hj => by cases hj; exact .inr (Nat.le_refl _))
    exact hs _ _ _ (hs _ _ _ (hs _ _ _ (hs _ _ _ (hs _ _ _ h0))))
/-- A number is read: the reader stands behind it. -/
def NumPost (S : ByteArray) (g r : Nat) (kind : Int) (num : Nat) (w : World) (e : Ending) (w' : World) : Prop :=
  e = .returned (.agg #[.int .i64 kind, .int .u64 (num : Int), .string ⟨#[]⟩, .int .i64 0, .slice none 0 0]) ∧ JOn S g r w w'

set_option maxRecDepth 100000 in
set_option maxHeartbeats 3200000 in
theorem number_pos (S : ByteArray) (g p p1 n : Nat) (ds : List UInt8) (c : UInt8) (tl : List UInt8) (w : World) (hS : S.size ≤ 1099511627776) (hJ : JT w g S p) (hp : p < S.size) (hc : S[p] ≠ 45) (h1 : p1 = p) (hat : At S p1 (ds ++ c :: tl)) (hds : ∀ x ∈ ds, Digit x) (hcd : ¬ Digit c) (hn : n = ds.length) (hn0 : 0 < n) (hlead : 1 < n → ds[0]? ≠ some 48) (hlim : dv ds ≤ 18446744073709551615) :
    Calls Tryd.prog 56 #[.pointer (some ⟨g, 0, none⟩)] w (NumPost S g (p1 + n) 3 (dv ds) w) := by
  have hJ' : JT (w.alloc (.cells #[.int .i64 0, .int .u64 0, .string ⟨#[]⟩, .int .i64 0, .slice none 0 0] 29)) g S p := Blk.alloc hJ _
  have HW := hide (word_no1 S g p 45 (w.alloc (.cells #[.int .i64 0, .int .u64 0, .string ⟨#[]⟩, .int .i64 0, .slice none 0 0] 29)) hS hJ' hp hc)
  obtain ⟨T, hT⟩ : ∃ T, T = NumPost S g (p1 + n) 3 (dv ds) w := ⟨_, rfl⟩
  rw [← hT]
  have HT := hide hT
  have HN := hide hn
  have HDS := hide hds
  have HLIM := hide hlim
  have hgl := Blk.lt hJ
  have HAT := hide hat
  have HLEAD := hide hlead
  have hp1S : p1 + n < S.size := by
    have h2 := At.app hat
    obtain ⟨h3, _, _⟩ := At.cons h2
    rw [hn]
    exact h3
  obtain ⟨w0, hw0⟩ : ∃ w0, w0 = w.alloc (.cells #[.int .i64 0, .int .u64 0, .string ⟨#[]⟩, .int .i64 0, .slice none 0 0] 29) := ⟨_, rfl⟩
  have HW0 := hide hw0
  have H1 := hide h1
  clear h1 hT hn hds hlim hc hw0 hat hlead
  go_enter Tryd.func56, Tryd.ntmps56
  go_wp2_with (go_at_call 53; go_loud (refine (unhide HW).mono ?_; rintro e w1 ⟨rfl, hq⟩; have hJ1 : JOn S g p1 _ w1 := (unhide H1) ▸ (JOn.quiet hJ' hq); rw [← unhide HW0] at hJ1; obtain ⟨⟨c0, c1, c2⟩, f0, f1, f2⟩ := hJ1.1.cells; have HJ1 := hide hJ1; clear hq hJ1 hJ'))
  go_loopw [5] (fun u wr => ∃ k : Nat, k ≤ n ∧ u = .int .u64 (dv (ds.take k) : Int) ∧ JOn S g (p1 + k) w0 wr) (fun _ wr => p1 + n - jpos g wr)
  case atStart => exact ⟨0, Nat.zero_le _, rfl, unhide HJ1⟩
  case round =>
    obtain ⟨k, hk, rfl, hJr⟩ := hrel
    obtain ⟨⟨e0, e1, e2⟩, g0, g1, g2⟩ := hJr.1.cells
    have hpos := hJr.1.pos
    by_cases hlt : k < n
    · have hkd : k < ds.length := by have := unhide HN; omega
      obtain ⟨hmS, hSm⟩ := at_get ds _ (unhide HAT) k hkd
      have hdig := unhide HDS ds[k] (List.getElem_mem hkd)
      have hsn : dv (ds.take (k + 1)) = 10 * dv (ds.take k) + (ds[k].toNat - 48) := by rw [List.take_succ_eq_append_getElem hkd, dv_snoc]
      have hover : 10 * dv (ds.take k) + (ds[k].toNat - 48) ≤ 18446744073709551615 := by
        rw [← hsn]
        have h1 := dv_mono ds (k + 1)
        have h2 := unhide HLIM
        omega
      rw [← hSm] at hdig hsn hover
      obtain ⟨m, hm⟩ : ∃ m, m = p1 + k := ⟨_, rfl⟩
      have hJm := hJr
      rw [← hm] at hJm
      have HJM := hide hJm
      simp only [← hm] at hmS hdig hsn hover e1 hpos
      obtain ⟨d, hd⟩ : ∃ d, d = S[m].toNat - 48 := ⟨_, rfl⟩
      rw [← hd] at hsn hover
      have hd9 : d ≤ 9 := by have := hdig.2; omega
      generalize dv (ds.take k) = U at *
      have HSN := hide hsn
      have hs1 := wrapDig S[m] hdig
      rw [← hd] at hs1
      have hs2 := wrapSub d hd9
      have hs3 := wrapMul U d hover
      obtain ⟨q1, q2⟩ := hs2
      obtain ⟨q3, q4⟩ := hs3
      have q5 := noOver U d hover hd9
      have b1 : decide ((48 : Int) ≤ (S[m].toNat : Int)) = true := by have := hdig.1; simp; omega
      have b2 : decide ((S[m].toNat : Int) ≤ (57 : Int)) = true := by have := hdig.2; simp; omega
      have b3 : decide ((m : Int) < (S.size : Int)) = true := by simp; omega
      have hm0 : (0 : Int) ≤ (m : Int) := by omega
      have hm1 : (m : Int) < (S.size : Int) := by omega
      have HM := hide hm
      have HPOS := hide hpos
      clear hJr hsn hover hd hm hSm hdig hJm hpos
      go_wp2_with fail
      go_quiet (fail)
      go_wp2_with fail
      go_quiet (fail)
      go_wp2_with fail
      have hstep : ∀ (q : Nat), JOn S g (p1 + (k + 1)) w0 ((wr.drewN q).setCell ⟨g, 1, none⟩ (.int .i64 ((m : Int) + 1))) := fun q => JOn.step (unhide HJM) q (p1 + (k + 1)) _ (by have := unhide HM; simp; omega)
      go_roundw
      case rel => exact ⟨k + 1, hlt, by rw [unhide HSN]; simp, hstep _⟩
      case measure =>
        rw [(hstep _).1.pos, unhide HPOS]
        have := unhide HM
        omega
    · obtain rfl : k = n := by omega
      have h2 := At.app (unhide HAT)
      rw [← unhide HN] at h2
      obtain ⟨hmS, hSm, _⟩ := At.cons h2
      obtain ⟨h0S, hS0⟩ := at_get ds _ (unhide HAT) 0 (by have := unhide HN; omega)
      have hall : ds.take k = ds := List.take_of_length_le (by have := unhide HN; omega)
      rw [hall]
      have hld : 1 < k → S[p1 + 0] ≠ 48 := fun h => by
        have h5 := unhide HLEAD h
        rw [hS0]
        intro e
        apply h5
        rw [List.getElem?_eq_getElem (by have := unhide HN; omega), e]
      have hU := unhide HLIM
      rw [← hSm] at hcd
      clear h2 hSm hS0
      simp only [Nat.add_zero] at h0S hld
      obtain ⟨m, hm⟩ : ∃ m, m = p1 + k := ⟨_, rfl⟩
      have HJR := hide hJr
      simp only [← hm] at hmS hcd e1
      generalize dv ds = U at *
      have b3 : decide ((m : Int) < (S.size : Int)) = true := by simp; omega
      have hm0 : (0 : Int) ≤ (m : Int) := by omega
      have hm1 : (m : Int) < (S.size : Int) := by omega
      have hp0 : (0 : Int) ≤ (p1 : Int) := by omega
      have hp2 : (p1 : Int) < (S.size : Int) := by omega
      have r1 : ((m : Int) == (p1 : Int)) = false := by simp; omega
      have r1' : ¬ (m : Int) = (p1 : Int) := by omega
      have r5 : ¬ (9223372036854775808 < (U : Int)) ∨ True := .inr trivial
      have hU2 : True := trivial
      have hblk := Blk.grown (g := w.heap.size) (t := 29) (cs := #[.int .i64 0, .int .u64 0, .string ⟨#[]⟩, .int .i64 0, .slice none 0 0]) (by rw [unhide HW0]; exact Blk.new _ _ _) hJr.2 (by intro e; injection e with e; omega)
      obtain ⟨⟨z0, z1, z2, z3, z4⟩, ⟨y0, y1, y2, y3, y4⟩⟩ := five_cells hblk
      have hzl := Blk.lt hblk
      have HM := hide hm
      have hnz : (1 : Int) < (m : Int) - (p1 : Int) ∨ ¬ (1 : Int) < (m : Int) - (p1 : Int) := by omega
      have hdg : (S[m].toNat : Int) < 48 ∨ (57 : Int) < (S[m].toNat : Int) := by
        have : ¬ (48 ≤ S[m].toNat ∧ S[m].toNat ≤ 57) := hcd
        omega
      have hmk : (1 : Int) < (m : Int) - (p1 : Int) → ¬ (S[p1].toNat : Int) = 48 := fun h e => hld (by omega) (UInt8.toNat_inj.1 (by show S[p1].toNat = 48; omega))
      clear hJr hcd hm hall hld hpos hU hblk
      have hfin : ∀ q, (fun w' => JOn S g (p1 + k) w0 w') (wr.drewN q) := fun q => JOn.trans (unhide HJR) (JOn.quiet (unhide HJR).1 (Quiet.drewN _ q))
      rcases hdg with hdg | hdg
      · have b1 : decide ((48 : Int) ≤ (S[m].toNat : Int)) = false := by simp; omega
        rcases hnz with hnz | hnz
        · have hS4 := hmk hnz
          have hS5 : ((S[p1].toNat : Int) == 48) = false := by simpa using hS4
          have r2 : decide ((1 : Int) < (m : Int) - (p1 : Int)) = true := by simpa using hnz
          clear hmk
          go_wp2_with fail
          go_quiet (fail)
          go_wp2_with fail
          refine bodyPost_ret (v := .agg #[.int .i64 3, .int .u64 (U : Int), .string ⟨#[]⟩, .int .i64 0, .slice none 0 0]) (by simp [results, Tryd.results56, go_sem, z0, z1, z2, z3, z4, hzl]) rfl ?_
          rw [unhide HT]
          refine ⟨rfl, ?_⟩
          have hj := hfin nq
          rw [unhide HW0] at hj
          exact JOn.fin hgl hj _ _ _ _ _
        · have r2 : decide ((1 : Int) < (m : Int) - (p1 : Int)) = false := by simpa using hnz
          clear hmk
          go_wp2_with fail
          go_quiet (fail)
          go_wp2_with fail
          refine bodyPost_ret (v := .agg #[.int .i64 3, .int .u64 (U : Int), .string ⟨#[]⟩, .int .i64 0, .slice none 0 0]) (by simp [results, Tryd.results56, go_sem, z0, z1, z2, z3, z4, hzl]) rfl ?_
          rw [unhide HT]
          refine ⟨rfl, ?_⟩
          have hj := hfin nq
          rw [unhide HW0] at hj
          exact JOn.fin hgl hj _ _ _ _ _
      · have b1 : decide ((48 : Int) ≤ (S[m].toNat : Int)) = true := by simp; omega
        have b2 : decide ((S[m].toNat : Int) ≤ (57 : Int)) = false := by simp; omega
        rcases hnz with hnz | hnz
        · have hS4 := hmk hnz
          have hS5 : ((S[p1].toNat : Int) == 48) = false := by simpa using hS4
          have r2 : decide ((1 : Int) < (m : Int) - (p1 : Int)) = true := by simpa using hnz
          clear hmk
          go_wp2_with fail
          go_quiet (fail)
          go_wp2_with fail
          refine bodyPost_ret (v := .agg #[.int .i64 3, .int .u64 (U : Int), .string ⟨#[]⟩, .int .i64 0, .slice none 0 0]) (by simp [results, Tryd.results56, go_sem, z0, z1, z2, z3, z4, hzl]) rfl ?_
          rw [unhide HT]
          refine ⟨rfl, ?_⟩
          have hj := hfin nq
          rw [unhide HW0] at hj
          exact JOn.fin hgl hj _ _ _ _ _
        · have r2 : decide ((1 : Int) < (m : Int) - (p1 : Int)) = false := by simpa using hnz
          clear hmk
          go_wp2_with fail
          go_quiet (fail)
          go_wp2_with fail
          refine bodyPost_ret (v := .agg #[.int .i64 3, .int .u64 (U : Int), .string ⟨#[]⟩, .int .i64 0, .slice none 0 0]) (by simp [results, Tryd.results56, go_sem, z0, z1, z2, z3, z4, hzl]) rfl ?_
          rw [unhide HT]
          refine ⟨rfl, ?_⟩
          have hj := hfin nq
          rw [unhide HW0] at hj
          exact JOn.fin hgl hj _ _ _ _ _
set_option maxRecDepth 100000 in
set_option maxHeartbeats 3200000 in
theorem number_neg (S : ByteArray) (g p p1 n : Nat) (ds : List UInt8) (c : UInt8) (tl : List UInt8) (w : World) (hS : S.size ≤ 1099511627776) (hJ : JT w g S p) (hp : p < S.size) (hc : S[p] = 45) (h1 : p1 = p + 1) (hat : At S p1 (ds ++ c :: tl)) (hds : ∀ x ∈ ds, Digit x) (hcd : ¬ Digit c) (hn : n = ds.length) (hn0 : 0 < n) (hlead : 1 < n → ds[0]? ≠ some 48) (hlim : dv ds ≤ 9223372036854775808) (num : Nat) (hnum : IntKind.u64.wrap (-(dv ds : Int)) = (num : Int)) :
    Calls Tryd.prog 56 #[.pointer (some ⟨g, 0, none⟩)] w (NumPost S g (p1 + n) 2 (num) w) := by
  have hJ' : JT (w.alloc (.cells #[.int .i64 0, .int .u64 0, .string ⟨#[]⟩, .int .i64 0, .slice none 0 0] 29)) g S p := Blk.alloc hJ _
  have HW := hide (word_yes1 S g p 45 (w.alloc (.cells #[.int .i64 0, .int .u64 0, .string ⟨#[]⟩, .int .i64 0, .slice none 0 0] 29)) hS hJ' hp hc)
  obtain ⟨T, hT⟩ : ∃ T, T = NumPost S g (p1 + n) 2 (num) w := ⟨_, rfl⟩
  rw [← hT]
  have HT := hide hT
  have HN := hide hn
  have HDS := hide hds
  have HLIM := hide hlim
  have hgl := Blk.lt hJ
  have HAT := hide hat
  have HLEAD := hide hlead
  have hp1S : p1 + n < S.size := by
    have h2 := At.app hat
    obtain ⟨h3, _, _⟩ := At.cons h2
    rw [hn]
    exact h3
  obtain ⟨w0, hw0⟩ : ∃ w0, w0 = w.alloc (.cells #[.int .i64 0, .int .u64 0, .string ⟨#[]⟩, .int .i64 0, .slice none 0 0] 29) := ⟨_, rfl⟩
  have HW0 := hide hw0
  have H1 := hide h1
  clear h1 hT hn hds hlim hc hw0 hat hlead
  go_enter Tryd.func56, Tryd.ntmps56
  go_wp2_with (go_at_call 53; go_loud (refine (unhide HW).mono ?_; rintro e w1 ⟨rfl, hq⟩; have hJ1 : JOn S g p1 _ w1 := (unhide H1) ▸ (hq); rw [← unhide HW0] at hJ1; obtain ⟨⟨c0, c1, c2⟩, f0, f1, f2⟩ := hJ1.1.cells; have HJ1 := hide hJ1; clear hq hJ1 hJ'))
  go_loopw [5] (fun u wr => ∃ k : Nat, k ≤ n ∧ u = .int .u64 (dv (ds.take k) : Int) ∧ JOn S g (p1 + k) w0 wr) (fun _ wr => p1 + n - jpos g wr)
  case atStart => exact ⟨0, Nat.zero_le _, rfl, unhide HJ1⟩
  case round =>
    obtain ⟨k, hk, rfl, hJr⟩ := hrel
    obtain ⟨⟨e0, e1, e2⟩, g0, g1, g2⟩ := hJr.1.cells
    have hpos := hJr.1.pos
    by_cases hlt : k < n
    · have hkd : k < ds.length := by have := unhide HN; omega
      obtain ⟨hmS, hSm⟩ := at_get ds _ (unhide HAT) k hkd
      have hdig := unhide HDS ds[k] (List.getElem_mem hkd)
      have hsn : dv (ds.take (k + 1)) = 10 * dv (ds.take k) + (ds[k].toNat - 48) := by rw [List.take_succ_eq_append_getElem hkd, dv_snoc]
      have hover : 10 * dv (ds.take k) + (ds[k].toNat - 48) ≤ 18446744073709551615 := by
        rw [← hsn]
        have h1 := dv_mono ds (k + 1)
        have h2 := unhide HLIM
        omega
      rw [← hSm] at hdig hsn hover
      obtain ⟨m, hm⟩ : ∃ m, m = p1 + k := ⟨_, rfl⟩
      have hJm := hJr
      rw [← hm] at hJm
      have HJM := hide hJm
      simp only [← hm] at hmS hdig hsn hover e1 hpos
      obtain ⟨d, hd⟩ : ∃ d, d = S[m].toNat - 48 := ⟨_, rfl⟩
      rw [← hd] at hsn hover
      have hd9 : d ≤ 9 := by have := hdig.2; omega
      generalize dv (ds.take k) = U at *
      have HSN := hide hsn
      have hs1 := wrapDig S[m] hdig
      rw [← hd] at hs1
      have hs2 := wrapSub d hd9
      have hs3 := wrapMul U d hover
      obtain ⟨q1, q2⟩ := hs2
      obtain ⟨q3, q4⟩ := hs3
      have q5 := noOver U d hover hd9
      have b1 : decide ((48 : Int) ≤ (S[m].toNat : Int)) = true := by have := hdig.1; simp; omega
      have b2 : decide ((S[m].toNat : Int) ≤ (57 : Int)) = true := by have := hdig.2; simp; omega
      have b3 : decide ((m : Int) < (S.size : Int)) = true := by simp; omega
      have hm0 : (0 : Int) ≤ (m : Int) := by omega
      have hm1 : (m : Int) < (S.size : Int) := by omega
      have HM := hide hm
      have HPOS := hide hpos
      clear hJr hsn hover hd hm hSm hdig hJm hpos
      go_wp2_with fail
      go_quiet (fail)
      go_wp2_with fail
      go_quiet (fail)
      go_wp2_with fail
      have hstep : ∀ (q : Nat), JOn S g (p1 + (k + 1)) w0 ((wr.drewN q).setCell ⟨g, 1, none⟩ (.int .i64 ((m : Int) + 1))) := fun q => JOn.step (unhide HJM) q (p1 + (k + 1)) _ (by have := unhide HM; simp; omega)
      go_roundw
      case rel => exact ⟨k + 1, hlt, by rw [unhide HSN]; simp, hstep _⟩
      case measure =>
        rw [(hstep _).1.pos, unhide HPOS]
        have := unhide HM
        omega
    · obtain rfl : k = n := by omega
      have h2 := At.app (unhide HAT)
      rw [← unhide HN] at h2
      obtain ⟨hmS, hSm, _⟩ := At.cons h2
      obtain ⟨h0S, hS0⟩ := at_get ds _ (unhide HAT) 0 (by have := unhide HN; omega)
      have hall : ds.take k = ds := List.take_of_length_le (by have := unhide HN; omega)
      rw [hall]
      have hld : 1 < k → S[p1 + 0] ≠ 48 := fun h => by
        have h5 := unhide HLEAD h
        rw [hS0]
        intro e
        apply h5
        rw [List.getElem?_eq_getElem (by have := unhide HN; omega), e]
      have hU := unhide HLIM
      rw [← hSm] at hcd
      clear h2 hSm hS0
      simp only [Nat.add_zero] at h0S hld
      obtain ⟨m, hm⟩ : ∃ m, m = p1 + k := ⟨_, rfl⟩
      have HJR := hide hJr
      simp only [← hm] at hmS hcd e1
      generalize dv ds = U at *
      have b3 : decide ((m : Int) < (S.size : Int)) = true := by simp; omega
      have hm0 : (0 : Int) ≤ (m : Int) := by omega
      have hm1 : (m : Int) < (S.size : Int) := by omega
      have hp0 : (0 : Int) ≤ (p1 : Int) := by omega
      have hp2 : (p1 : Int) < (S.size : Int) := by omega
      have r1 : ((m : Int) == (p1 : Int)) = false := by simp; omega
      have r1' : ¬ (m : Int) = (p1 : Int) := by omega
      have r5 : ¬ (9223372036854775808 < (U : Int)) ∨ True := .inr trivial
      have hU2 : ¬ (9223372036854775808 < (U : Int)) := by omega
      have hblk := Blk.grown (g := w.heap.size) (t := 29) (cs := #[.int .i64 0, .int .u64 0, .string ⟨#[]⟩, .int .i64 0, .slice none 0 0]) (by rw [unhide HW0]; exact Blk.new _ _ _) hJr.2 (by intro e; injection e with e; omega)
      obtain ⟨⟨z0, z1, z2, z3, z4⟩, ⟨y0, y1, y2, y3, y4⟩⟩ := five_cells hblk
      have hzl := Blk.lt hblk
      have HM := hide hm
      have hnz : (1 : Int) < (m : Int) - (p1 : Int) ∨ ¬ (1 : Int) < (m : Int) - (p1 : Int) := by omega
      have hdg : (S[m].toNat : Int) < 48 ∨ (57 : Int) < (S[m].toNat : Int) := by
        have : ¬ (48 ≤ S[m].toNat ∧ S[m].toNat ≤ 57) := hcd
        omega
      have hmk : (1 : Int) < (m : Int) - (p1 : Int) → ¬ (S[p1].toNat : Int) = 48 := fun h e => hld (by omega) (UInt8.toNat_inj.1 (by show S[p1].toNat = 48; omega))
      clear hJr hcd hm hall hld hpos hU hblk
      have hfin : ∀ q, (fun w' => JOn S g (p1 + k) w0 w') (wr.drewN q) := fun q => JOn.trans (unhide HJR) (JOn.quiet (unhide HJR).1 (Quiet.drewN _ q))
      rcases hdg with hdg | hdg
      · have b1 : decide ((48 : Int) ≤ (S[m].toNat : Int)) = false := by simp; omega
        rcases hnz with hnz | hnz
        · have hS4 := hmk hnz
          have hS5 : ((S[p1].toNat : Int) == 48) = false := by simpa using hS4
          have r2 : decide ((1 : Int) < (m : Int) - (p1 : Int)) = true := by simpa using hnz
          clear hmk
          go_wp2_with fail
          go_quiet (fail)
          go_wp2_with fail
          refine bodyPost_ret (v := .agg #[.int .i64 2, .int .u64 (num : Int), .string ⟨#[]⟩, .int .i64 0, .slice none 0 0]) (by simp [results, Tryd.results56, go_sem, z0, z1, z2, z3, z4, hzl]) rfl ?_
          rw [unhide HT]
          refine ⟨rfl, ?_⟩
          have hj := hfin nq
          rw [unhide HW0] at hj
          exact JOn.fin hgl hj _ _ _ _ _
        · have r2 : decide ((1 : Int) < (m : Int) - (p1 : Int)) = false := by simpa using hnz
          clear hmk
          go_wp2_with fail
          go_quiet (fail)
          go_wp2_with fail
          refine bodyPost_ret (v := .agg #[.int .i64 2, .int .u64 (num : Int), .string ⟨#[]⟩, .int .i64 0, .slice none 0 0]) (by simp [results, Tryd.results56, go_sem, z0, z1, z2, z3, z4, hzl]) rfl ?_
          rw [unhide HT]
          refine ⟨rfl, ?_⟩
          have hj := hfin nq
          rw [unhide HW0] at hj
          exact JOn.fin hgl hj _ _ _ _ _
      · have b1 : decide ((48 : Int) ≤ (S[m].toNat : Int)) = true := by simp; omega
        have b2 : decide ((S[m].toNat : Int) ≤ (57 : Int)) = false := by simp; omega
        rcases hnz with hnz | hnz
        · have hS4 := hmk hnz
          have hS5 : ((S[p1].toNat : Int) == 48) = false := by simpa using hS4
          have r2 : decide ((1 : Int) < (m : Int) - (p1 : Int)) = true := by simpa using hnz
          clear hmk
          go_wp2_with fail
          go_quiet (fail)
          go_wp2_with fail
          refine bodyPost_ret (v := .agg #[.int .i64 2, .int .u64 (num : Int), .string ⟨#[]⟩, .int .i64 0, .slice none 0 0]) (by simp [results, Tryd.results56, go_sem, z0, z1, z2, z3, z4, hzl]) rfl ?_
          rw [unhide HT]
          refine ⟨rfl, ?_⟩
          have hj := hfin nq
          rw [unhide HW0] at hj
          exact JOn.fin hgl hj _ _ _ _ _
        · have r2 : decide ((1 : Int) < (m : Int) - (p1 : Int)) = false := by simpa using hnz
          clear hmk
          go_wp2_with fail
          go_quiet (fail)
          go_wp2_with fail
          refine bodyPost_ret (v := .agg #[.int .i64 2, .int .u64 (num : Int), .string ⟨#[]⟩, .int .i64 0, .slice none 0 0]) (by simp [results, Tryd.results56, go_sem, z0, z1, z2, z3, z4, hzl]) rfl ?_
          rw [unhide HT]
          refine ⟨rfl, ?_⟩
          have hj := hfin nq
          rw [unhide HW0] at hj
          exact JOn.fin hgl hj _ _ _ _ _
end Go.Proofs.YtlnpiigdjjadiaaDoor

/-
  spec's reader of JSON: values that are numbers or arrays. Conditions: the text is at most 2^40 bytes; numbers of 64 bits.
-/
namespace Go.Proofs.YtlnpiigdjjadiaaDoor
set_option linter.unusedSimpArgs false
set_option linter.unusedVariables false
set_option linter.unusedVariables false
open Go.RowKit
theorem num_itoa (S : ByteArray) (g p : Nat) (x : Int) (c : UInt8) (tl : List UInt8) (w : World) (hS : S.size ≤ 1099511627776) (hJ : JT w g S p) (hat : At S p (Lib.itoa x ++ c :: tl)) (hcd : ¬ Digit c) (h1 : -9223372036854775808 ≤ x) (h2 : x ≤ 18446744073709551615) :
    Calls Tryd.prog 56 #[.pointer (some ⟨g, 0, none⟩)] w (NumPost S g (p + (Lib.itoa x).length) (if x < 0 then 2 else 3) ((x % 18446744073709551616).toNat) w) := by
  by_cases hx : x < 0
  · obtain ⟨u, hu⟩ : ∃ u : Nat, u = x.natAbs := ⟨_, rfl⟩
    have e : Lib.itoa x = 45 :: Lib.decDigits u := by unfold Lib.itoa; rw [if_pos hx, hu]
    rw [e] at hat ⊢
    rw [if_pos hx]
    obtain ⟨hp, hc, hat2⟩ := At.cons hat
    obtain ⟨d, r, hd, hdr⟩ := decHead u
    have hl : (45 :: Lib.decDigits u).length = (Lib.decDigits u).length + 1 := rfl
    rw [hl, show p + ((Lib.decDigits u).length + 1) = (p + 1) + (Lib.decDigits u).length by omega]
    refine number_neg S g p (p + 1) _ (Lib.decDigits u) c tl w hS hJ hp hc rfl hat2 (fun y hy => decDigit u y hy) hcd rfl (by rw [hd]; simp) (fun hn => ?_) (by rw [decDv]; omega) _ ?_
    · rw [hd]
      intro e2
      have e3 : d = 48 := by simpa using e2
      rw [hd] at hn
      have := hdr (by intro e4; subst e4; simp at hn)
      rw [e3] at this
      exact this rfl
    · rw [decDv]
      simp only [IntKind.wrap, IntKind.bits, IntKind.signed]
      simp
      omega
  · obtain ⟨u, rfl⟩ := Int.eq_ofNat_of_zero_le (show 0 ≤ x by omega)
    have e : Lib.itoa (u : Int) = Lib.decDigits u := Lib.itoa_nonneg u
    rw [e] at hat ⊢
    rw [if_neg hx]
    obtain ⟨d, r, hd, hdr⟩ := decHead u
    have hat0 := hat
    rw [hd, List.cons_append] at hat0
    obtain ⟨hp, hc, _⟩ := At.cons hat0
    have hdd : Digit d := decDigit u d (by rw [hd]; simp)
    have e6 : (((u : Int) % 18446744073709551616).toNat) = dv (Lib.decDigits u) := by rw [decDv]; omega
    rw [e6]
    refine number_pos S g p p _ (Lib.decDigits u) c tl w hS hJ hp (by rw [hc]; intro e7; have := hdd.1; rw [e7] at this; exact absurd this (by decide)) rfl hat (fun y hy => decDigit u y hy) hcd rfl (by rw [hd]; simp) (fun hn => ?_) (by rw [decDv]; omega)
    rw [hd]
    intro e2
    have e3 : d = 48 := by simpa using e2
    rw [hd] at hn
    have := hdr (by intro e4; subst e4; simp at hn)
    rw [e3] at this
    exact this rfl
theorem JT.quiet {w w' : World} {g p : Nat} {S : ByteArray} (h : JT w g S p) (hq : Quiet w w') : JT w' g S p := by
  obtain ⟨q, rfl⟩ := hq
  exact h.drewN q
/-- Bytes with which no word, text or object begins. -/
def Plain0 (c : UInt8) : Prop := NoBlank c ∧ c ≠ 110 ∧ c ≠ 116 ∧ c ≠ 102 ∧ c ≠ 34 ∧ c ≠ 123
theorem ne_nat {c d : UInt8} (h : c ≠ d) : ¬ (c.toNat : Int) = (d.toNat : Int) := fun e => h (UInt8.toNat_inj.1 (by omega))
/-- What a call on the reader leaves: a value, the reader at r. -/
def ValPost (S : ByteArray) (g r : Nat) (kind : Int) (R : Nat → Option Addr → Nat → Nat → World → Prop) (w : World) (e : Ending) (w' : World) : Prop :=
  ∃ (num : Nat) (K : Option Addr) (kl kc : Nat), e = .returned (.agg #[.int .i64 kind, .int .u64 (num : Int), .string ⟨#[]⟩, .int .i64 0, .slice K kl kc]) ∧ JOn S g r w w' ∧ R num K kl kc w'

set_option maxRecDepth 100000 in
set_option maxHeartbeats 6400000 in
theorem value_list (S : ByteArray) (g p r : Nat) (lv : Int) (w : World) (hS : S.size ≤ 1099511627776) (hJ : JT w g S p) (hp : p < S.size) (hb : Plain0 S[p]) (hl91 : S[p] = 91) (hlv : 0 < lv) (kind : Int) (R : Nat → Option Addr → Nat → Nat → World → Prop) (hR : ∀ (num : Nat) (K : Option Addr) (kl kc : Nat) (W : World) (i : Nat) (v : Value), R num K kl kc W → R num K kl kc (W.setCell ⟨w.heap.size, i, none⟩ v))
    (hC : ∀ W, JT W g S p → (w.alloc (.cells #[.int .i64 0, .int .u64 0, .string ⟨#[]⟩, .int .i64 0, .slice none 0 0] 29)).heap.size ≤ W.heap.size → Calls Tryd.prog 55 #[.pointer (some ⟨g, 0, none⟩), .int .i64 8, .int .u8 93, .int .i64 lv] W (ValPost S g r kind R W)) :
    Calls Tryd.prog 35 #[.pointer (some ⟨g, 0, none⟩), .int .i64 lv] w (ValPost S g r kind R w) := by
  obtain ⟨n0, n1, n2, n3, n4, n5⟩ := hb
  have hgl := Blk.lt hJ
  have hJ0 : JT (w.alloc (.cells #[.int .i64 0, .int .u64 0, .string ⟨#[]⟩, .int .i64 0, .slice none 0 0] 29)) g S p := Blk.alloc hJ _
  obtain ⟨⟨e0, e1, e2⟩, g0, g1, g2⟩ := hJ0.cells
  obtain ⟨T, hT⟩ : ∃ T, T = ValPost S g r kind R w := ⟨_, rfl⟩
  rw [← hT]
  have HT := hide hT
  have HC := hide hC
  have hp0 : (0 : Int) ≤ (p : Int) := by omega
  have hp1 : (p : Int) < (S.size : Int) := by omega
  have b1 : decide ((S.size : Int) ≤ (p : Int)) = false := by simp; omega
  have b2 : decide (lv ≤ 0) = false := by simp; omega
  have m1 : ((S[p].toNat : Int) == 34) = false := by simpa using ne_nat n4
  have m2 : ((S[p].toNat : Int) == 123) = false := by simpa using ne_nat n5
  have m3 : ((S[p].toNat : Int) == 91) = true := by rw [hl91]; rfl
  have N0 := hide n0
  have N1 := hide n1
  have N2 := hide n2
  have N3 := hide n3
  clear hT hC n0 n1 n2 n3 n4 n5
  go_enter Tryd.func35, Tryd.ntmps35
  go_wp2_with (go_at_call 36; go_loud (refine (blank_no S g p _ hS hJ0 hp (unhide N0)).mono ?_; rintro e w1 ⟨rfl, ⟨q1, rfl⟩⟩))
  go_quiet (fail)
  go_wp2_with fail
  go_quiet (fail)
  go_wp2_with (first
    | (go_at_call 53; clear M2; go_loud (refine (word_no5 S g p 102 97 108 115 101 _ hS (JT.quiet hJ0 ?jq) hp (unhide N3)).mono ?_; (case jq => first | exact Quiet.drewN _ _ | exact (Quiet.drewN _ _).trans (Quiet.drewN _ _) | exact ((Quiet.drewN _ _).trans (Quiet.drewN _ _)).trans (Quiet.drewN _ _) | exact (((Quiet.drewN _ _).trans (Quiet.drewN _ _)).trans (Quiet.drewN _ _)).trans (Quiet.drewN _ _)); rintro e w4 ⟨rfl, ⟨q4, rfl⟩⟩))
    | (go_at_call 53; clear M1; go_loud (refine (word_no4 S g p 116 114 117 101 _ hS (JT.quiet hJ0 ?jq) hp (unhide N2)).mono ?_; (case jq => first | exact Quiet.drewN _ _ | exact (Quiet.drewN _ _).trans (Quiet.drewN _ _) | exact ((Quiet.drewN _ _).trans (Quiet.drewN _ _)).trans (Quiet.drewN _ _) | exact (((Quiet.drewN _ _).trans (Quiet.drewN _ _)).trans (Quiet.drewN _ _)).trans (Quiet.drewN _ _)); rintro e w3 ⟨rfl, ⟨q3, rfl⟩⟩; have M2 : True := trivial))
    | (go_at_call 53; go_loud (refine (word_no4 S g p 110 117 108 108 _ hS (JT.quiet hJ0 ?jq) hp (unhide N1)).mono ?_; (case jq => first | exact Quiet.drewN _ _ | exact (Quiet.drewN _ _).trans (Quiet.drewN _ _) | exact ((Quiet.drewN _ _).trans (Quiet.drewN _ _)).trans (Quiet.drewN _ _) | exact (((Quiet.drewN _ _).trans (Quiet.drewN _ _)).trans (Quiet.drewN _ _)).trans (Quiet.drewN _ _)); rintro e w2 ⟨rfl, ⟨q2, rfl⟩⟩; have M1 : True := trivial))
    | (go_at_call 55; go_loud (refine (unhide HC _ (JT.quiet hJ0 ?jq) ?js).mono ?_; (case jq => first | exact Quiet.drewN _ _ | exact (Quiet.drewN _ _).trans (Quiet.drewN _ _) | exact ((Quiet.drewN _ _).trans (Quiet.drewN _ _)).trans (Quiet.drewN _ _) | exact (((Quiet.drewN _ _).trans (Quiet.drewN _ _)).trans (Quiet.drewN _ _)).trans (Quiet.drewN _ _)); (case js => simp); rintro e w5 ⟨num, K, kl, kc, rfl, hj5, hr5⟩; have HR5 := hide hr5; clear hr5; have hj6 := JOn.trans (JOn.quiet hJ0 (by first | exact Quiet.drewN _ _ | exact (Quiet.drewN _ _).trans (Quiet.drewN _ _) | exact ((Quiet.drewN _ _).trans (Quiet.drewN _ _)).trans (Quiet.drewN _ _) | exact (((Quiet.drewN _ _).trans (Quiet.drewN _ _)).trans (Quiet.drewN _ _)).trans (Quiet.drewN _ _))) hj5; have hblk := Blk.grown (Blk.new w 29 _) hj6.2 (by intro e; injection e with e; omega); obtain ⟨⟨z0, z1, z2, z3, z4⟩, ⟨y0, y1, y2, y3, y4⟩⟩ := five_cells hblk; have hzl := Blk.lt hblk; have HJ6 := hide hj6; clear hj5 hj6 hblk)))
  refine bodyPost_ret (v := .agg #[.int .i64 kind, .int .u64 (num : Int), .string ⟨#[]⟩, .int .i64 0, .slice K kl kc]) (by simp [results, Tryd.results35, go_sem, z0, z1, z2, z3, z4, hzl]) rfl ?_
  rw [unhide HT]
  exact ⟨num, K, kl, kc, rfl, JOn.fin hgl (unhide HJ6) _ _ _ _ _, hR _ _ _ _ _ _ _ (hR _ _ _ _ _ _ _ (hR _ _ _ _ _ _ _ (hR _ _ _ _ _ _ _ (hR _ _ _ _ _ _ _ (unhide HR5)))))⟩

set_option maxRecDepth 100000 in
set_option maxHeartbeats 6400000 in
theorem value_num (S : ByteArray) (g p r : Nat) (lv : Int) (w : World) (hS : S.size ≤ 1099511627776) (hJ : JT w g S p) (hp : p < S.size) (hb : Plain0 S[p]) (hnl : S[p] ≠ 91) (hlv : 0 < lv) (kind : Int) (R : Nat → Option Addr → Nat → Nat → World → Prop) (hR : ∀ (num : Nat) (K : Option Addr) (kl kc : Nat) (W : World) (i : Nat) (v : Value), R num K kl kc W → R num K kl kc (W.setCell ⟨w.heap.size, i, none⟩ v))
    (hC : ∀ W, JT W g S p → (w.alloc (.cells #[.int .i64 0, .int .u64 0, .string ⟨#[]⟩, .int .i64 0, .slice none 0 0] 29)).heap.size ≤ W.heap.size → Calls Tryd.prog 56 #[.pointer (some ⟨g, 0, none⟩)] W (ValPost S g r kind R W)) :
    Calls Tryd.prog 35 #[.pointer (some ⟨g, 0, none⟩), .int .i64 lv] w (ValPost S g r kind R w) := by
  obtain ⟨n0, n1, n2, n3, n4, n5⟩ := hb
  have hgl := Blk.lt hJ
  have hJ0 : JT (w.alloc (.cells #[.int .i64 0, .int .u64 0, .string ⟨#[]⟩, .int .i64 0, .slice none 0 0] 29)) g S p := Blk.alloc hJ _
  obtain ⟨⟨e0, e1, e2⟩, g0, g1, g2⟩ := hJ0.cells
  obtain ⟨T, hT⟩ : ∃ T, T = ValPost S g r kind R w := ⟨_, rfl⟩
  rw [← hT]
  have HT := hide hT
  have HC := hide hC
  have hp0 : (0 : Int) ≤ (p : Int) := by omega
  have hp1 : (p : Int) < (S.size : Int) := by omega
  have b1 : decide ((S.size : Int) ≤ (p : Int)) = false := by simp; omega
  have b2 : decide (lv ≤ 0) = false := by simp; omega
  have m1 : ((S[p].toNat : Int) == 34) = false := by simpa using ne_nat n4
  have m2 : ((S[p].toNat : Int) == 123) = false := by simpa using ne_nat n5
  have m3 : ((S[p].toNat : Int) == 91) = false := by simpa using ne_nat hnl
  have N0 := hide n0
  have N1 := hide n1
  have N2 := hide n2
  have N3 := hide n3
  clear hT hC n0 n1 n2 n3 n4 n5
  go_enter Tryd.func35, Tryd.ntmps35
  go_wp2_with (go_at_call 36; go_loud (refine (blank_no S g p _ hS hJ0 hp (unhide N0)).mono ?_; rintro e w1 ⟨rfl, ⟨q1, rfl⟩⟩))
  go_quiet (fail)
  go_wp2_with fail
  go_quiet (fail)
  go_wp2_with (first
    | (go_at_call 53; clear M2; go_loud (refine (word_no5 S g p 102 97 108 115 101 _ hS (JT.quiet hJ0 ?jq) hp (unhide N3)).mono ?_; (case jq => first | exact Quiet.drewN _ _ | exact (Quiet.drewN _ _).trans (Quiet.drewN _ _) | exact ((Quiet.drewN _ _).trans (Quiet.drewN _ _)).trans (Quiet.drewN _ _) | exact (((Quiet.drewN _ _).trans (Quiet.drewN _ _)).trans (Quiet.drewN _ _)).trans (Quiet.drewN _ _)); rintro e w4 ⟨rfl, ⟨q4, rfl⟩⟩))
    | (go_at_call 53; clear M1; go_loud (refine (word_no4 S g p 116 114 117 101 _ hS (JT.quiet hJ0 ?jq) hp (unhide N2)).mono ?_; (case jq => first | exact Quiet.drewN _ _ | exact (Quiet.drewN _ _).trans (Quiet.drewN _ _) | exact ((Quiet.drewN _ _).trans (Quiet.drewN _ _)).trans (Quiet.drewN _ _) | exact (((Quiet.drewN _ _).trans (Quiet.drewN _ _)).trans (Quiet.drewN _ _)).trans (Quiet.drewN _ _)); rintro e w3 ⟨rfl, ⟨q3, rfl⟩⟩; have M2 : True := trivial))
    | (go_at_call 53; go_loud (refine (word_no4 S g p 110 117 108 108 _ hS (JT.quiet hJ0 ?jq) hp (unhide N1)).mono ?_; (case jq => first | exact Quiet.drewN _ _ | exact (Quiet.drewN _ _).trans (Quiet.drewN _ _) | exact ((Quiet.drewN _ _).trans (Quiet.drewN _ _)).trans (Quiet.drewN _ _) | exact (((Quiet.drewN _ _).trans (Quiet.drewN _ _)).trans (Quiet.drewN _ _)).trans (Quiet.drewN _ _)); rintro e w2 ⟨rfl, ⟨q2, rfl⟩⟩; have M1 : True := trivial))
    | (go_at_call 56; go_loud (refine (unhide HC _ (JT.quiet hJ0 ?jq) ?js).mono ?_; (case jq => first | exact Quiet.drewN _ _ | exact (Quiet.drewN _ _).trans (Quiet.drewN _ _) | exact ((Quiet.drewN _ _).trans (Quiet.drewN _ _)).trans (Quiet.drewN _ _) | exact (((Quiet.drewN _ _).trans (Quiet.drewN _ _)).trans (Quiet.drewN _ _)).trans (Quiet.drewN _ _)); (case js => simp); rintro e w5 ⟨num, K, kl, kc, rfl, hj5, hr5⟩; have HR5 := hide hr5; clear hr5; have hj6 := JOn.trans (JOn.quiet hJ0 (by first | exact Quiet.drewN _ _ | exact (Quiet.drewN _ _).trans (Quiet.drewN _ _) | exact ((Quiet.drewN _ _).trans (Quiet.drewN _ _)).trans (Quiet.drewN _ _) | exact (((Quiet.drewN _ _).trans (Quiet.drewN _ _)).trans (Quiet.drewN _ _)).trans (Quiet.drewN _ _))) hj5; have hblk := Blk.grown (Blk.new w 29 _) hj6.2 (by intro e; injection e with e; omega); obtain ⟨⟨z0, z1, z2, z3, z4⟩, ⟨y0, y1, y2, y3, y4⟩⟩ := five_cells hblk; have hzl := Blk.lt hblk; have HJ6 := hide hj6; clear hj5 hj6 hblk)))
  refine bodyPost_ret (v := .agg #[.int .i64 kind, .int .u64 (num : Int), .string ⟨#[]⟩, .int .i64 0, .slice K kl kc]) (by simp [results, Tryd.results35, go_sem, z0, z1, z2, z3, z4, hzl]) rfl ?_
  rw [unhide HT]
  exact ⟨num, K, kl, kc, rfl, JOn.fin hgl (unhide HJ6) _ _ _ _ _, hR _ _ _ _ _ _ _ (hR _ _ _ _ _ _ _ (hR _ _ _ _ _ _ _ (hR _ _ _ _ _ _ _ (hR _ _ _ _ _ _ _ (unhide HR5)))))⟩
end Go.Proofs.YtlnpiigdjjadiaaDoor
