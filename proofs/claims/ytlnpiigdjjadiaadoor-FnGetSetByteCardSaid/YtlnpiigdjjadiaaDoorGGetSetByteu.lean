/-
  Lemmas, 3 texts in one: Data, Lead, IntPlain. Each says its conditions.
-/
import Derived.Test.YtlnpiigdjjadiaaDoorGGetSetBytet
import Derived.Test.YtlnpiigdjjadiaaDoorGGetSetByter
import Derived.Test.YtlnpiigdjjadiaaDoorGGetSetByteg

/-
  laws.zzFits16, laws.Given.data: what is written of a given value, and what stands behind it. Conditions: it reads as a value in memory.
-/
namespace Go.Proofs.YtlnpiigdjjadiaaDoor
set_option linter.unusedSimpArgs false
set_option linter.unusedVariables false
set_option linter.unusedVariables false
open Go.RowKit
theorem nine_cells {w : World} {g : Nat} {t : TypeId} {c0 c1 c2 c3 c4 c5 c6 c7 c8 : Value} (h : Blk w g t #[c0, c1, c2, c3, c4, c5, c6, c7, c8]) :
    (w.cell? ⟨g, 0, none⟩ = some c0 ∧ w.cell? ⟨g, 1, none⟩ = some c1 ∧ w.cell? ⟨g, 2, none⟩ = some c2 ∧ w.cell? ⟨g, 3, none⟩ = some c3 ∧ w.cell? ⟨g, 4, none⟩ = some c4) ∧
    (w.cell? ⟨g, 5, none⟩ = some c5 ∧ w.cell? ⟨g, 6, none⟩ = some c6 ∧ w.cell? ⟨g, 7, none⟩ = some c7 ∧ w.cell? ⟨g, 8, none⟩ = some c8) :=
  ⟨⟨h.cell 0, h.cell 1, h.cell 2, h.cell 3, h.cell 4⟩, ⟨h.cell 5, h.cell 6, h.cell 7, h.cell 8⟩⟩
/-- What Given.data answers: nothing is asked; what is written is cut off; or it is whole, zs behind it. -/
inductive DataR (p : Pack) (zs : List UInt8) (B : Option Addr) (bl bc : Nat) (cut : Int) (w : World) : Ending → World → Prop where
  | no (w' : World) (hb : Below w.heap.size w w') : DataR p zs B bl bc cut w (.returned (.tuple #[.slice none 0 0, .slice none 0 0, .bool false, .bool false])) w'
  | cut (w' : World) (hb : Below w.heap.size w w') (hc0 : 0 < cut) (hf : FitsP p) (hc : cnt p ≤ 500) (h : List UInt8) (hw : WrP p h) (q : Nat) (hq : q < h.length) (hl : h.length ≤ 100000000) (A : Option Addr) (c : Nat) (hqc : q ≤ c) (hcm : c ≤ maxLen)
      (hr : RB w' (fun b => w.heap.size ≤ b ∧ b < w'.heap.size) A (h.take q)) : DataR p zs B bl bc cut w (.returned (.tuple #[.slice A q c, .slice none 0 0, .bool true, .bool true])) w'
  | whole (w' : World) (hb : Below w.heap.size w w') (hc0 : cut ≤ 0) (hf : FitsP p) (hc : cnt p ≤ 500) (hbl : bl ≤ 100) (h : List UInt8) (hw : WrP p h) (hl : h.length ≤ 100000000) (hl0 : 0 < h.length) (A : Option Addr) (n c : Nat) (hn : n = (h ++ zs).length) (hnc : n ≤ c) (hcm : c ≤ maxLen)
      (hr : RB w' (fun b => w.heap.size ≤ b ∧ b < w'.heap.size) A (h ++ zs)) : DataR p zs B bl bc cut w (.returned (.tuple #[.slice A n c, .slice B bl bc, .bool false, .bool true])) w'
end Go.Proofs.YtlnpiigdjjadiaaDoor

/-
  Plain: the lead byte of a written value tells its kind. And words for the walks of the laws over laws.Given.
-/
namespace Go.Proofs.YtlnpiigdjjadiaaDoor
set_option linter.unusedSimpArgs false
set_option linter.unusedVariables false
open Go.RowKit
/-- The kind that a lead byte tells; integers of either kind: 3; none: 11. -/
def kindB (b : Nat) : Int :=
  if b < 128 then 3 else if b < 144 then 9 else if b < 160 then 8 else if b < 192 then 6 else if b = 192 then 0 else if b = 193 then 11 else if b < 196 then 1 else if b < 199 then 7 else if b < 202 then 10 else if b = 202 then 4 else
  if b = 203 then 5 else if b < 212 then 3 else if b < 217 then 10 else if b < 220 then 6 else if b < 222 then 8 else if b < 224 then 9 else 3
def kindI (k : Int) : Int := if k = 2 then 3 else k
theorem headOK_lead {fixed : Int} {under n : Nat} {fs : List (Nat × Nat)} {h : List UInt8} {k : Int} (hh : HeadOK fixed under n fs h) (hf : 0 ≤ fixed → n < under → kindB (UInt8.ofNat (fixed.toNat + n)).toNat = k) (hs : ∀ f ∈ fs, kindB (UInt8.ofNat f.1).toNat = k) :
    ∃ b r, h = b :: r ∧ kindB b.toNat = k := by
  rcases hh with ⟨h0, hu, rfl⟩ | ⟨f, hm, _, _, rfl⟩
  · exact ⟨_, _, rfl, hf h0 hu⟩
  · exact ⟨_, _, rfl, hs f hm⟩
theorem small_nat (a n : Nat) (h : a + n < 256) : (UInt8.ofNat (a + n)).toNat = a + n := by simp; omega
theorem headIs_lead {k n : Nat} {h : List UInt8} (hh : HeadIs k n h) : ∃ b r, h = b :: r ∧ kindB b.toNat = k := by
  rcases hh with ⟨rfl, h⟩ | ⟨rfl, h⟩ | ⟨rfl, h⟩ | ⟨rfl, h⟩
  · refine headOK_lead h (fun _ hu => ?_) (by decide)
    rw [show ((144 : Int).toNat) = 144 from rfl, small_nat 144 n (by omega)]
    unfold kindB
    rw [if_neg (by omega), if_neg (by omega), if_pos (by omega)]
    rfl
  · refine headOK_lead h (fun _ hu => ?_) (by decide)
    rw [show ((128 : Int).toNat) = 128 from rfl, small_nat 128 n (by omega)]
    unfold kindB
    rw [if_neg (by omega), if_pos (by omega)]
    rfl
  · exact headOK_lead h (fun h _ => absurd h (by omega)) (by decide)
  · refine headOK_lead h (fun _ hu => ?_) (by decide)
    rw [show ((160 : Int).toNat) = 160 from rfl, small_nat 160 n (by omega)]
    unfold kindB
    rw [if_neg (by omega), if_neg (by omega), if_neg (by omega), if_pos (by omega)]
    rfl
theorem lo_lead {u : Nat} (h : u < 128) : kindB (UInt8.ofNat u).toNat = 3 := by
  have : (UInt8.ofNat u).toNat = u := by simp; omega
  rw [this]
  unfold kindB
  rw [if_pos h]
theorem hi_lead {u : Nat} (h : 18446744073709551584 ≤ u) (h2 : u < 18446744073709551616) : kindB (UInt8.ofNat u).toNat = 3 := by
  have e : (UInt8.ofNat u).toNat = u % 256 := by simp
  have h3 : 224 ≤ u % 256 := by omega
  rw [e]
  unfold kindB
  have h4 : u % 256 < 256 := by omega
  rw [if_neg (by omega), if_neg (by omega), if_neg (by omega), if_neg (by omega), if_neg (by omega), if_neg (by omega), if_neg (by omega), if_neg (by omega), if_neg (by omega), if_neg (by omega), if_neg (by omega), if_neg (by omega), if_neg (by omega), if_neg (by omega), if_neg (by omega), if_neg (by omega)]
theorem negF_lead {u : Nat} {h : List UInt8} (hh : negF u h) (hu : u < 18446744073709551616) : ∃ b r, h = b :: r ∧ kindB b.toNat = 3 := by
  unfold negF at hh
  rcases hh with ⟨h1, rfl⟩ | ⟨_, rfl⟩ | ⟨_, rfl⟩ | ⟨_, rfl⟩ | rfl
  · exact ⟨_, _, rfl, hi_lead h1 hu⟩
  all_goals exact ⟨_, _, rfl, by decide⟩
theorem posF_lead {u : Nat} {h : List UInt8} (hh : posF u h) : ∃ b r, h = b :: r ∧ kindB b.toNat = 3 := by
  unfold posF at hh
  rcases hh with ⟨h1, rfl⟩ | ⟨_, rfl⟩ | ⟨_, rfl⟩ | ⟨_, rfl⟩ | rfl | ⟨_, rfl⟩ | ⟨_, rfl⟩ | ⟨_, rfl⟩ | ⟨_, rfl⟩
  · exact ⟨_, _, rfl, lo_lead h1⟩
  all_goals exact ⟨_, _, rfl, by decide⟩
theorem extF_lead {u : Nat} {kb : UInt8} {h : List UInt8} (hh : extF u kb h) : ∃ b r, h = b :: r ∧ kindB b.toNat = 10 := by
  unfold extF at hh
  rcases hh with ⟨_, rfl⟩ | ⟨_, rfl⟩ | ⟨_, rfl⟩ | ⟨_, rfl⟩ | ⟨_, rfl⟩ | ⟨_, rfl⟩ | ⟨_, rfl⟩ | ⟨_, rfl⟩
  all_goals exact ⟨_, _, rfl, by decide⟩
theorem app_lead {h t : List UInt8} {k : Int} (hh : ∃ b r, h = b :: r ∧ kindB b.toNat = k) : ∃ b r, h ++ t = b :: r ∧ kindB b.toNat = k := by
  obtain ⟨b, r, rfl, hk⟩ := hh
  exact ⟨b, r ++ t, rfl, hk⟩
theorem WrP_lead {k : Int} {n : Nat} {t : List UInt8} {e : Int} {ks : List Pack} {bs : List UInt8} (h : WrP (.mk k n t e ks) bs) (hf : FitsP (.mk k n t e ks)) (hw : WfP (.mk k n t e ks)) : ∃ b r, bs = b :: r ∧ kindB b.toNat = kindI k := by
  unfold FitsP FitHd at hf
  unfold WfP at hw
  unfold WrP at h
  have hb1 := hf.1.2.2.2.2.2.2.2.2.1
  rcases h with ⟨rfl, rfl⟩ | ⟨rfl, rfl⟩ | ⟨rfl, _, h⟩ | ⟨hk, h⟩ | ⟨rfl, rfl⟩ | ⟨rfl, rfl⟩ | ⟨rfl, h, hh, rfl⟩ | ⟨rfl, h, hh, rfl⟩ | ⟨rfl, h, hh, rfl⟩ | ⟨rfl, h, r, hh, hr, rfl⟩ | ⟨rfl, h, r, hh, hr, rfl⟩
  · exact ⟨_, _, rfl, by decide⟩
  · have hn : n = 0 ∨ n = 1 := by have := hb1 rfl; omega
    rcases hn with rfl | rfl
    · exact ⟨_, _, rfl, by decide⟩
    · exact ⟨_, _, rfl, by decide⟩
  · exact negF_lead h hw.1
  · have : kindI k = 3 := by unfold kindI; rcases hk with ⟨rfl, _⟩ | rfl <;> decide
    rw [this]
    exact posF_lead h
  · exact ⟨_, _, rfl, by decide⟩
  · exact ⟨_, _, rfl, by decide⟩
  · exact app_lead (headIs_lead hh)
  · exact app_lead (headIs_lead hh)
  · exact app_lead (extF_lead hh)
  · exact app_lead (headIs_lead hh)
  · exact app_lead (headIs_lead hh)
theorem given_pack {w : World} {S : Nat → Prop} {p : Pack} {k n : Int} {T : ByteArray} {e : Int} {K : Option Addr} {m kc : Nat} (h : PackC w S p [.int .i64 k, .int .u64 n, .string T, .int .i64 e, .slice K m kc]) :
    ∃ num t ps, p = .mk k num t e ps ∧ n = (num : Nat) ∧ T = ⟨t.toArray⟩ ∧ m = ps.length := by
  cases p with
  | mk k n t e ps =>
  unfold PackC at h
  obtain ⟨K, kc, xs, hc, _⟩ := h
  simp only [List.cons.injEq, and_true, Value.int.injEq, true_and, Value.string.injEq, Value.slice.injEq] at hc
  obtain ⟨rfl, rfl, rfl, rfl, rfl, rfl, rfl⟩ := hc
  exact ⟨_, _, _, rfl, rfl, rfl, rfl⟩
theorem one_rb (w : World) (b : UInt8) : RB (w.alloc (.cells #[u8 b] 5)) (Lt (w.heap.size + 1)) (some ⟨w.heap.size, 0, none⟩) [b] :=
  reads_blk (S := Lt (w.heap.size + 1)) (t := 5) (cs := #[u8 b]) (Blk.new _ _ _) (Nat.lt_succ_self _) 1 1 rfl
theorem old_one (w : World) (o : Obj) : Old (w.alloc o) (Lt (w.heap.size + 1)) := fun b hb => by simp [Lt] at hb ⊢; omega
theorem left_same (S S' : Nat → Prop) (A B : Option Addr) (bs : List UInt8) (n m c c' : Nat) (w : World) (hn : n = bs.length) (hm : m = bs.length) (hr : RB w S A bs) (hr' : RB w S' B bs) :
    Calls Tryd.prog 12 #[.slice A n c, .slice B m c'] w fun e w' => e = .returned (.bool true) ∧ w = w' := by
  subst hn
  subst hm
  have c1 := run_string_of_bytes (P := Tryd.prog) 24 9 5 Tryd.underlying24 Tryd.underlying5 Tryd.underlying9 hr c
  have c2 := run_string_of_bytes (P := Tryd.prog) 24 9 5 Tryd.underlying24 Tryd.underlying5 Tryd.underlying9 hr' c'
  go_enter Tryd.func12, Tryd.ntmps12
  go_wp2
  go_ret
  exact ⟨rfl, rfl⟩
/-- The law has answered true, and nothing that was there has turned. -/
def TrueR (w : World) (e : Ending) (w' : World) : Prop := e = .returned (.bool true) ∧ Below w.heap.size w w'
end Go.Proofs.YtlnpiigdjjadiaaDoor

/-
  Plain: what the readers of integers (int64R, uint64R) answer at the bytes of a written value.
-/
namespace Go.Proofs.YtlnpiigdjjadiaaDoor
set_option linter.unusedSimpArgs false
set_option linter.unusedVariables false
open Go.RowKit
theorem bigU_beL1 (u : Nat) : bigU (beL u 1) = u % 256 := by simp [bigU, beL]
theorem bigU_beL2' (u : Nat) : bigU (beL u 2) = u % 65536 := by simp [bigU, beL]; omega
theorem bigU_beL4' (u : Nat) : bigU (beL u 4) = u % 4294967296 := by simp [bigU, beL]; omega
theorem bigU_beL8 (u : Nat) : bigU (beL u 8) = u % 18446744073709551616 := by simp [bigU, beL]; omega
theorem short_take {α : Type} (l : List α) (q : Nat) (h : q < l.length) : (l.take q).length < l.length := by rw [List.length_take]; omega
theorem int64R_cons (b : UInt8) (r : List UInt8) : int64R (b :: r) = if b.toNat < 128 then some ((b.toNat : Int), r) else if 224 ≤ b.toNat then some ((b.toNat : Int) - 256, r) else int64RC b.toNat r := rfl
theorem int64R_208 (u : Nat) (zs : List UInt8) : int64R (UInt8.ofNat 208 :: (beL u 1 ++ zs)) = some (sgn 1 (u % 256), zs) := by
  have hl : (beL u 1).length = 1 := rfl
  rw [int64R_cons, show (UInt8.ofNat 208).toNat = 208 from rfl, if_neg (by decide), if_neg (by decide)]
  unfold int64RC
  skip
  rw [if_pos rfl, if_neg (by rw [List.length_append, hl]; omega), List.take_left' hl, List.drop_left' hl, bigU_beL1]
theorem int64R_208q (u : Nat) (q : Nat) (hq : q < 2) : int64R ((UInt8.ofNat 208 :: beL u 1).take q) = none := by
  rcases q with _ | q
  · rfl
  have hl : (beL u 1).length = 1 := rfl
  have hs : ((beL u 1).take q).length < 1 := by rw [List.length_take]; omega
  rw [List.take_succ_cons]
  rw [int64R_cons, show (UInt8.ofNat 208).toNat = 208 from rfl, if_neg (by decide), if_neg (by decide)]
  unfold int64RC
  skip
  rw [if_pos rfl, if_pos hs]
theorem int64R_204 (u : Nat) (zs : List UInt8) : int64R (UInt8.ofNat 204 :: (beL u 1 ++ zs)) = some ((((u % 256) : Nat) : Int), zs) := by
  have hl : (beL u 1).length = 1 := rfl
  rw [int64R_cons, show (UInt8.ofNat 204).toNat = 204 from rfl, if_neg (by decide), if_neg (by decide)]
  unfold int64RC
  rw [if_neg (by decide)];
  rw [if_pos rfl, if_neg (by rw [List.length_append, hl]; omega), List.take_left' hl, List.drop_left' hl, bigU_beL1]
theorem int64R_204q (u : Nat) (q : Nat) (hq : q < 2) : int64R ((UInt8.ofNat 204 :: beL u 1).take q) = none := by
  rcases q with _ | q
  · rfl
  have hl : (beL u 1).length = 1 := rfl
  have hs : ((beL u 1).take q).length < 1 := by rw [List.length_take]; omega
  rw [List.take_succ_cons]
  rw [int64R_cons, show (UInt8.ofNat 204).toNat = 204 from rfl, if_neg (by decide), if_neg (by decide)]
  unfold int64RC
  rw [if_neg (by decide)];
  rw [if_pos rfl, if_pos hs]
theorem int64R_209 (u : Nat) (zs : List UInt8) : int64R (UInt8.ofNat 209 :: (beL u 2 ++ zs)) = some (sgn 2 (u % 65536), zs) := by
  have hl : (beL u 2).length = 2 := rfl
  rw [int64R_cons, show (UInt8.ofNat 209).toNat = 209 from rfl, if_neg (by decide), if_neg (by decide)]
  unfold int64RC
  rw [if_neg (by decide)]; rw [if_neg (by decide)];
  rw [if_pos rfl, if_neg (by rw [List.length_append, hl]; omega), List.take_left' hl, List.drop_left' hl, bigU_beL2']
theorem int64R_209q (u : Nat) (q : Nat) (hq : q < 3) : int64R ((UInt8.ofNat 209 :: beL u 2).take q) = none := by
  rcases q with _ | q
  · rfl
  have hl : (beL u 2).length = 2 := rfl
  have hs : ((beL u 2).take q).length < 2 := by rw [List.length_take]; omega
  rw [List.take_succ_cons]
  rw [int64R_cons, show (UInt8.ofNat 209).toNat = 209 from rfl, if_neg (by decide), if_neg (by decide)]
  unfold int64RC
  rw [if_neg (by decide)]; rw [if_neg (by decide)];
  rw [if_pos rfl, if_pos hs]
theorem int64R_205 (u : Nat) (zs : List UInt8) : int64R (UInt8.ofNat 205 :: (beL u 2 ++ zs)) = some ((((u % 65536) : Nat) : Int), zs) := by
  have hl : (beL u 2).length = 2 := rfl
  rw [int64R_cons, show (UInt8.ofNat 205).toNat = 205 from rfl, if_neg (by decide), if_neg (by decide)]
  unfold int64RC
  rw [if_neg (by decide)]; rw [if_neg (by decide)]; rw [if_neg (by decide)];
  rw [if_pos rfl, if_neg (by rw [List.length_append, hl]; omega), List.take_left' hl, List.drop_left' hl, bigU_beL2']
theorem int64R_205q (u : Nat) (q : Nat) (hq : q < 3) : int64R ((UInt8.ofNat 205 :: beL u 2).take q) = none := by
  rcases q with _ | q
  · rfl
  have hl : (beL u 2).length = 2 := rfl
  have hs : ((beL u 2).take q).length < 2 := by rw [List.length_take]; omega
  rw [List.take_succ_cons]
  rw [int64R_cons, show (UInt8.ofNat 205).toNat = 205 from rfl, if_neg (by decide), if_neg (by decide)]
  unfold int64RC
  rw [if_neg (by decide)]; rw [if_neg (by decide)]; rw [if_neg (by decide)];
  rw [if_pos rfl, if_pos hs]
theorem int64R_210 (u : Nat) (zs : List UInt8) : int64R (UInt8.ofNat 210 :: (beL u 4 ++ zs)) = some (sgn 4 (u % 4294967296), zs) := by
  have hl : (beL u 4).length = 4 := rfl
  rw [int64R_cons, show (UInt8.ofNat 210).toNat = 210 from rfl, if_neg (by decide), if_neg (by decide)]
  unfold int64RC
  rw [if_neg (by decide)]; rw [if_neg (by decide)]; rw [if_neg (by decide)]; rw [if_neg (by decide)];
  rw [if_pos rfl, if_neg (by rw [List.length_append, hl]; omega), List.take_left' hl, List.drop_left' hl, bigU_beL4']
theorem int64R_210q (u : Nat) (q : Nat) (hq : q < 5) : int64R ((UInt8.ofNat 210 :: beL u 4).take q) = none := by
  rcases q with _ | q
  · rfl
  have hl : (beL u 4).length = 4 := rfl
  have hs : ((beL u 4).take q).length < 4 := by rw [List.length_take]; omega
  rw [List.take_succ_cons]
  rw [int64R_cons, show (UInt8.ofNat 210).toNat = 210 from rfl, if_neg (by decide), if_neg (by decide)]
  unfold int64RC
  rw [if_neg (by decide)]; rw [if_neg (by decide)]; rw [if_neg (by decide)]; rw [if_neg (by decide)];
  rw [if_pos rfl, if_pos hs]
theorem int64R_206 (u : Nat) (zs : List UInt8) : int64R (UInt8.ofNat 206 :: (beL u 4 ++ zs)) = some ((((u % 4294967296) : Nat) : Int), zs) := by
  have hl : (beL u 4).length = 4 := rfl
  rw [int64R_cons, show (UInt8.ofNat 206).toNat = 206 from rfl, if_neg (by decide), if_neg (by decide)]
  unfold int64RC
  rw [if_neg (by decide)]; rw [if_neg (by decide)]; rw [if_neg (by decide)]; rw [if_neg (by decide)]; rw [if_neg (by decide)];
  rw [if_pos rfl, if_neg (by rw [List.length_append, hl]; omega), List.take_left' hl, List.drop_left' hl, bigU_beL4']
theorem int64R_206q (u : Nat) (q : Nat) (hq : q < 5) : int64R ((UInt8.ofNat 206 :: beL u 4).take q) = none := by
  rcases q with _ | q
  · rfl
  have hl : (beL u 4).length = 4 := rfl
  have hs : ((beL u 4).take q).length < 4 := by rw [List.length_take]; omega
  rw [List.take_succ_cons]
  rw [int64R_cons, show (UInt8.ofNat 206).toNat = 206 from rfl, if_neg (by decide), if_neg (by decide)]
  unfold int64RC
  rw [if_neg (by decide)]; rw [if_neg (by decide)]; rw [if_neg (by decide)]; rw [if_neg (by decide)]; rw [if_neg (by decide)];
  rw [if_pos rfl, if_pos hs]
theorem int64R_211 (u : Nat) (zs : List UInt8) : int64R (UInt8.ofNat 211 :: (beL u 8 ++ zs)) = some (sgn 8 (u % 18446744073709551616), zs) := by
  have hl : (beL u 8).length = 8 := rfl
  rw [int64R_cons, show (UInt8.ofNat 211).toNat = 211 from rfl, if_neg (by decide), if_neg (by decide)]
  unfold int64RC
  rw [if_neg (by decide)]; rw [if_neg (by decide)]; rw [if_neg (by decide)]; rw [if_neg (by decide)]; rw [if_neg (by decide)]; rw [if_neg (by decide)];
  rw [if_pos rfl, if_neg (by rw [List.length_append, hl]; omega), List.take_left' hl, List.drop_left' hl, bigU_beL8]
theorem int64R_211q (u : Nat) (q : Nat) (hq : q < 9) : int64R ((UInt8.ofNat 211 :: beL u 8).take q) = none := by
  rcases q with _ | q
  · rfl
  have hl : (beL u 8).length = 8 := rfl
  have hs : ((beL u 8).take q).length < 8 := by rw [List.length_take]; omega
  rw [List.take_succ_cons]
  rw [int64R_cons, show (UInt8.ofNat 211).toNat = 211 from rfl, if_neg (by decide), if_neg (by decide)]
  unfold int64RC
  rw [if_neg (by decide)]; rw [if_neg (by decide)]; rw [if_neg (by decide)]; rw [if_neg (by decide)]; rw [if_neg (by decide)]; rw [if_neg (by decide)];
  rw [if_pos rfl, if_pos hs]
theorem int64R_207 (u : Nat) (zs : List UInt8) : int64R (UInt8.ofNat 207 :: (beL u 8 ++ zs)) = if 9223372036854775807 < (u % 18446744073709551616) then none else some ((((u % 18446744073709551616) : Nat) : Int), zs) := by
  have hl : (beL u 8).length = 8 := rfl
  rw [int64R_cons, show (UInt8.ofNat 207).toNat = 207 from rfl, if_neg (by decide), if_neg (by decide)]
  unfold int64RC
  rw [if_neg (by decide)]; rw [if_neg (by decide)]; rw [if_neg (by decide)]; rw [if_neg (by decide)]; rw [if_neg (by decide)]; rw [if_neg (by decide)]; rw [if_neg (by decide)];
  rw [if_pos rfl, if_neg (by rw [List.length_append, hl]; omega), List.take_left' hl, List.drop_left' hl, bigU_beL8]
theorem int64R_207q (u : Nat) (q : Nat) (hq : q < 9) : int64R ((UInt8.ofNat 207 :: beL u 8).take q) = none := by
  rcases q with _ | q
  · rfl
  have hl : (beL u 8).length = 8 := rfl
  have hs : ((beL u 8).take q).length < 8 := by rw [List.length_take]; omega
  rw [List.take_succ_cons]
  rw [int64R_cons, show (UInt8.ofNat 207).toNat = 207 from rfl, if_neg (by decide), if_neg (by decide)]
  unfold int64RC
  rw [if_neg (by decide)]; rw [if_neg (by decide)]; rw [if_neg (by decide)]; rw [if_neg (by decide)]; rw [if_neg (by decide)]; rw [if_neg (by decide)]; rw [if_neg (by decide)];
  rw [if_pos rfl, if_pos hs]
theorem int64R_no {h zs : List UInt8} {k : Int} (hh : ∃ b r, h = b :: r ∧ kindB b.toNat = k) (hk : k ≠ 3) : int64R (h ++ zs) = none ∧ ∀ q, int64R (h.take q) = none := by
  obtain ⟨b, r, rfl, hb⟩ := hh
  have key : ∀ x, int64R (b :: x) = none := by
    intro x
    have hlo : ¬ b.toNat < 128 := fun h => hk (by rw [← hb]; unfold kindB; rw [if_pos h])
    have hhi : ¬ 224 ≤ b.toNat := fun h => hk (by
      rw [← hb]
      unfold kindB
      rw [if_neg (by omega), if_neg (by omega), if_neg (by omega), if_neg (by omega), if_neg (by omega), if_neg (by omega), if_neg (by omega), if_neg (by omega), if_neg (by omega), if_neg (by omega), if_neg (by omega), if_neg (by omega), if_neg (by omega), if_neg (by omega), if_neg (by omega), if_neg (by omega)])
    have hn : ∀ c, kindB c = 3 → b.toNat ≠ c := fun c hc h => hk (by rw [← hb, h]; exact hc)
    rw [int64R_cons, if_neg hlo, if_neg hhi]
    unfold int64RC
    rw [if_neg (hn 208 (by decide)), if_neg (hn 204 (by decide)), if_neg (hn 209 (by decide)), if_neg (hn 205 (by decide)), if_neg (hn 210 (by decide)), if_neg (hn 206 (by decide)), if_neg (hn 211 (by decide)), if_neg (hn 207 (by decide))]
  refine ⟨by rw [List.cons_append]; exact key _, fun q => ?_⟩
  rcases q with _ | q
  · rfl
  · rw [List.take_succ_cons]
    exact key _
theorem uint64R_cons (b : UInt8) (r : List UInt8) : uint64R (b :: r) = if b.toNat < 128 then some ((b.toNat : Int), r) else uint64RC b.toNat r := rfl
theorem uint64R_208 (u : Nat) (zs : List UInt8) : uint64R (UInt8.ofNat 208 :: (beL u 1 ++ zs)) = if sgn 1 (u % 256) < 0 then none else some (sgn 1 (u % 256), zs) := by
  have hl : (beL u 1).length = 1 := rfl
  rw [uint64R_cons, show (UInt8.ofNat 208).toNat = 208 from rfl, if_neg (by decide)]
  unfold uint64RC
  skip
  rw [if_pos rfl, if_neg (by rw [List.length_append, hl]; omega), List.take_left' hl, List.drop_left' hl, bigU_beL1]
theorem uint64R_208q (u : Nat) (q : Nat) (hq : q < 2) : uint64R ((UInt8.ofNat 208 :: beL u 1).take q) = none := by
  rcases q with _ | q
  · rfl
  have hl : (beL u 1).length = 1 := rfl
  have hs : ((beL u 1).take q).length < 1 := by rw [List.length_take]; omega
  rw [List.take_succ_cons]
  rw [uint64R_cons, show (UInt8.ofNat 208).toNat = 208 from rfl, if_neg (by decide)]
  unfold uint64RC
  skip
  rw [if_pos rfl, if_pos hs]
theorem uint64R_204 (u : Nat) (zs : List UInt8) : uint64R (UInt8.ofNat 204 :: (beL u 1 ++ zs)) = some ((((u % 256) : Nat) : Int), zs) := by
  have hl : (beL u 1).length = 1 := rfl
  rw [uint64R_cons, show (UInt8.ofNat 204).toNat = 204 from rfl, if_neg (by decide)]
  unfold uint64RC
  rw [if_neg (by decide)];
  rw [if_pos rfl, if_neg (by rw [List.length_append, hl]; omega), List.take_left' hl, List.drop_left' hl, bigU_beL1]
theorem uint64R_204q (u : Nat) (q : Nat) (hq : q < 2) : uint64R ((UInt8.ofNat 204 :: beL u 1).take q) = none := by
  rcases q with _ | q
  · rfl
  have hl : (beL u 1).length = 1 := rfl
  have hs : ((beL u 1).take q).length < 1 := by rw [List.length_take]; omega
  rw [List.take_succ_cons]
  rw [uint64R_cons, show (UInt8.ofNat 204).toNat = 204 from rfl, if_neg (by decide)]
  unfold uint64RC
  rw [if_neg (by decide)];
  rw [if_pos rfl, if_pos hs]
theorem uint64R_209 (u : Nat) (zs : List UInt8) : uint64R (UInt8.ofNat 209 :: (beL u 2 ++ zs)) = if sgn 2 (u % 65536) < 0 then none else some (sgn 2 (u % 65536), zs) := by
  have hl : (beL u 2).length = 2 := rfl
  rw [uint64R_cons, show (UInt8.ofNat 209).toNat = 209 from rfl, if_neg (by decide)]
  unfold uint64RC
  rw [if_neg (by decide)]; rw [if_neg (by decide)];
  rw [if_pos rfl, if_neg (by rw [List.length_append, hl]; omega), List.take_left' hl, List.drop_left' hl, bigU_beL2']
theorem uint64R_209q (u : Nat) (q : Nat) (hq : q < 3) : uint64R ((UInt8.ofNat 209 :: beL u 2).take q) = none := by
  rcases q with _ | q
  · rfl
  have hl : (beL u 2).length = 2 := rfl
  have hs : ((beL u 2).take q).length < 2 := by rw [List.length_take]; omega
  rw [List.take_succ_cons]
  rw [uint64R_cons, show (UInt8.ofNat 209).toNat = 209 from rfl, if_neg (by decide)]
  unfold uint64RC
  rw [if_neg (by decide)]; rw [if_neg (by decide)];
  rw [if_pos rfl, if_pos hs]
theorem uint64R_205 (u : Nat) (zs : List UInt8) : uint64R (UInt8.ofNat 205 :: (beL u 2 ++ zs)) = some ((((u % 65536) : Nat) : Int), zs) := by
  have hl : (beL u 2).length = 2 := rfl
  rw [uint64R_cons, show (UInt8.ofNat 205).toNat = 205 from rfl, if_neg (by decide)]
  unfold uint64RC
  rw [if_neg (by decide)]; rw [if_neg (by decide)]; rw [if_neg (by decide)];
  rw [if_pos rfl, if_neg (by rw [List.length_append, hl]; omega), List.take_left' hl, List.drop_left' hl, bigU_beL2']
theorem uint64R_205q (u : Nat) (q : Nat) (hq : q < 3) : uint64R ((UInt8.ofNat 205 :: beL u 2).take q) = none := by
  rcases q with _ | q
  · rfl
  have hl : (beL u 2).length = 2 := rfl
  have hs : ((beL u 2).take q).length < 2 := by rw [List.length_take]; omega
  rw [List.take_succ_cons]
  rw [uint64R_cons, show (UInt8.ofNat 205).toNat = 205 from rfl, if_neg (by decide)]
  unfold uint64RC
  rw [if_neg (by decide)]; rw [if_neg (by decide)]; rw [if_neg (by decide)];
  rw [if_pos rfl, if_pos hs]
theorem uint64R_210 (u : Nat) (zs : List UInt8) : uint64R (UInt8.ofNat 210 :: (beL u 4 ++ zs)) = if sgn 4 (u % 4294967296) < 0 then none else some (sgn 4 (u % 4294967296), zs) := by
  have hl : (beL u 4).length = 4 := rfl
  rw [uint64R_cons, show (UInt8.ofNat 210).toNat = 210 from rfl, if_neg (by decide)]
  unfold uint64RC
  rw [if_neg (by decide)]; rw [if_neg (by decide)]; rw [if_neg (by decide)]; rw [if_neg (by decide)];
  rw [if_pos rfl, if_neg (by rw [List.length_append, hl]; omega), List.take_left' hl, List.drop_left' hl, bigU_beL4']
theorem uint64R_210q (u : Nat) (q : Nat) (hq : q < 5) : uint64R ((UInt8.ofNat 210 :: beL u 4).take q) = none := by
  rcases q with _ | q
  · rfl
  have hl : (beL u 4).length = 4 := rfl
  have hs : ((beL u 4).take q).length < 4 := by rw [List.length_take]; omega
  rw [List.take_succ_cons]
  rw [uint64R_cons, show (UInt8.ofNat 210).toNat = 210 from rfl, if_neg (by decide)]
  unfold uint64RC
  rw [if_neg (by decide)]; rw [if_neg (by decide)]; rw [if_neg (by decide)]; rw [if_neg (by decide)];
  rw [if_pos rfl, if_pos hs]
theorem uint64R_206 (u : Nat) (zs : List UInt8) : uint64R (UInt8.ofNat 206 :: (beL u 4 ++ zs)) = some ((((u % 4294967296) : Nat) : Int), zs) := by
  have hl : (beL u 4).length = 4 := rfl
  rw [uint64R_cons, show (UInt8.ofNat 206).toNat = 206 from rfl, if_neg (by decide)]
  unfold uint64RC
  rw [if_neg (by decide)]; rw [if_neg (by decide)]; rw [if_neg (by decide)]; rw [if_neg (by decide)]; rw [if_neg (by decide)];
  rw [if_pos rfl, if_neg (by rw [List.length_append, hl]; omega), List.take_left' hl, List.drop_left' hl, bigU_beL4']
theorem uint64R_206q (u : Nat) (q : Nat) (hq : q < 5) : uint64R ((UInt8.ofNat 206 :: beL u 4).take q) = none := by
  rcases q with _ | q
  · rfl
  have hl : (beL u 4).length = 4 := rfl
  have hs : ((beL u 4).take q).length < 4 := by rw [List.length_take]; omega
  rw [List.take_succ_cons]
  rw [uint64R_cons, show (UInt8.ofNat 206).toNat = 206 from rfl, if_neg (by decide)]
  unfold uint64RC
  rw [if_neg (by decide)]; rw [if_neg (by decide)]; rw [if_neg (by decide)]; rw [if_neg (by decide)]; rw [if_neg (by decide)];
  rw [if_pos rfl, if_pos hs]
theorem uint64R_211 (u : Nat) (zs : List UInt8) : uint64R (UInt8.ofNat 211 :: (beL u 8 ++ zs)) = if sgn 8 (u % 18446744073709551616) < 0 then none else some (sgn 8 (u % 18446744073709551616), zs) := by
  have hl : (beL u 8).length = 8 := rfl
  rw [uint64R_cons, show (UInt8.ofNat 211).toNat = 211 from rfl, if_neg (by decide)]
  unfold uint64RC
  rw [if_neg (by decide)]; rw [if_neg (by decide)]; rw [if_neg (by decide)]; rw [if_neg (by decide)]; rw [if_neg (by decide)]; rw [if_neg (by decide)];
  rw [if_pos rfl, if_neg (by rw [List.length_append, hl]; omega), List.take_left' hl, List.drop_left' hl, bigU_beL8]
theorem uint64R_211q (u : Nat) (q : Nat) (hq : q < 9) : uint64R ((UInt8.ofNat 211 :: beL u 8).take q) = none := by
  rcases q with _ | q
  · rfl
  have hl : (beL u 8).length = 8 := rfl
  have hs : ((beL u 8).take q).length < 8 := by rw [List.length_take]; omega
  rw [List.take_succ_cons]
  rw [uint64R_cons, show (UInt8.ofNat 211).toNat = 211 from rfl, if_neg (by decide)]
  unfold uint64RC
  rw [if_neg (by decide)]; rw [if_neg (by decide)]; rw [if_neg (by decide)]; rw [if_neg (by decide)]; rw [if_neg (by decide)]; rw [if_neg (by decide)];
  rw [if_pos rfl, if_pos hs]
theorem uint64R_207 (u : Nat) (zs : List UInt8) : uint64R (UInt8.ofNat 207 :: (beL u 8 ++ zs)) = some ((((u % 18446744073709551616) : Nat) : Int), zs) := by
  have hl : (beL u 8).length = 8 := rfl
  rw [uint64R_cons, show (UInt8.ofNat 207).toNat = 207 from rfl, if_neg (by decide)]
  unfold uint64RC
  rw [if_neg (by decide)]; rw [if_neg (by decide)]; rw [if_neg (by decide)]; rw [if_neg (by decide)]; rw [if_neg (by decide)]; rw [if_neg (by decide)]; rw [if_neg (by decide)];
  rw [if_pos rfl, if_neg (by rw [List.length_append, hl]; omega), List.take_left' hl, List.drop_left' hl, bigU_beL8]
theorem uint64R_207q (u : Nat) (q : Nat) (hq : q < 9) : uint64R ((UInt8.ofNat 207 :: beL u 8).take q) = none := by
  rcases q with _ | q
  · rfl
  have hl : (beL u 8).length = 8 := rfl
  have hs : ((beL u 8).take q).length < 8 := by rw [List.length_take]; omega
  rw [List.take_succ_cons]
  rw [uint64R_cons, show (UInt8.ofNat 207).toNat = 207 from rfl, if_neg (by decide)]
  unfold uint64RC
  rw [if_neg (by decide)]; rw [if_neg (by decide)]; rw [if_neg (by decide)]; rw [if_neg (by decide)]; rw [if_neg (by decide)]; rw [if_neg (by decide)]; rw [if_neg (by decide)];
  rw [if_pos rfl, if_pos hs]
theorem uint64R_no {h zs : List UInt8} {k : Int} (hh : ∃ b r, h = b :: r ∧ kindB b.toNat = k) (hk : k ≠ 3) : uint64R (h ++ zs) = none ∧ ∀ q, uint64R (h.take q) = none := by
  obtain ⟨b, r, rfl, hb⟩ := hh
  have key : ∀ x, uint64R (b :: x) = none := by
    intro x
    have hlo : ¬ b.toNat < 128 := fun h => hk (by rw [← hb]; unfold kindB; rw [if_pos h])
    have hn : ∀ c, kindB c = 3 → b.toNat ≠ c := fun c hc h => hk (by rw [← hb, h]; exact hc)
    rw [uint64R_cons, if_neg hlo]
    unfold uint64RC
    rw [if_neg (hn 208 (by decide)), if_neg (hn 204 (by decide)), if_neg (hn 209 (by decide)), if_neg (hn 205 (by decide)), if_neg (hn 210 (by decide)), if_neg (hn 206 (by decide)), if_neg (hn 211 (by decide)), if_neg (hn 207 (by decide))]
  refine ⟨by rw [List.cons_append]; exact key _, fun q => ?_⟩
  rcases q with _ | q
  · rfl
  · rw [List.take_succ_cons]
    exact key _
theorem sgn_small (s u : Nat) (h : u < 2 ^ (8 * s - 1)) : sgn s u = u := by unfold sgn; rw [if_pos h]
theorem int64R_pos {u : Nat} {h : List UInt8} (hh : posF u h) (hu : u < 9223372036854775808) (zs : List UInt8) : int64R (h ++ zs) = some ((u : Int), zs) ∧ ∀ q, q < h.length → int64R (h.take q) = none := by
  unfold posF at hh
  rcases hh with ⟨h1, rfl⟩ | ⟨h1, rfl⟩ | ⟨h1, rfl⟩ | ⟨h1, rfl⟩ | rfl | ⟨h1, rfl⟩ | ⟨h1, rfl⟩ | ⟨h1, rfl⟩ | ⟨h1, rfl⟩
  · have e : (UInt8.ofNat u).toNat = u := by simp; omega
    refine ⟨by rw [List.singleton_append, int64R_cons, e, if_pos h1], fun q hq => ?_⟩
    have : q = 0 := by simpa using hq
    subst this
    rfl
  · refine ⟨?_, fun q hq => int64R_204q u q (by simpa [beL] using hq)⟩
    rw [List.cons_append, int64R_204, Nat.mod_eq_of_lt (by omega)]
  · refine ⟨?_, fun q hq => int64R_205q u q (by simpa [beL] using hq)⟩
    rw [List.cons_append, int64R_205, Nat.mod_eq_of_lt (by omega)]
  · refine ⟨?_, fun q hq => int64R_206q u q (by simpa [beL] using hq)⟩
    rw [List.cons_append, int64R_206, Nat.mod_eq_of_lt (by omega)]
  · refine ⟨?_, fun q hq => int64R_207q u q (by simpa [beL] using hq)⟩
    rw [List.cons_append, int64R_207, Nat.mod_eq_of_lt (by omega), if_neg (by omega)]
  · refine ⟨?_, fun q hq => int64R_208q u q (by simpa [beL] using hq)⟩
    rw [List.cons_append, int64R_208, Nat.mod_eq_of_lt (by omega), sgn_small 1 u (by omega)]
  · refine ⟨?_, fun q hq => int64R_209q u q (by simpa [beL] using hq)⟩
    rw [List.cons_append, int64R_209, Nat.mod_eq_of_lt (by omega), sgn_small 2 u (by omega)]
  · refine ⟨?_, fun q hq => int64R_210q u q (by simpa [beL] using hq)⟩
    rw [List.cons_append, int64R_210, Nat.mod_eq_of_lt (by omega), sgn_small 4 u (by omega)]
  · refine ⟨?_, fun q hq => int64R_211q u q (by simpa [beL] using hq)⟩
    rw [List.cons_append, int64R_211, Nat.mod_eq_of_lt (by omega), sgn_small 8 u (by omega)]
theorem int64R_big {u : Nat} {h : List UInt8} (hh : posF u h) (hu : 9223372036854775808 ≤ u) (hu2 : u < 18446744073709551616) (zs : List UInt8) : int64R (h ++ zs) = none ∧ ∀ q, q < h.length → int64R (h.take q) = none := by
  unfold posF at hh
  rcases hh with ⟨h1, rfl⟩ | ⟨h1, rfl⟩ | ⟨h1, rfl⟩ | ⟨h1, rfl⟩ | rfl | ⟨h1, rfl⟩ | ⟨h1, rfl⟩ | ⟨h1, rfl⟩ | ⟨h1, rfl⟩
  · omega
  · omega
  · omega
  · omega
  · refine ⟨?_, fun q hq => int64R_207q u q (by simpa [beL] using hq)⟩
    rw [List.cons_append, int64R_207, Nat.mod_eq_of_lt (by omega), if_pos (by omega)]
  · omega
  · omega
  · omega
  · omega
set_option maxRecDepth 100000 in
theorem int64R_neg {u : Nat} {h : List UInt8} (hh : negF u h) (hu : 9223372036854775808 ≤ u) (hu2 : u < 18446744073709551616) (zs : List UInt8) : int64R (h ++ zs) = some ((u : Int) - 18446744073709551616, zs) ∧ ∀ q, q < h.length → int64R (h.take q) = none := by
  unfold negF at hh
  rcases hh with ⟨h1, rfl⟩ | ⟨h1, rfl⟩ | ⟨h1, rfl⟩ | ⟨h1, rfl⟩ | rfl
  · have e : (UInt8.ofNat u).toNat = u - 18446744073709551360 := by simp; omega
    refine ⟨?_, fun q hq => ?_⟩
    · rw [List.singleton_append, int64R_cons, e, if_neg (by omega), if_pos (by omega), show (((u - 18446744073709551360 : Nat) : Int) - 256) = (u : Int) - 18446744073709551616 by omega]
    · have : q = 0 := by simpa using hq
      subst this
      rfl
  · refine ⟨?_, fun q hq => int64R_208q u q (by simpa [beL] using hq)⟩
    rw [List.cons_append, int64R_208, show sgn 1 (u % 256) = (u : Int) - 18446744073709551616 by simp [sgn]; split <;> omega]
  · refine ⟨?_, fun q hq => int64R_209q u q (by simpa [beL] using hq)⟩
    rw [List.cons_append, int64R_209, show sgn 2 (u % 65536) = (u : Int) - 18446744073709551616 by simp [sgn]; split <;> omega]
  · refine ⟨?_, fun q hq => int64R_210q u q (by simpa [beL] using hq)⟩
    rw [List.cons_append, int64R_210, show sgn 4 (u % 4294967296) = (u : Int) - 18446744073709551616 by simp [sgn]; split <;> omega]
  · refine ⟨?_, fun q hq => int64R_211q u q (by simpa [beL] using hq)⟩
    rw [List.cons_append, int64R_211, show sgn 8 (u % 18446744073709551616) = (u : Int) - 18446744073709551616 by simp [sgn]; split <;> omega]
theorem uint64R_pos {u : Nat} {h : List UInt8} (hh : posF u h) (hu : u < 18446744073709551616) (zs : List UInt8) : uint64R (h ++ zs) = some ((u : Int), zs) ∧ ∀ q, q < h.length → uint64R (h.take q) = none := by
  unfold posF at hh
  rcases hh with ⟨h1, rfl⟩ | ⟨h1, rfl⟩ | ⟨h1, rfl⟩ | ⟨h1, rfl⟩ | rfl | ⟨h1, rfl⟩ | ⟨h1, rfl⟩ | ⟨h1, rfl⟩ | ⟨h1, rfl⟩
  · have e : (UInt8.ofNat u).toNat = u := by simp; omega
    refine ⟨by rw [List.singleton_append, uint64R_cons, e, if_pos h1], fun q hq => ?_⟩
    have : q = 0 := by simpa using hq
    subst this
    rfl
  · refine ⟨?_, fun q hq => uint64R_204q u q (by simpa [beL] using hq)⟩
    rw [List.cons_append, uint64R_204, Nat.mod_eq_of_lt (by omega)]
  · refine ⟨?_, fun q hq => uint64R_205q u q (by simpa [beL] using hq)⟩
    rw [List.cons_append, uint64R_205, Nat.mod_eq_of_lt (by omega)]
  · refine ⟨?_, fun q hq => uint64R_206q u q (by simpa [beL] using hq)⟩
    rw [List.cons_append, uint64R_206, Nat.mod_eq_of_lt (by omega)]
  · refine ⟨?_, fun q hq => uint64R_207q u q (by simpa [beL] using hq)⟩
    rw [List.cons_append, uint64R_207, Nat.mod_eq_of_lt (by omega)]
  · refine ⟨?_, fun q hq => uint64R_208q u q (by simpa [beL] using hq)⟩
    rw [List.cons_append, uint64R_208, Nat.mod_eq_of_lt (by omega), sgn_small 1 u (by omega), if_neg (by omega)]
  · refine ⟨?_, fun q hq => uint64R_209q u q (by simpa [beL] using hq)⟩
    rw [List.cons_append, uint64R_209, Nat.mod_eq_of_lt (by omega), sgn_small 2 u (by omega), if_neg (by omega)]
  · refine ⟨?_, fun q hq => uint64R_210q u q (by simpa [beL] using hq)⟩
    rw [List.cons_append, uint64R_210, Nat.mod_eq_of_lt (by omega), sgn_small 4 u (by omega), if_neg (by omega)]
  · refine ⟨?_, fun q hq => uint64R_211q u q (by simpa [beL] using hq)⟩
    rw [List.cons_append, uint64R_211, Nat.mod_eq_of_lt (by omega), sgn_small 8 u (by omega), if_neg (by omega)]
set_option maxRecDepth 100000 in
theorem uint64R_neg {u : Nat} {h : List UInt8} (hh : negF u h) (hu : 9223372036854775808 ≤ u) (hu2 : u < 18446744073709551616) (zs : List UInt8) : uint64R (h ++ zs) = none ∧ ∀ q, q < h.length → uint64R (h.take q) = none := by
  unfold negF at hh
  rcases hh with ⟨h1, rfl⟩ | ⟨h1, rfl⟩ | ⟨h1, rfl⟩ | ⟨h1, rfl⟩ | rfl
  · have e : (UInt8.ofNat u).toNat = u - 18446744073709551360 := by simp; omega
    refine ⟨?_, fun q hq => ?_⟩
    · rw [List.singleton_append, uint64R_cons, e, if_neg (by omega)]
      unfold uint64RC
      rw [if_neg (by omega), if_neg (by omega), if_neg (by omega), if_neg (by omega), if_neg (by omega), if_neg (by omega), if_neg (by omega), if_neg (by omega)]
    · have : q = 0 := by simpa using hq
      subst this
      rfl
  · refine ⟨?_, fun q hq => uint64R_208q u q (by simpa [beL] using hq)⟩
    rw [List.cons_append, uint64R_208, if_pos (by simp [sgn]; split <;> omega)]
  · refine ⟨?_, fun q hq => uint64R_209q u q (by simpa [beL] using hq)⟩
    rw [List.cons_append, uint64R_209, if_pos (by simp [sgn]; split <;> omega)]
  · refine ⟨?_, fun q hq => uint64R_210q u q (by simpa [beL] using hq)⟩
    rw [List.cons_append, uint64R_210, if_pos (by simp [sgn]; split <;> omega)]
  · refine ⟨?_, fun q hq => uint64R_211q u q (by simpa [beL] using hq)⟩
    rw [List.cons_append, uint64R_211, if_pos (by simp [sgn]; split <;> omega)]
end Go.Proofs.YtlnpiigdjjadiaaDoor
