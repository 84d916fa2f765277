/-
  Plain: Skip passes a written value, and refuses one that is cut off. No condition but that the value fits.
-/
import Derived.Test.YtpmcljjhjjmlfaaDoorSkip
import Derived.Test.YtpmcljjhjjmlfaaDoorLead
namespace Go.Proofs.YtpmcljjhjjmlfaaDoor
set_option linter.unusedSimpArgs false
set_option linter.unusedVariables false
set_option linter.unusedVariables false
open Go.RowKit
def SkipsOK (f : Nat) (h : List UInt8) : Prop := (∀ zs, skip1 f (h ++ zs) = some (some zs)) ∧ ∀ q, q < h.length → skip1 f (h.take q) = some none
def SkipsWOK (f a : Nat) (h : List UInt8) : Prop := (∀ zs, skipsW (skip1 f) a (h ++ zs) = some (some zs)) ∧ ∀ q, q < h.length → skipsW (skip1 f) a (h.take q) = some none
def HeadSz (h : List UInt8) (a : Nat) : Prop := (∀ x, getSz (h ++ x) = some (h.length, a)) ∧ ∀ q, q < h.length → getSz (h.take q) = none
theorem skip1_nil (f : Nat) : skip1 (f + 1) [] = some none := rfl
theorem getSz_const {b : UInt8} {L : Nat} (r : List UInt8) (h1 : bsz b.toNat = L) (h2 : bmd b.toNat = 0) (h0 : 0 < L) : getSz (b :: r) = some (L, 0) := by
  rw [getSz_cons, if_neg (by omega), if_pos (by omega), h1, h2]
  rfl
theorem skip_const (f : Nat) (b : UInt8) (r : List UInt8) (h1 : bsz b.toNat = (b :: r).length) (h2 : bmd b.toNat = 0) : SkipsOK (f + 1) (b :: r) := by
  constructor
  · intro zs
    rw [List.cons_append, skip1_succ, getSz_const _ h1 h2 (by simp)]
    dsimp only
    rw [if_neg (by simp), ← List.cons_append, List.drop_left]
    rfl
  · intro q hq
    rcases q with _ | q
    · rfl
    · rw [List.take_succ_cons, skip1_succ, getSz_const _ h1 h2 (by simp)]
      dsimp only
      rw [if_pos (by simp at hq ⊢; omega)]
theorem getSz_sized {b : UInt8} {k m : Nat} {r : List UInt8} (hk : (k = 1 ∧ bmd b.toNat = -1) ∨ (k = 2 ∧ bmd b.toNat = -2) ∨ (k = 4 ∧ bmd b.toNat = -3)) (hs : 1 + k ≤ bsz b.toNat) (hl : bsz b.toNat ≤ r.length + 1) (hm : bigU (r.take k) = m) :
    getSz (b :: r) = some (bsz b.toNat + m, 0) := by
  subst hm
  rcases hk with ⟨rfl, h⟩ | ⟨rfl, h⟩ | ⟨rfl, h⟩
  · rw [getSz_cons, if_neg (by omega), if_neg (by omega), if_neg (by omega), if_pos h]
  · rw [getSz_cons, if_neg (by omega), if_neg (by omega), if_neg (by omega), if_neg (by omega), if_pos h]
  · rw [getSz_cons, if_neg (by omega), if_neg (by omega), if_neg (by omega), if_neg (by omega), if_neg (by omega), if_pos h]
theorem getSz_few {b : UInt8} {r : List UInt8} (h1 : bmd b.toNat < 0) (h2 : r.length + 1 < bsz b.toNat) : getSz (b :: r) = none := by
  by_cases h0 : bsz b.toNat = 0
  · rw [getSz_cons, if_pos h0]
  · rw [getSz_cons, if_neg h0, if_neg (show ¬ 0 ≤ bmd b.toNat by omega), if_pos h2]
theorem skip_sized (f : Nat) (b : UInt8) (e t : List UInt8) (k n : Nat) (hk : (k = 1 ∧ bmd b.toNat = -1) ∨ (k = 2 ∧ bmd b.toNat = -2) ∨ (k = 4 ∧ bmd b.toNat = -3)) (he : e.length = k) (hn : bigU e = n) (hs : 1 + k ≤ bsz b.toNat) (hL : 1 + k + t.length = bsz b.toNat + n) :
    SkipsOK (f + 1) (b :: (e ++ t)) := by
  constructor
  · intro zs
    have hg : getSz (b :: (e ++ (t ++ zs))) = some (bsz b.toNat + n, 0) := getSz_sized hk hs (by simp; omega) (by rw [List.take_left' he]; exact hn)
    rw [List.cons_append, List.append_assoc, skip1_succ, hg]
    dsimp only
    rw [if_neg (by simp; omega)]
    have hd : (b :: (e ++ (t ++ zs))).drop (bsz b.toNat + n) = zs := by
      rw [← List.append_assoc, ← List.cons_append]
      exact List.drop_left' (by simp; omega)
    rw [hd]
    rfl
  · intro q hq
    rcases q with _ | q
    · rfl
    · rw [List.take_succ_cons, skip1_succ]
      have hq2 : q < (e ++ t).length := by simpa using hq
      rw [List.length_append] at hq2
      by_cases hb : q + 1 < bsz b.toNat
      · rw [getSz_few (by omega) (by rw [List.length_take, List.length_append]; omega)]
      · have hg : getSz (b :: (e ++ t).take q) = some (bsz b.toNat + n, 0) := getSz_sized hk hs (by rw [List.length_take, List.length_append]; omega) (by rw [List.take_take, Nat.min_eq_left (by omega), List.take_left' he]; exact hn)
        rw [hg]
        dsimp only
        rw [if_pos (by rw [List.length_cons, List.length_take, List.length_append]; omega)]
theorem skip_comp (f a : Nat) (h K : List UInt8) (hh : HeadSz h a) (hk : SkipsWOK f a K) : SkipsOK (f + 1) (h ++ K) := by
  constructor
  · intro zs
    rw [List.append_assoc, skip1_succ, hh.1]
    dsimp only
    rw [if_neg (by simp), List.drop_left]
    exact hk.1 zs
  · intro q hq
    by_cases hb : q < h.length
    · rw [List.take_append_of_le_length (by omega), skip1_succ, hh.2 q hb]
    · rw [List.length_append] at hq
      rw [List.take_append, List.take_of_length_le (by omega), skip1_succ, hh.1]
      dsimp only
      rw [if_neg (by simp), List.drop_left]
      exact hk.2 _ (by omega)
theorem headSz_fix (b : UInt8) (a : Nat) (h1 : bsz b.toNat = 1) (h2 : bmd b.toNat = a) : HeadSz [b] a := by
  constructor
  · intro x
    rw [List.singleton_append, getSz_cons, if_neg (by omega), if_pos (by omega), h1, h2]
    rfl
  · intro q hq
    obtain rfl : q = 0 := by simpa using hq
    rfl
theorem headSz_coded (b : UInt8) (e : List UInt8) (k a : Nat) (hk : (k = 2 ∧ bmd b.toNat = -4 ∧ a = 2 * bigU e) ∨ (k = 4 ∧ bmd b.toNat = -5 ∧ a = 2 * bigU e) ∨ (k = 2 ∧ bmd b.toNat = -6 ∧ a = bigU e) ∨ (k = 4 ∧ bmd b.toNat = -7 ∧ a = bigU e)) (he : e.length = k) (hs : bsz b.toNat = 1 + k) : HeadSz (b :: e) a := by
  constructor
  · intro x
    have ht : (e ++ x).take k = e := List.take_left' he
    have hl : (b :: e).length = bsz b.toNat := by simp; omega
    rw [List.cons_append, hl]
    rcases hk with ⟨rfl, h, rfl⟩ | ⟨rfl, h, rfl⟩ | ⟨rfl, h, rfl⟩ | ⟨rfl, h, rfl⟩
    · rw [getSz_cons, if_neg (by omega), if_neg (by omega), if_neg (by simp; omega), if_neg (by omega), if_neg (by omega), if_neg (by omega), if_pos h, ht]
    · rw [getSz_cons, if_neg (by omega), if_neg (by omega), if_neg (by simp; omega), if_neg (by omega), if_neg (by omega), if_neg (by omega), if_neg (by omega), if_pos h, ht]
    · rw [getSz_cons, if_neg (by omega), if_neg (by omega), if_neg (by simp; omega), if_neg (by omega), if_neg (by omega), if_neg (by omega), if_neg (by omega), if_neg (by omega), if_pos h, ht]
    · rw [getSz_cons, if_neg (by omega), if_neg (by omega), if_neg (by simp; omega), if_neg (by omega), if_neg (by omega), if_neg (by omega), if_neg (by omega), if_neg (by omega), if_neg (by omega), ht]
  · intro q hq
    rcases q with _ | q
    · rfl
    · rw [List.take_succ_cons]
      exact getSz_few (by omega) (by simp at hq ⊢; omega)
theorem bs_lo (b : Nat) (h : b < 128) : bsz b = 1 ∧ bmd b = 0 := by
  unfold bsz bmd bspec
  rw [if_pos h]
  exact ⟨rfl, rfl⟩
theorem bs_map (b : Nat) (h1 : 128 ≤ b) (h2 : b < 144) : bsz b = 1 ∧ bmd b = (2 * (b - 128) : Nat) := by
  unfold bsz bmd bspec
  rw [if_neg (by omega), if_pos h2]
  exact ⟨rfl, by dsimp only; omega⟩
theorem bs_arr (b : Nat) (h1 : 144 ≤ b) (h2 : b < 160) : bsz b = 1 ∧ bmd b = (b - 144 : Nat) := by
  unfold bsz bmd bspec
  rw [if_neg (by omega), if_neg (by omega), if_pos h2]
  exact ⟨rfl, by dsimp only; omega⟩
theorem bs_str (b : Nat) (h1 : 160 ≤ b) (h2 : b < 192) : bsz b = 1 + (b - 160) ∧ bmd b = 0 := by
  unfold bsz bmd bspec
  rw [if_neg (by omega), if_neg (by omega), if_neg (by omega), if_pos h2]
  exact ⟨by dsimp only; omega, rfl⟩
theorem bs_hi (b : Nat) (h1 : 224 ≤ b) : bsz b = 1 ∧ bmd b = 0 := by
  unfold bsz bmd bspec
  rw [if_neg (by omega), if_neg (by omega), if_neg (by omega), if_neg (by omega), if_pos h1]
  exact ⟨rfl, rfl⟩
theorem bigU_b1 (u : Nat) : bigU (beL u 1) = u % 256 := by simp [bigU, beL]
theorem bigU_b2 (u : Nat) : bigU (beL u 2) = u % 65536 := by simp [bigU, beL]; omega
theorem bigU_b4 (u : Nat) : bigU (beL u 4) = u % 4294967296 := by simp [bigU, beL]; omega
theorem skip_lo (f u : Nat) (h : u < 128) : SkipsOK (f + 1) [UInt8.ofNat u] := by
  have e : (UInt8.ofNat u).toNat = u := by simp; omega
  have := bs_lo u h
  exact skip_const f _ [] (by rw [e]; exact this.1) (by rw [e]; exact this.2)
theorem skip_neg (f u : Nat) (hu : u < 18446744073709551616) {h : List UInt8} (hh : negF u h) : SkipsOK (f + 1) h := by
  unfold negF at hh
  rcases hh with ⟨h1, rfl⟩ | ⟨_, rfl⟩ | ⟨_, rfl⟩ | ⟨_, rfl⟩ | rfl
  · have e : (UInt8.ofNat u).toNat = u % 256 := by simp
    have := bs_hi (u % 256) (by omega)
    exact skip_const f _ [] (by rw [e]; exact this.1) (by rw [e]; exact this.2)
  all_goals exact skip_const f _ _ rfl rfl
theorem skip_pos (f u : Nat) {h : List UInt8} (hh : posF u h) : SkipsOK (f + 1) h := by
  unfold posF at hh
  rcases hh with ⟨h1, rfl⟩ | ⟨_, rfl⟩ | ⟨_, rfl⟩ | ⟨_, rfl⟩ | rfl | ⟨_, rfl⟩ | ⟨_, rfl⟩ | ⟨_, rfl⟩ | ⟨_, rfl⟩
  · exact skip_lo f u h1
  all_goals exact skip_const f _ _ rfl rfl
theorem head_two {fixed : Int} {under n : Nat} {fs : List (Nat × Nat)} {h : List UInt8} (hh : HeadOK fixed under n fs h) : (0 ≤ fixed ∧ n < under ∧ h = [UInt8.ofNat (fixed.toNat + n)]) ∨ ∃ f ∈ fs, (f.2 = 8 ∨ n < 256 ^ f.2) ∧ h = UInt8.ofNat f.1 :: beL n f.2 := by
  rcases hh with h | ⟨f, hm, _, hn, h⟩
  · exact .inl h
  · exact .inr ⟨f, hm, hn, h⟩
theorem skip_text (f : Nat) (t h : List UInt8) (hh : HeadIs 6 t.length h) : SkipsOK (f + 1) (h ++ t) := by
  rcases hh with ⟨h, _⟩ | ⟨h, _⟩ | ⟨h, _⟩ | ⟨_, hh⟩
  · omega
  · omega
  · omega
  rcases head_two hh with ⟨_, hu, rfl⟩ | ⟨g, hm, hfn, rfl⟩
  · have e : (UInt8.ofNat ((160 : Int).toNat + t.length)).toNat = 160 + t.length := small_nat 160 _ (by omega)
    have := bs_str (160 + t.length) (by omega) (by omega)
    refine skip_const f _ t (by rw [e, this.1]; simp; omega) (by rw [e]; exact this.2)
  · simp only [List.mem_cons, List.not_mem_nil, or_false] at hm
    rcases hm with rfl | rfl | rfl
    · have hn : t.length < 256 := by rcases hfn with h | h; (exact absurd h (by decide)); (simpa using h)
      exact skip_sized f _ (beL t.length 1) t 1 t.length (.inl ⟨rfl, rfl⟩) rfl (by rw [bigU_b1]; omega) (by decide) (by show 1 + 1 + t.length = 2 + t.length; omega)
    · have hn : t.length < 65536 := by rcases hfn with h | h; (exact absurd h (by decide)); (simpa using h)
      exact skip_sized f _ (beL t.length 2) t 2 t.length (.inr (.inl ⟨rfl, rfl⟩)) rfl (by rw [bigU_b2]; omega) (by decide) (by show 1 + 2 + t.length = 3 + t.length; omega)
    · have hn : t.length < 4294967296 := by rcases hfn with h | h; (exact absurd h (by decide)); (simpa using h)
      exact skip_sized f _ (beL t.length 4) t 4 t.length (.inr (.inr ⟨rfl, rfl⟩)) rfl (by rw [bigU_b4]; omega) (by decide) (by show 1 + 4 + t.length = 5 + t.length; omega)
theorem skip_bin (f : Nat) (t h : List UInt8) (hh : HeadIs 7 t.length h) : SkipsOK (f + 1) (h ++ t) := by
  rcases hh with ⟨h, _⟩ | ⟨h, _⟩ | ⟨_, hh⟩ | ⟨h, _⟩
  · omega
  · omega
  · rcases head_two hh with ⟨h, _, _⟩ | ⟨g, hm, hfn, rfl⟩
    · omega
    simp only [List.mem_cons, List.not_mem_nil, or_false] at hm
    rcases hm with rfl | rfl | rfl
    · have hn : t.length < 256 := by rcases hfn with h | h; (exact absurd h (by decide)); (simpa using h)
      exact skip_sized f _ (beL t.length 1) t 1 t.length (.inl ⟨rfl, rfl⟩) rfl (by rw [bigU_b1]; omega) (by decide) (by show 1 + 1 + t.length = 2 + t.length; omega)
    · have hn : t.length < 65536 := by rcases hfn with h | h; (exact absurd h (by decide)); (simpa using h)
      exact skip_sized f _ (beL t.length 2) t 2 t.length (.inr (.inl ⟨rfl, rfl⟩)) rfl (by rw [bigU_b2]; omega) (by decide) (by show 1 + 2 + t.length = 3 + t.length; omega)
    · have hn : t.length < 4294967296 := by rcases hfn with h | h; (exact absurd h (by decide)); (simpa using h)
      exact skip_sized f _ (beL t.length 4) t 4 t.length (.inr (.inr ⟨rfl, rfl⟩)) rfl (by rw [bigU_b4]; omega) (by decide) (by show 1 + 4 + t.length = 5 + t.length; omega)
  · omega
theorem skip_ext (f : Nat) (kb : UInt8) (t h : List UInt8) (hh : extF t.length kb h) : SkipsOK (f + 1) (h ++ t) := by
  unfold extF at hh
  rcases hh with ⟨hl, rfl⟩ | ⟨hl, rfl⟩ | ⟨hl, rfl⟩ | ⟨hl, rfl⟩ | ⟨hl, rfl⟩ | ⟨hl, rfl⟩ | ⟨hl, rfl⟩ | ⟨hl, rfl⟩
  · exact skip_const f _ (kb :: t) (by show 3 = _; simp; omega) rfl
  · exact skip_const f _ (kb :: t) (by show 4 = _; simp; omega) rfl
  · exact skip_const f _ (kb :: t) (by show 6 = _; simp; omega) rfl
  · exact skip_const f _ (kb :: t) (by show 10 = _; simp; omega) rfl
  · exact skip_const f _ (kb :: t) (by show 18 = _; simp; omega) rfl
  · rw [show UInt8.ofNat 199 :: beL t.length 1 ++ [kb] ++ t = UInt8.ofNat 199 :: (beL t.length 1 ++ (kb :: t)) by simp]
    exact skip_sized f _ (beL t.length 1) (kb :: t) 1 t.length (.inl ⟨rfl, rfl⟩) rfl (by rw [bigU_b1]; omega) (by decide) (by show 1 + 1 + (kb :: t).length = 3 + t.length; simp; omega)
  · rw [show UInt8.ofNat 200 :: beL t.length 2 ++ [kb] ++ t = UInt8.ofNat 200 :: (beL t.length 2 ++ (kb :: t)) by simp]
    exact skip_sized f _ (beL t.length 2) (kb :: t) 2 t.length (.inr (.inl ⟨rfl, rfl⟩)) rfl (by rw [bigU_b2]; omega) (by decide) (by show 1 + 2 + (kb :: t).length = 4 + t.length; simp; omega)
  · rw [show UInt8.ofNat 201 :: beL t.length 4 ++ [kb] ++ t = UInt8.ofNat 201 :: (beL t.length 4 ++ (kb :: t)) by simp]
    exact skip_sized f _ (beL t.length 4) (kb :: t) 4 t.length (.inr (.inr ⟨rfl, rfl⟩)) rfl (by rw [bigU_b4]; omega) (by decide) (by show 1 + 4 + (kb :: t).length = 6 + t.length; simp; omega)
theorem head_arr {n : Nat} {h : List UInt8} (hh : HeadIs 8 n h) : HeadSz h n := by
  rcases hh with ⟨_, hh⟩ | ⟨h, _⟩ | ⟨h, _⟩ | ⟨h, _⟩
  · rcases head_two hh with ⟨_, hu, rfl⟩ | ⟨g, hm, hfn, rfl⟩
    · have e : (UInt8.ofNat ((144 : Int).toNat + n)).toNat = 144 + n := small_nat 144 _ (by omega)
      have := bs_arr (144 + n) (by omega) (by omega)
      exact headSz_fix _ n (by rw [e]; exact this.1) (by rw [e, this.2]; omega)
    · simp only [List.mem_cons, List.not_mem_nil, or_false] at hm
      rcases hm with rfl | rfl
      · have hn : n < 65536 := by rcases hfn with h | h; (exact absurd h (by decide)); (simpa using h)
        exact headSz_coded _ _ 2 n (.inr (.inr (.inl ⟨rfl, rfl, by rw [bigU_b2]; omega⟩))) rfl rfl
      · have hn : n < 4294967296 := by rcases hfn with h | h; (exact absurd h (by decide)); (simpa using h)
        exact headSz_coded _ _ 4 n (.inr (.inr (.inr ⟨rfl, rfl, by rw [bigU_b4]; omega⟩))) rfl rfl
  · omega
  · omega
  · omega
theorem head_map {n : Nat} {h : List UInt8} (hh : HeadIs 9 n h) : HeadSz h (2 * n) := by
  rcases hh with ⟨h, _⟩ | ⟨_, hh⟩ | ⟨h, _⟩ | ⟨h, _⟩
  · omega
  · rcases head_two hh with ⟨_, hu, rfl⟩ | ⟨g, hm, hfn, rfl⟩
    · have e : (UInt8.ofNat ((128 : Int).toNat + n)).toNat = 128 + n := small_nat 128 _ (by omega)
      have := bs_map (128 + n) (by omega) (by omega)
      exact headSz_fix _ (2 * n) (by rw [e]; exact this.1) (by rw [e, this.2]; omega)
    · simp only [List.mem_cons, List.not_mem_nil, or_false] at hm
      rcases hm with rfl | rfl
      · have hn : n < 65536 := by rcases hfn with h | h; (exact absurd h (by decide)); (simpa using h)
        exact headSz_coded _ _ 2 (2 * n) (.inl ⟨rfl, rfl, by rw [bigU_b2]; omega⟩) rfl rfl
      · have hn : n < 4294967296 := by rcases hfn with h | h; (exact absurd h (by decide)); (simpa using h)
        exact headSz_coded _ _ 4 (2 * n) (.inr (.inl ⟨rfl, rfl, by rw [bigU_b4]; omega⟩)) rfl rfl
  · omega
  · omega
theorem skipsW_cons {f a : Nat} {h K : List UInt8} (hh : SkipsOK f h) (hk : SkipsWOK f a K) : SkipsWOK f (a + 1) (h ++ K) := by
  constructor
  · intro zs
    rw [List.append_assoc, skipsW, hh.1]
    exact hk.1 zs
  · intro q hq
    by_cases hb : q < h.length
    · rw [List.take_append_of_le_length (by omega), skipsW, hh.2 q hb]
    · rw [List.length_append] at hq
      rw [List.take_append, List.take_of_length_le (by omega), skipsW, hh.1]
      exact hk.2 _ (by omega)
mutual
theorem skipP : ∀ (p : Pack) (bs : List UInt8) (f : Nat), WrP p bs → FitsP p → WfP p → cnt p ≤ f → SkipsOK f bs
  | .mk k n t e ks, bs, f, h, hf, hw, hc => by
    unfold FitsP FitHd at hf
    unfold WfP at hw
    unfold WrP at h
    unfold cnt at hc
    obtain ⟨f, rfl⟩ : ∃ g, f = g + 1 := ⟨f - 1, by omega⟩
    have hk := fun r hr => skipPs ks r f hr hf.2 hw.2 (by omega)
    have hev : k = 9 → ks.length % 2 = 0 := hf.1.2.2.2.2.2.2.2.2.2.2.1
    have hb1 : k = 1 → n ≤ 1 := hf.1.2.2.2.2.2.2.2.2.1
    rcases h with ⟨_, rfl⟩ | ⟨h1, rfl⟩ | ⟨_, _, h⟩ | ⟨_, h⟩ | ⟨_, rfl⟩ | ⟨_, rfl⟩ | ⟨_, h, hh, rfl⟩ | ⟨_, h, hh, rfl⟩ | ⟨_, h, hh, rfl⟩ | ⟨_, h, r, hh, hr, rfl⟩ | ⟨h9, h, r, hh, hr, rfl⟩
    · exact skip_const f _ [] rfl rfl
    · have := hb1 h1
      obtain rfl | rfl : n = 0 ∨ n = 1 := by omega
      · exact skip_const f _ [] rfl rfl
      · exact skip_const f _ [] rfl rfl
    · exact skip_neg f n hw.1 h
    · exact skip_pos f n h
    · exact skip_const f _ _ rfl rfl
    · exact skip_const f _ _ rfl rfl
    · exact skip_text f t h hh
    · exact skip_bin f t h hh
    · exact skip_ext f _ t h hh
    · exact skip_comp f ks.length h r (head_arr hh) (hk r hr)
    · have := hev h9
      have h2 := head_map hh
      rw [show 2 * (ks.length / 2) = ks.length by omega] at h2
      exact skip_comp f ks.length h r h2 (hk r hr)
theorem skipPs : ∀ (ps : List Pack) (bs : List UInt8) (f : Nat), WrPs ps bs → FitsPs ps → WfPs ps → cnts ps ≤ f → SkipsWOK f ps.length bs
  | [], bs, f, h, _, _, _ => by
    unfold WrPs at h
    subst h
    exact ⟨fun zs => rfl, fun q hq => absurd hq (by simp)⟩
  | p :: ps, bs, f, h, hf, hw, hc => by
    unfold WrPs at h
    unfold FitsPs at hf
    unfold WfPs at hw
    unfold cnts at hc
    obtain ⟨a, b, ha, hb, rfl⟩ := h
    exact skipsW_cons (skipP p a f ha hf.1 hw.1 (by omega)) (skipPs ps b f hb hf.2 hw.2 (by omega))
end
end Go.Proofs.YtpmcljjhjjmlfaaDoor
