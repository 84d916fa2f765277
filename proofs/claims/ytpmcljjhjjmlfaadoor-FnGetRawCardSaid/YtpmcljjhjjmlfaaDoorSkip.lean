/-
  msgp.getSize, skipDepth, Skip compute their plain functions (getSz, skip1). Conditions: the data read as bytes; msgp.ErrShortBytes is not nil; of values deeper than 100000 nothing is said.
-/
import Derived.Test.YtpmcljjhjjmlfaaDoorGetSizeM2
import Derived.Test.YtpmcljjhjjmlfaaDoorGetSizeM3
import Derived.Test.YtpmcljjhjjmlfaaDoorGetSizeM4
import Derived.Test.YtpmcljjhjjmlfaaDoorGetSizeM5
import Derived.Test.YtpmcljjhjjmlfaaDoorGetSizeM6
import Derived.Test.YtpmcljjhjjmlfaaDoorGetSizeM7
namespace Go.Proofs.YtpmcljjhjjmlfaaDoor
set_option linter.unusedSimpArgs false
set_option linter.unusedVariables false
set_option linter.unusedVariables false
open Go.RowKit
theorem getSz_cons (b : UInt8) (r : List UInt8) : getSz (b :: r) = if bsz b.toNat = 0 then none else if 0 ≤ bmd b.toNat then some (bsz b.toNat, (bmd b.toNat).toNat) else if r.length + 1 < bsz b.toNat then none else
    if bmd b.toNat = -1 then some (bsz b.toNat + bigU (r.take 1), 0) else if bmd b.toNat = -2 then some (bsz b.toNat + bigU (r.take 2), 0) else if bmd b.toNat = -3 then some (bsz b.toNat + bigU (r.take 4), 0) else
    if bmd b.toNat = -4 then some (bsz b.toNat, 2 * bigU (r.take 2)) else if bmd b.toNat = -5 then some (bsz b.toNat, 2 * bigU (r.take 4)) else if bmd b.toNat = -6 then some (bsz b.toNat, bigU (r.take 2)) else some (bsz b.toNat, bigU (r.take 4)) := rfl
theorem getSize_all (S : Nat → Prop) (A : Option Addr) (bs : List UInt8) (n c : Nat) (w : World) (hE : ErrAt w) (hn : n = bs.length) (hr : RB w S A bs) (hc : n ≤ c) (hcm : c ≤ 9223372036854775807) (hS : Old w S) :
    Calls Tryd.prog 65 #[.slice A n c] w (SizeR (getSz bs) w) := by
  subst hn
  rcases bs with _ | ⟨b, r⟩
  · exact getSize_nil A c w hE
  have hx := b.toNat_lt
  have hf := bmd_of b.toNat hx
  have hB := bytespec_any b.toNat hx
  rw [List.length_cons] at hc ⊢
  by_cases h0 : bsz b.toNat = 0
  · rw [show getSz (b :: r) = none by rw [getSz_cons, if_pos h0]]
    exact getSize_zero S A _ _ _ _ b r c w hE hr hc hcm hS rfl hB (by omega) (by omega) h0
  by_cases h1 : 0 ≤ bmd b.toNat
  · rw [show getSz (b :: r) = some (bsz b.toNat, (bmd b.toNat).toNat) by rw [getSz_cons, if_neg h0, if_pos h1]]
    exact getSize_pos S A _ _ _ _ b r c w hE hr hc hcm hS rfl hB (by omega) (by omega) (by omega) h1
  by_cases h2 : r.length + 1 < bsz b.toNat
  · rw [show getSz (b :: r) = none by rw [getSz_cons, if_neg h0, if_neg h1, if_pos h2]]
    exact getSize_short S A _ _ _ _ b r c w hE hr hc hcm hS rfl hB (by omega) (by omega) (by omega) (by omega) h2
  by_cases h3 : bmd b.toNat = -1
  · rw [show getSz (b :: r) = some (bsz b.toNat + bigU (r.take 1), 0) by rw [getSz_cons, if_neg h0, if_neg h1, if_neg h2, if_pos h3]]
    exact getSize_m1 S A _ _ _ _ b r c w hE hr hc hcm hS rfl hB (by omega) (by omega) h3 (by omega) (by omega)
  by_cases h4 : bmd b.toNat = -2
  · rw [show getSz (b :: r) = some (bsz b.toNat + bigU (r.take 2), 0) by rw [getSz_cons, if_neg h0, if_neg h1, if_neg h2, if_neg h3, if_pos h4]]
    exact getSize_m2 S A _ _ _ _ b r c w hE hr hc hcm hS rfl hB (by omega) (by omega) h4 (by omega) (by omega)
  by_cases h5 : bmd b.toNat = -3
  · rw [show getSz (b :: r) = some (bsz b.toNat + bigU (r.take 4), 0) by rw [getSz_cons, if_neg h0, if_neg h1, if_neg h2, if_neg h3, if_neg h4, if_pos h5]]
    exact getSize_m3 S A _ _ _ _ b r c w hE hr hc hcm hS rfl hB (by omega) (by omega) h5 (by omega) (by omega)
  by_cases h6 : bmd b.toNat = -4
  · rw [show getSz (b :: r) = some (bsz b.toNat, 2 * bigU (r.take 2)) by rw [getSz_cons, if_neg h0, if_neg h1, if_neg h2, if_neg h3, if_neg h4, if_neg h5, if_pos h6]]
    exact getSize_m4 S A _ _ _ _ b r c w hE hr hc hcm hS rfl hB (by omega) (by omega) h6 (by omega) (by omega)
  by_cases h7 : bmd b.toNat = -5
  · rw [show getSz (b :: r) = some (bsz b.toNat, 2 * bigU (r.take 4)) by rw [getSz_cons, if_neg h0, if_neg h1, if_neg h2, if_neg h3, if_neg h4, if_neg h5, if_neg h6, if_pos h7]]
    exact getSize_m5 S A _ _ _ _ b r c w hE hr hc hcm hS rfl hB (by omega) (by omega) h7 (by omega) (by omega)
  by_cases h8 : bmd b.toNat = -6
  · rw [show getSz (b :: r) = some (bsz b.toNat, bigU (r.take 2)) by rw [getSz_cons, if_neg h0, if_neg h1, if_neg h2, if_neg h3, if_neg h4, if_neg h5, if_neg h6, if_neg h7, if_pos h8]]
    exact getSize_m6 S A _ _ _ _ b r c w hE hr hc hcm hS rfl hB (by omega) (by omega) h8 (by omega) (by omega)
  have h9 : bmd b.toNat = -7 := by omega
  rw [show getSz (b :: r) = some (bsz b.toNat, bigU (r.take 4)) by rw [getSz_cons, if_neg h0, if_neg h1, if_neg h2, if_neg h3, if_neg h4, if_neg h5, if_neg h6, if_neg h7, if_neg h8]]
  exact getSize_m7 S A _ _ _ _ b r c w hE hr hc hcm hS rfl hB (by omega) (by omega) h9 (by omega) (by omega)
theorem bigU_take_lt (r : List UInt8) : bigU (r.take 1) < 256 ∧ bigU (r.take 2) < 65536 ∧ bigU (r.take 4) < 4294967296 := by
  have key : ∀ k, bigU (r.take k) < 256 ^ k := fun k => by
    refine Nat.lt_of_lt_of_le (bigU_lt (r.take k)) (Nat.pow_le_pow_right (by omega) ?_)
    rw [List.length_take]
    omega
  exact ⟨by simpa using key 1, by simpa using key 2, by simpa using key 4⟩
theorem getSz_le {bs : List UInt8} {s a : Nat} (h : getSz bs = some (s, a)) : s ≤ 8589934592 ∧ a ≤ 8589934592 := by
  rcases bs with _ | ⟨b, r⟩
  · cases h
  have hf := bmd_of b.toNat b.toNat_lt
  have hq := bigU_take_lt r
  rw [getSz_cons] at h
  repeat' split at h
  all_goals first
    | (cases h; done)
    | (simp only [Option.some.injEq, Prod.mk.injEq] at h; omega)
def skipsW (g : List UInt8 → Option (Option (List UInt8))) : Nat → List UInt8 → Option (Option (List UInt8))
  | 0, bs => some (some bs)
  | a + 1, bs => match g bs with
    | none => none
    | some none => some none
    | some (some r) => skipsW g a r
/-- Skip with so many levels left: none: deeper; some none: an error; what stands behind. -/
def skip1 : Nat → List UInt8 → Option (Option (List UInt8))
  | 0, _ => none
  | f + 1, bs => match getSz bs with
    | none => some none
    | some (s, a) => if bs.length < s then some none else skipsW (skip1 f) a (bs.drop s)
theorem skip1_succ (f : Nat) (bs : List UInt8) : skip1 (f + 1) bs = match getSz bs with
    | none => some none
    | some (s, a) => if bs.length < s then some none else skipsW (skip1 f) a (bs.drop s) := rfl
theorem skipsW_len {g : List UInt8 → Option (Option (List UInt8))} (hg : ∀ bs r, g bs = some (some r) → r.length ≤ bs.length) : ∀ (a : Nat) (bs r : List UInt8), skipsW g a bs = some (some r) → r.length ≤ bs.length
  | 0, bs, r, h => by
    obtain rfl := Option.some.inj (Option.some.inj h)
    exact Nat.le_refl _
  | a + 1, bs, r, h => by
    rw [skipsW] at h
    split at h
    · cases h
    · cases h
    · rename_i q hq
      exact Nat.le_trans (skipsW_len hg a q r h) (hg _ _ hq)
theorem skip1_len : ∀ (f : Nat) (bs r : List UInt8), skip1 f bs = some (some r) → r.length ≤ bs.length
  | 0, bs, r, h => by cases h
  | f + 1, bs, r, h => by
    rw [skip1_succ] at h
    split at h
    · cases h
    · split at h
      · cases h
      · have := skipsW_len (skip1_len f) _ _ _ h
        rw [List.length_drop] at this
        omega
/-- What skipDepth answers. -/
def SkipR (S : Nat → Prop) (r : Option (List UInt8)) (w : World) (e : Ending) (w' : World) : Prop :=
  Below w.heap.size w w' ∧ match r with
  | none => ∃ A n c t v, e = .returned (.tuple #[.slice A n c, .iface t v])
  | some bs => ∃ A n c, e = .returned (.tuple #[.slice A n c, .nilIface]) ∧ n = bs.length ∧ n ≤ c ∧ c ≤ maxLen ∧ RB w' S A bs
theorem SkipR.err {S : Nat → Prop} {w w' : World} {A : Option Addr} {n c : Nat} {t : TypeId} {v : Value} (h : Below w.heap.size w w') : SkipR S none w (.returned (.tuple #[.slice A n c, .iface t v])) w' := ⟨h, _, _, _, _, _, rfl⟩
theorem SkipR.ok {S : Nat → Prop} {w w' : World} {A : Option Addr} {n c : Nat} {bs : List UInt8} (h : Below w.heap.size w w') (hn : n = bs.length) (hc : n ≤ c) (hm : c ≤ maxLen) (hr : RB w' S A bs) : SkipR S (some bs) w (.returned (.tuple #[.slice A n c, .nilIface])) w' := ⟨h, _, _, _, rfl, hn, hc, hm, hr⟩
def SkipsD (f : Nat) : Prop := ∀ (d : Int) (S : Nat → Prop) (A : Option Addr) (bs : List UInt8) (n c : Nat) (w : World) (r : Option (List UInt8)), d + f = 100000 → n = bs.length → RB w S A bs → n ≤ c → c ≤ 9223372036854775807 → Old w S → ErrAt w → skip1 f bs = some r →
  Calls Tryd.prog 58 #[.slice A n c, .int .i64 d] w (SkipR S r w)
theorem skipsD_zero : SkipsD 0 := by
  intro d S A bs n c w r _ _ _ _ _ _ _ h
  cases h
def SkipRel (w : World) (S : Nat → Prop) (f m : Nat) (r : Option (List UInt8)) (b i : Value) (wr : World) : Prop :=
  ∃ (k : Nat) (rest : List UInt8) (A : Option Addr) (n cap : Nat), b = .slice A n cap ∧ i = .int .u64 k ∧ k ≤ 8589934592 ∧ n = rest.length ∧ n ≤ m ∧ n ≤ cap ∧ cap ≤ 9223372036854775807 ∧ RB wr S A rest ∧ skipsW (skip1 f) k rest = some r ∧ Below w.heap.size w wr
set_option maxRecDepth 100000 in
set_option maxHeartbeats 800000 in
theorem skipD_none (f : Nat) (hf : f < 100000) (d : Int) (S : Nat → Prop) (A : Option Addr) (bs : List UInt8) (n c : Nat) (w : World) (hd : d + (f + 1 : Nat) = 100000) (hn : n = bs.length) (hr : RB w S A bs) (hc : n ≤ c) (hcm : c ≤ 9223372036854775807) (hS : Old w S) (hE : ErrAt w) (hz : getSz bs = none) :
    Calls Tryd.prog 58 #[.slice A n c, .int .i64 d] w (SkipR S none w) := by
  have hG := getSize_all S A bs n c w hE hn hr hc hcm hS
  rw [hz] at hG
  have HG := hide hG
  have hd1 : ¬ (100000 : Int) ≤ d := by omega
  clear hG hE hr hn hz hd
  go_enter Tryd.func58, Tryd.ntmps58
  go_wp2_with fail
  refine (unhide HG).mono ?_
  rintro e w1 ⟨hb1, x, y, t, v, rfl⟩
  have HB := hide hb1
  clear hb1
  go_wp2
  go_ret2
  exact .err (unhide HB)
set_option maxRecDepth 100000 in
set_option maxHeartbeats 800000 in
theorem skipD_short (f : Nat) (hf : f < 100000) (d : Int) (S : Nat → Prop) (A : Option Addr) (bs : List UInt8) (n c : Nat) (w : World) (s a : Nat) (hd : d + (f + 1 : Nat) = 100000) (hn : n = bs.length) (hr : RB w S A bs) (hc : n ≤ c) (hcm : c ≤ 9223372036854775807) (hS : Old w S) (hE : ErrAt w) (hz : getSz bs = some (s, a)) (hl : n < s) :
    Calls Tryd.prog 58 #[.slice A n c, .int .i64 d] w (SkipR S none w) := by
  have hG := getSize_all S A bs n c w hE hn hr hc hcm hS
  rw [hz] at hG
  have hle := getSz_le hz
  have HG := hide hG
  have HE := hide hE
  have hd1 : ¬ (100000 : Int) ≤ d := by omega
  have hl2 : decide (n < s) = true := decide_eq_true hl
  clear hG hE hr hn hz hd
  go_enter Tryd.func58, Tryd.ntmps58
  go_wp2_with fail
  refine (unhide HG).mono ?_
  rintro e w1 ⟨hb1, rfl⟩
  obtain ⟨te, ve, hce⟩ := (unhide HE).on hb1
  have HB := hide hb1
  clear hb1
  go_wp2
  go_region
  go_wp2
  go_ret2
  exact .err (by have h := unhide HB; exact (by repeat (first | with_reducible exact Below.refl _ _ | with_reducible exact h | with_reducible refine Below.alloc ?_ (by first | omega | (simp; omega) | (simp; done)) _ | with_reducible refine Below.setCell ?_ (by first | omega | (simp; omega) | (simp; done)) _ | with_reducible refine Below.drew ?_ | with_reducible refine below_drewN ?_ _)))
set_option maxRecDepth 100000 in
set_option maxHeartbeats 1600000 in
theorem skipD_go (f : Nat) (hf : f < 100000) (ih : SkipsD f) (d : Int) (S : Nat → Prop) (A : Option Addr) (bs : List UInt8) (n c : Nat) (w : World) (s a : Nat) (r : Option (List UInt8)) (hd : d + (f + 1 : Nat) = 100000) (hn : n = bs.length) (hr : RB w S A bs) (hc : n ≤ c) (hcm : c ≤ 9223372036854775807) (hS : Old w S) (hE : ErrAt w) (hz : getSz bs = some (s, a)) (hl : s ≤ n) (hk : skipsW (skip1 f) a (bs.drop s) = some r) :
    Calls Tryd.prog 58 #[.slice A n c, .int .i64 d] w (SkipR S r w) := by
  have hG := getSize_all S A bs n c w hE hn hr hc hcm hS
  rw [hz] at hG
  have hle := getSz_le hz
  have HG := hide hG
  have HE := hide hE
  have HK := hide hk
  have HC := hide (hr.cut (k := s) (cap := c) (by omega) (by omega))
  have HL := hide (show n - s = (bs.drop s).length by rw [List.length_drop]; omega)
  have hd1 : ¬ (100000 : Int) ≤ d := by omega
  have hd2 : 0 ≤ d := by omega
  have hl2 : decide (n < s) = false := decide_eq_false (by omega)
  have HD := hide hd
  have IH := hide ih
  clear hG hE hr hn hz hd hk ih
  go_enter Tryd.func58, Tryd.ntmps58
  go_wp2_with fail
  refine (unhide HG).mono ?_
  rintro e w1 ⟨hb1, rfl⟩
  have HB := hide hb1
  have hz1 := hb1.size
  clear hb1
  go_wp2
  go_loopw [0, 7] (fun b i wr => SkipRel w S f (n - s) r b i wr) (fun _ i _ => (intOf i).toNat)
  case atStart => exact ⟨a, bs.drop s, _, _, _, rfl, rfl, hle.2, unhide HL, by omega, by omega, by omega, (unhide HC).keep (stays_below (Stays.refl _ _) (unhide HB) hS), unhide HK, unhide HB⟩
  case round =>
    obtain ⟨k, rest, A', n', cap', rfl, rfl, hk8, hn', hnm, hnc', hcm', hrr, hrel, hbel⟩ := hrel
    have hold : Old wr S := old_below hbel hS
    rcases k with _ | k
    · have hr2 : r = some rest := (Option.some.inj hrel).symm
      subst hr2
      have HN := hide hn'
      clear hrel hn'
      go_wp2
      go_ret2
      exact .ok hbel (unhide HN) hnc' (by unfold maxLen; omega) hrr
    · have hk0 : (0 : Int) < ((k + 1 : Nat) : Int) := by omega
      rcases hq : skip1 f rest with _ | q
      · exfalso
        rw [skipsW, hq] at hrel
        cases hrel
      have hI := unhide IH (d + 1) S A' rest n' cap' wr q (by have := unhide HD; omega) hn' hrr hnc' hcm' hold ((unhide HE).on hbel) hq
      rcases q with _ | q
      · have hr2 : r = none := by
          rw [skipsW, hq] at hrel
          exact (Option.some.inj hrel).symm
        subst hr2
        have HI := hide hI
        clear hrel hn' hI hq
        go_wp2_with fail
        refine (unhide HI).mono ?_
        rintro e w2 ⟨hb2, A2, n2, c2, t2, v2, rfl⟩
        have HB2 := hide (hbel.trans (hb2.mono hbel.size))
        clear hb2
        go_wp2
        go_ret2
        exact .err (unhide HB2)
      · have hr2 : skipsW (skip1 f) k q = some r := by
          rw [skipsW, hq] at hrel
          exact hrel
        have hql := skip1_len f rest q hq
        have HR2 := hide hr2
        have HI := hide hI
        have hql2 : q.length ≤ n' := by omega
        clear hrel hn' hI hq hr2
        go_wp2_with fail
        refine (unhide HI).mono ?_
        rintro e w2 ⟨hb2, A2, n2, c2, rfl, hn2, hnc2, hcm2, hr2⟩
        have HB2 := hide (hbel.trans (hb2.mono hbel.size))
        have HN2 := hide hn2
        unfold maxLen at hcm2
        have hnm2 : n2 ≤ n - s := by omega
        clear hb2 hn2
        go_wp2
        go_roundw
        case rel => exact ⟨k, q, A2, n2, c2, rfl, by go_num, by omega, unhide HN2, hnm2, hnc2, hcm2, hr2, unhide HR2, unhide HB2⟩
        case measure => first | (simp [intOf]; done) | (simp [intOf]; omega)
theorem skipsD_all : ∀ f, f ≤ 100000 → SkipsD f
  | 0, _ => skipsD_zero
  | f + 1, hf => by
    intro d S A bs n c w r hd hn hr hc hcm hS hE hk
    rw [skip1_succ] at hk
    rcases hz : getSz bs with _ | ⟨s, a⟩
    · rw [hz] at hk
      obtain rfl := Option.some.inj hk
      exact skipD_none f (by omega) d S A bs n c w hd hn hr hc hcm hS hE hz
    · rw [hz] at hk
      dsimp only at hk
      by_cases hl : bs.length < s
      · rw [if_pos hl] at hk
        obtain rfl := Option.some.inj hk
        exact skipD_short f (by omega) d S A bs n c w s a hd hn hr hc hcm hS hE hz (by omega)
      · rw [if_neg hl] at hk
        exact skipD_go f (by omega) (skipsD_all f (by omega)) d S A bs n c w s a r hd hn hr hc hcm hS hE hz (by omega) hk
set_option maxHeartbeats 400000 in
theorem skip_any (S : Nat → Prop) (A : Option Addr) (bs : List UInt8) (n c : Nat) (w : World) (r : Option (List UInt8)) (hn : n = bs.length) (hr : RB w S A bs) (hc : n ≤ c) (hcm : c ≤ 9223372036854775807) (hS : Old w S) (hE : ErrAt w) (hk : skip1 100000 bs = some r) :
    Calls Tryd.prog 52 #[.slice A n c] w (SkipR S r w) := by
  have hI := skipsD_all 100000 (by omega) 0 S A bs n c w r (by omega) hn hr hc hcm hS hE hk
  have HI := hide hI
  clear hI hk hn hE
  rcases r with _ | q
  · go_enter Tryd.func52, Tryd.ntmps52
    go_wp2_with (go_at_call 58; refine (unhide HI).mono ?_; rintro e w2 ⟨hb2, A2, n2, c2, t2, v2, rfl⟩)
    go_ret2
    exact .err hb2
  · go_enter Tryd.func52, Tryd.ntmps52
    go_wp2_with (go_at_call 58; refine (unhide HI).mono ?_; rintro e w2 ⟨hb2, A2, n2, c2, rfl, hn2, hnc2, hcm2, hr2⟩; have HN2 := hide hn2; clear hn2)
    go_ret2
    exact .ok hb2 (unhide HN2) hnc2 hcm2 hr2
end Go.Proofs.YtpmcljjhjjmlfaaDoor
