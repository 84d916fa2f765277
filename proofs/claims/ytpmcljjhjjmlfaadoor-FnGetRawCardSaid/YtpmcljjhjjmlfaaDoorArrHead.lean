/-
  msgp.ReadArrayHeaderBytes, impl.GetArrayHead: the head of an array, read. Conditions: the data read as bytes; msgp.ErrShortBytes is not nil.
-/
import Derived.Test.YtpmcljjhjjmlfaaDoorSpec2
import Derived.Test.YtpmcljjhjjmlfaaDoorBytesR
import Derived.Test.YtpmcljjhjjmlfaaDoorCopiedG
namespace Go.Proofs.YtpmcljjhjjmlfaaDoor
set_option linter.unusedSimpArgs false
set_option linter.unusedVariables false
open Go.RowKit
/-- The head of an array: how many, and what stands behind. -/
def arrH : List UInt8 → Option (Nat × List UInt8)
  | [] => none
  | b :: r => if 144 ≤ b.toNat ∧ b.toNat < 160 then some (b.toNat % 16, r) else if b.toNat = 220 then (if r.length < 2 then none else some (bigU (r.take 2), r.drop 2))
    else if b.toNat = 221 then (if r.length < 4 then none else some (bigU (r.take 4), r.drop 4)) else none
def ErrAt (w : World) : Prop := ∃ t v, w.cell? ⟨0, 0, none⟩ = some (.iface t v)
theorem ErrAt.pos {w : World} (h : ErrAt w) : 0 < w.heap.size := by
  obtain ⟨t, v, h⟩ := h
  rcases Nat.lt_or_ge 0 w.heap.size with h1 | h1
  · exact h1
  · have : w.heap[0]? = none := Array.getElem?_eq_none h1
    simp [World.cell?, this] at h
theorem ErrAt.below {w w' : World} {B : Nat} (h : ErrAt w) (hb : Below B w w') (hB : 0 < B) : ErrAt w' := by
  obtain ⟨t, v, h⟩ := h
  exact ⟨t, v, (hb.cell (p := ⟨_, 0, none⟩) hB).trans h⟩
theorem ErrAt.on {w w' : World} (h : ErrAt w) (hb : Below w.heap.size w w') : ErrAt w' := h.below hb h.pos
/-- What a reader of a head answers. -/
def ReadH (S : Nat → Prop) (r : Option (Nat × List UInt8)) (w : World) (e : Ending) (w' : World) : Prop :=
  Below w.heap.size w w' ∧ match r with
  | none => ∃ k A n c t v, e = .returned (.tuple #[.int .u32 k, .slice A n c, .iface t v])
  | some (k, bs) => ∃ A n c, e = .returned (.tuple #[.int .u32 k, .slice A n c, .nilIface]) ∧ n = bs.length ∧ n ≤ c ∧ c ≤ maxLen ∧ RB w' S A bs
theorem isfixarray_yes (b : Nat) (h1 : 144 ≤ b) (h2 : b < 160) (w : World) : Calls Tryd.prog 43 #[.int .u8 b] w fun e w' => e = .returned (.bool true) ∧ w = w' := by
  refine (isfixarray_any b (by omega) w).mono ?_
  rintro e w' ⟨rfl, rfl⟩
  exact ⟨by simp [h1, h2], rfl⟩
theorem isfixarray_no (b : Nat) (hb : b < 256) (h : ¬ (144 ≤ b ∧ b < 160)) (w : World) : Calls Tryd.prog 43 #[.int .u8 b] w fun e w' => e = .returned (.bool false) ∧ w = w' := by
  refine (isfixarray_any b hb w).mono ?_
  rintro e w' ⟨rfl, rfl⟩
  exact ⟨by rw [decide_eq_false h], rfl⟩
set_option maxRecDepth 100000 in
set_option maxHeartbeats 800000 in
theorem readArr_nil (S : Nat → Prop) (A : Option Addr) (c : Nat) (w : World) (hE : ErrAt w) :
    Calls Tryd.prog 28 #[.slice A 0 c] w (ReadH S none w) := by
  obtain ⟨te, ve, hce⟩ := hE
  go_enter Tryd.func28, Tryd.ntmps28
  go_wp2
  go_region
  go_wp2
  go_ret3
  exact ⟨(Below.refl _ _).drew, _, _, _, _, _, _, rfl⟩
set_option maxRecDepth 100000 in
set_option maxHeartbeats 800000 in
theorem readArr_fix (S : Nat → Prop) (A : Option Addr) (b : UInt8) (r : List UInt8) (c : Nat) (w : World) (hr : RB w S A (b :: r)) (hc : r.length + 1 ≤ c) (hcm : c ≤ 9223372036854775807) (hS : Old w S) (h1 : 144 ≤ b.toNat) (h2 : b.toNat < 160) :
    Calls Tryd.prog 28 #[.slice A (r.length + 1) c] w (ReadH S (some (b.toNat % 16, r)) w) := by
  obtain ⟨ad, rfl, hb, hc0⟩ := hr.at_ (k := 0) (by simp)
  simp only [u8, add_zero_, List.getElem_cons_zero] at hc0
  have hlt := hS _ hb
  have hcut := hr.cut (k := 1) (cap := c) (by simp) (by simpa using hc)
  simp only [List.drop_succ_cons, List.drop_zero] at hcut
  generalize b.toNat = x at *
  have HC := hide hcut
  clear hcut hr
  go_enter Tryd.func28, Tryd.ntmps28
  go_wp2_with (first
    | (go_at_call 43; refine (isfixarray_yes x h1 h2 _).mono ?_; rintro e w1 ⟨rfl, rfl⟩)
    | (go_at_call 44; refine (rfixarray_any x (by omega) _).mono ?_; rintro e w1 ⟨rfl, rfl⟩))
  go_ret3
  exact ⟨Below.refl _ _, _, _, _, rfl, rfl, by omega, by unfold maxLen; omega, unhide HC⟩
set_option maxRecDepth 100000 in
set_option maxHeartbeats 1600000 in
theorem readArr_16s (S : Nat → Prop) (A : Option Addr) (b : UInt8) (r : List UInt8) (c : Nat) (w : World) (hE : ErrAt w) (hr : RB w S A (b :: r)) (hc : r.length + 1 ≤ c) (hcm : c ≤ 9223372036854775807) (hS : Old w S) (h1 : b.toNat = 220) (h2 : r.length < 2) :
    Calls Tryd.prog 28 #[.slice A (r.length + 1) c] w (ReadH S none w) := by
  obtain ⟨te, ve, hce⟩ := hE
  obtain ⟨ad, rfl, hb, hc0⟩ := hr.at_ (k := 0) (by simp)
  simp only [u8, add_zero_, List.getElem_cons_zero] at hc0
  have hlt := hS _ hb
  have hcut := hr.cut (k := 1) (cap := c) (by simp) (by simpa using hc)
  simp only [List.drop_succ_cons, List.drop_zero] at hcut
  rw [h1] at hc0
  simp only [Int.cast_ofNat_Int] at hc0
  have h3 : (r.length : Int) < 2 := by omega
  clear hcut hr h1
  go_enter Tryd.func28, Tryd.ntmps28
  go_wp2_with (go_at_call 43; refine (isfixarray_no 220 (by omega) (by omega) _).mono ?_; rintro e w1 ⟨rfl, rfl⟩)
  go_ret3
  exact ⟨Below.refl _ _, _, _, _, _, _, _, rfl⟩
set_option maxRecDepth 100000 in
set_option maxHeartbeats 1600000 in
theorem readArr_16 (S : Nat → Prop) (A : Option Addr) (b : UInt8) (r : List UInt8) (c : Nat) (w : World) (hr : RB w S A (b :: r)) (hc : r.length + 1 ≤ c) (hcm : c ≤ 9223372036854775807) (hS : Old w S) (h1 : b.toNat = 220) (h2 : 2 ≤ r.length) :
    Calls Tryd.prog 28 #[.slice A (r.length + 1) c] w (ReadH S (some (bigU (r.take 2), r.drop 2)) w) := by
  obtain ⟨ad, rfl, hb, hc0⟩ := hr.at_ (k := 0) (by simp)
  simp only [u8, add_zero_, List.getElem_cons_zero] at hc0
  have hlt := hS _ hb
  have hcut := hr.cut (k := 1) (cap := c) (by simp) (by simpa using hc)
  simp only [List.drop_succ_cons, List.drop_zero] at hcut
  rw [h1] at hc0
  simp only [Int.cast_ofNat_Int] at hc0
  have h3 : ¬ (r.length : Int) < 2 := by omega
  have hcut2 := hcut.cut (k := 2) (cap := c - 1) h2 (by omega)
  have hBE := beu16_any S (cutA (some ad) c 1 1) r r.length (c - 1) w rfl h2 hcut hS
  have hlq : bigU (r.take 2) < 65536 := by
    have := bigU_lt (r.take 2)
    rw [List.length_take, Nat.min_eq_left h2] at this
    simpa using this
  generalize bigU (r.take 2) = q at *
  have HC := hide hcut2
  have HB := hide hBE
  clear hcut hr h1 hcut2 hBE
  go_enter Tryd.func28, Tryd.ntmps28
  go_wp2_with (first
    | (go_at_call 43; refine (isfixarray_no 220 (by omega) (by omega) _).mono ?_; rintro e w1 ⟨rfl, rfl⟩)
    | (go_at_call 45; refine (unhide HB).mono ?_; rintro e w1 ⟨rfl, hb1⟩))
  go_ret3
  exact ⟨hb1, _, _, _, rfl, by simp, by omega, by unfold maxLen; omega, (unhide HC).keep (stays_below (Stays.refl _ _) hb1 hS)⟩
set_option maxRecDepth 100000 in
set_option maxHeartbeats 1600000 in
theorem readArr_32s (S : Nat → Prop) (A : Option Addr) (b : UInt8) (r : List UInt8) (c : Nat) (w : World) (hE : ErrAt w) (hr : RB w S A (b :: r)) (hc : r.length + 1 ≤ c) (hcm : c ≤ 9223372036854775807) (hS : Old w S) (h1 : b.toNat = 221) (h2 : r.length < 4) :
    Calls Tryd.prog 28 #[.slice A (r.length + 1) c] w (ReadH S none w) := by
  obtain ⟨te, ve, hce⟩ := hE
  obtain ⟨ad, rfl, hb, hc0⟩ := hr.at_ (k := 0) (by simp)
  simp only [u8, add_zero_, List.getElem_cons_zero] at hc0
  have hlt := hS _ hb
  have hcut := hr.cut (k := 1) (cap := c) (by simp) (by simpa using hc)
  simp only [List.drop_succ_cons, List.drop_zero] at hcut
  rw [h1] at hc0
  simp only [Int.cast_ofNat_Int] at hc0
  have h3 : (r.length : Int) < 4 := by omega
  clear hcut hr h1
  go_enter Tryd.func28, Tryd.ntmps28
  go_wp2_with (go_at_call 43; refine (isfixarray_no 221 (by omega) (by omega) _).mono ?_; rintro e w1 ⟨rfl, rfl⟩)
  go_ret3
  exact ⟨Below.refl _ _, _, _, _, _, _, _, rfl⟩
set_option maxRecDepth 100000 in
set_option maxHeartbeats 1600000 in
theorem readArr_32 (S : Nat → Prop) (A : Option Addr) (b : UInt8) (r : List UInt8) (c : Nat) (w : World) (hr : RB w S A (b :: r)) (hc : r.length + 1 ≤ c) (hcm : c ≤ 9223372036854775807) (hS : Old w S) (h1 : b.toNat = 221) (h2 : 4 ≤ r.length) :
    Calls Tryd.prog 28 #[.slice A (r.length + 1) c] w (ReadH S (some (bigU (r.take 4), r.drop 4)) w) := by
  obtain ⟨ad, rfl, hb, hc0⟩ := hr.at_ (k := 0) (by simp)
  simp only [u8, add_zero_, List.getElem_cons_zero] at hc0
  have hlt := hS _ hb
  have hcut := hr.cut (k := 1) (cap := c) (by simp) (by simpa using hc)
  simp only [List.drop_succ_cons, List.drop_zero] at hcut
  rw [h1] at hc0
  simp only [Int.cast_ofNat_Int] at hc0
  have h3 : ¬ (r.length : Int) < 4 := by omega
  have hcut2 := hcut.cut (k := 4) (cap := c - 1) h2 (by omega)
  have hBE := beu32_any S (cutA (some ad) c 1 1) r r.length (c - 1) w rfl h2 hcut hS
  have hlq : bigU (r.take 4) < 4294967296 := by
    have := bigU_lt (r.take 4)
    rw [List.length_take, Nat.min_eq_left h2] at this
    simpa using this
  generalize bigU (r.take 4) = q at *
  have HC := hide hcut2
  have HB := hide hBE
  clear hcut hr h1 hcut2 hBE
  go_enter Tryd.func28, Tryd.ntmps28
  go_wp2_with (first
    | (go_at_call 43; refine (isfixarray_no 221 (by omega) (by omega) _).mono ?_; rintro e w1 ⟨rfl, rfl⟩)
    | (go_at_call 46; refine (unhide HB).mono ?_; rintro e w1 ⟨rfl, hb1⟩))
  go_ret3
  exact ⟨hb1, _, _, _, rfl, by simp, by omega, by unfold maxLen; omega, (unhide HC).keep (stays_below (Stays.refl _ _) hb1 hS)⟩
set_option maxRecDepth 100000 in
set_option maxHeartbeats 800000 in
theorem readArr_bad (S : Nat → Prop) (A : Option Addr) (b : UInt8) (r : List UInt8) (c : Nat) (w : World) (hr : RB w S A (b :: r)) (hc : r.length + 1 ≤ c) (hcm : c ≤ 9223372036854775807) (hS : Old w S) (h1 : ¬ (144 ≤ b.toNat ∧ b.toNat < 160)) (h2 : b.toNat ≠ 220) (h3 : b.toNat ≠ 221) :
    Calls Tryd.prog 28 #[.slice A (r.length + 1) c] w (ReadH S none w) := by
  obtain ⟨ad, rfl, hb, hc0⟩ := hr.at_ (k := 0) (by simp)
  simp only [u8, add_zero_, List.getElem_cons_zero] at hc0
  have hlt := hS _ hb
  have hcut := hr.cut (k := 1) (cap := c) (by simp) (by simpa using hc)
  simp only [List.drop_succ_cons, List.drop_zero] at hcut
  have hv := b.toNat_lt
  generalize b.toNat = x at *
  have H1 := hide h1
  have h4 : ((x : Int) == 220) = false := by simp; omega
  have h5 : ((x : Int) == 221) = false := by simp; omega
  clear hcut hr h1 h2 h3
  go_enter Tryd.func28, Tryd.ntmps28
  go_wp2_with (first
    | (go_at_call 43; refine (isfixarray_no x (by omega) (unhide H1) _).mono ?_; rintro e w1 ⟨rfl, rfl⟩)
    | (go_at_call 37; refine (badPrefix_any 4 x (by omega) _).mono ?_; rintro e w1 ⟨te, ve, rfl, hb1⟩))
  go_ret3
  exact ⟨hb1, _, _, _, _, _, _, rfl⟩
theorem readArr_any (S : Nat → Prop) (A : Option Addr) (bs : List UInt8) (n c : Nat) (w : World) (hE : ErrAt w) (hn : n = bs.length) (hr : RB w S A bs) (hc : n ≤ c) (hcm : c ≤ 9223372036854775807) (hS : Old w S) :
    Calls Tryd.prog 28 #[.slice A n c] w (ReadH S (arrH bs) w) := by
  subst hn
  rcases bs with _ | ⟨b, r⟩
  · exact readArr_nil S A c w hE
  · simp only [List.length_cons] at hc ⊢
    simp only [arrH]
    split
    · rename_i h
      exact readArr_fix S A b r c w hr hc hcm hS h.1 h.2
    · rename_i h
      split
      · rename_i h2
        split
        · rename_i h3
          exact readArr_16s S A b r c w hE hr hc hcm hS h2 h3
        · rename_i h3
          exact readArr_16 S A b r c w hr hc hcm hS h2 (by omega)
      · rename_i h2
        split
        · rename_i h4
          split
          · rename_i h3
            exact readArr_32s S A b r c w hE hr hc hcm hS h4 h3
          · rename_i h3
            exact readArr_32 S A b r c w hr hc hcm hS h4 (by omega)
        · rename_i h4
          exact readArr_bad S A b r c w hr hc hcm hS h h2 h4
theorem arrH_le (bs : List UInt8) : ∀ k r, arrH bs = some (k, r) → r.length ≤ bs.length := by
  intro k r h
  rcases bs with _ | ⟨b, t⟩
  · cases h
  · simp only [arrH] at h
    repeat' split at h
    all_goals first | (simp only [reduceCtorEq] at h; done) | (simp only [Option.some.injEq, Prod.mk.injEq] at h; rw [← h.2]; simp only [List.length_drop, List.length_cons]; omega)
/-- What impl.GetArrayHead answers. -/
def GotH (r : Option (Nat × List UInt8)) (w : World) (e : Ending) (w' : World) : Prop :=
  Below w.heap.size w w' ∧ match r with
  | none => e = .returned (.tuple #[.int .u32 0, .slice none 0 0, .bool false])
  | some (k, bs) => ∃ A n c, e = .returned (.tuple #[.int .u32 k, .slice A n c, .bool true]) ∧ n = bs.length ∧ n ≤ c ∧ c ≤ maxLen ∧ RB w' (Made w w') A bs
set_option maxHeartbeats 800000 in
theorem getArr_any (S : Nat → Prop) (A : Option Addr) (bs : List UInt8) (n c : Nat) (w : World) (hE : ErrAt w) (hn : n = bs.length) (hr : RB w S A bs) (hc : n ≤ c) (hcm : c ≤ 9223372036854775807) (hS : Old w S) (hlen : n ≤ 1099511627776) :
    Calls Tryd.prog 14 #[.slice A n c] w (GotH (arrH bs) w) := by
  have hR := readArr_any S A bs n c w hE hn hr hc hcm hS
  have hle : ∀ k r, arrH bs = some (k, r) → r.length ≤ n := fun k r h => by have := arrH_le bs k r h; omega
  clear hn
  generalize arrH bs = q at *
  rcases q with _ | ⟨k, r⟩
  · have HR := hide hR
    clear hR hle
    go_enter Tryd.func14, Tryd.ntmps14
    go_wp2_with fail
    refine (unhide HR).mono ?_
    rintro e w1 ⟨hb1, k, A1, n1, c1, te, ve, rfl⟩
    go_wp2
    go_ret3
    exact ⟨hb1, rfl⟩
  · have HR := hide hR
    have hrl := hle k r rfl
    clear hR hle
    go_enter Tryd.func14, Tryd.ntmps14
    go_wp2_with fail
    refine (unhide HR).mono ?_
    rintro e w1 ⟨hb1, A1, n1, c1, rfl, hn1, hc1, hm1, hr1⟩
    have hCP := copied_any S A1 r n1 c1 w1 hn1 hr1 (old_below hb1 hS) (by omega)
    have HCP := hide hCP
    have HN1 := hide hn1
    clear hCP hn1 hr1
    go_wp2_with fail
    refine (unhide HCP).mono ?_
    rintro e w2 ⟨v, rfl, hown, hb2⟩
    obtain ⟨A2, c2, rfl, hc2, hcm2, hr2⟩ := own_slice hown
    have HR2 := hide hr2
    clear hown hr2
    go_wp2
    go_ret3
    refine ⟨hb1.trans (hb2.mono hb1.size), A2, r.length, c2, rfl, rfl, hc2, hcm2, (unhide HR2).sub (fun b hb => ⟨Nat.le_trans hb1.size hb.1, hb.2⟩)⟩
end Go.Proofs.YtpmcljjhjjmlfaaDoor
