/-
  msgp.ReadBoolBytes, impl.GetBool. Conditions: msgp.ErrShortBytes is not nil.
-/
import Derived.Test.YtpmcljjhjjmlfaaDoorGetV
namespace Go.Proofs.YtpmcljjhjjmlfaaDoor
set_option linter.unusedSimpArgs false
set_option linter.unusedVariables false
open Go.RowKit
def boolR : List UInt8 → Option (Value × List UInt8)
  | [] => none
  | b :: r => if b.toNat = 195 then some (.bool true, r) else if b.toNat = 194 then some (.bool false, r) else none
theorem boolR_le (bs : List UInt8) : ∀ v r, boolR bs = some (v, r) → r.length ≤ bs.length := by
  intro v r h
  rcases bs with _ | ⟨b, t⟩
  · cases h
  · simp only [boolR] at h
    repeat' split at h
    all_goals first | (simp only [reduceCtorEq] at h; done) | (simp only [Option.some.injEq, Prod.mk.injEq] at h; rw [← h.2]; simp)
set_option maxHeartbeats 800000 in
theorem readBool_nil (S : Nat → Prop) (A : Option Addr) (c : Nat) (w : World) (hE : ErrAt w) :
    Calls Tryd.prog 23 #[.slice A 0 c] w (ReadV S none w) := by
  obtain ⟨te, ve, hce⟩ := hE
  go_enter Tryd.func23, Tryd.ntmps23
  go_wp2
  go_region
  go_wp2
  go_ret3
  exact .err (Below.refl _ _).drew
set_option maxHeartbeats 800000 in
theorem readBool_t (S : Nat → Prop) (A : Option Addr) (b : UInt8) (r : List UInt8) (c : Nat) (w : World) (hr : RB w S A (b :: r)) (hc : r.length + 1 ≤ c) (hcm : c ≤ 9223372036854775807) (hS : Old w S) (h1 : b.toNat = 195) :
    Calls Tryd.prog 23 #[.slice A (r.length + 1) c] w (ReadV S (some (.bool true, r)) w) := by
  obtain ⟨ad, rfl, hb, hc0⟩ := hr.at_ (k := 0) (by simp)
  simp only [u8, add_zero_, List.getElem_cons_zero] at hc0
  have hlt := hS _ hb
  have hcut := hr.cut (k := 1) (cap := c) (by simp) (by simpa using hc)
  simp only [List.drop_succ_cons, List.drop_zero] at hcut
  rw [h1] at hc0
  simp only [Int.cast_ofNat_Int] at hc0
  have HC := hide hcut
  clear hcut hr h1
  go_enter Tryd.func23, Tryd.ntmps23
  go_wp2
  go_region
  all_goals (
    go_wp2
    go_ret3
    exact .ok (Below.refl _ _).drew rfl (by omega) (by unfold maxLen; omega) (unhide HC))
set_option maxHeartbeats 800000 in
theorem readBool_f (S : Nat → Prop) (A : Option Addr) (b : UInt8) (r : List UInt8) (c : Nat) (w : World) (hr : RB w S A (b :: r)) (hc : r.length + 1 ≤ c) (hcm : c ≤ 9223372036854775807) (hS : Old w S) (h1 : b.toNat = 194) :
    Calls Tryd.prog 23 #[.slice A (r.length + 1) c] w (ReadV S (some (.bool false, r)) w) := by
  obtain ⟨ad, rfl, hb, hc0⟩ := hr.at_ (k := 0) (by simp)
  simp only [u8, add_zero_, List.getElem_cons_zero] at hc0
  have hlt := hS _ hb
  have hcut := hr.cut (k := 1) (cap := c) (by simp) (by simpa using hc)
  simp only [List.drop_succ_cons, List.drop_zero] at hcut
  rw [h1] at hc0
  simp only [Int.cast_ofNat_Int] at hc0
  have HC := hide hcut
  clear hcut hr h1
  go_enter Tryd.func23, Tryd.ntmps23
  go_wp2
  go_region
  all_goals (
    go_wp2
    go_ret3
    exact .ok (Below.refl _ _).drew rfl (by omega) (by unfold maxLen; omega) (unhide HC))
set_option maxHeartbeats 800000 in
theorem readBool_bad (S : Nat → Prop) (A : Option Addr) (b : UInt8) (r : List UInt8) (c : Nat) (w : World) (hr : RB w S A (b :: r)) (hc : r.length + 1 ≤ c) (hcm : c ≤ 9223372036854775807) (hS : Old w S) (h1 : b.toNat ≠ 195) (h2 : b.toNat ≠ 194) :
    Calls Tryd.prog 23 #[.slice A (r.length + 1) c] w (ReadV S none w) := by
  obtain ⟨ad, rfl, hb, hc0⟩ := hr.at_ (k := 0) (by simp)
  simp only [u8, add_zero_, List.getElem_cons_zero] at hc0
  have hlt := hS _ hb
  have hcut := hr.cut (k := 1) (cap := c) (by simp) (by simpa using hc)
  simp only [List.drop_succ_cons, List.drop_zero] at hcut
  have hv := b.toNat_lt
  generalize b.toNat = x at *
  have h4 : ((x : Int) == 195) = false := by simp; omega
  have h5 : ((x : Int) == 194) = false := by simp; omega
  clear hcut hr h1 h2
  go_enter Tryd.func23, Tryd.ntmps23
  go_wp2_with (go_at_call 37; go_loud (refine (badPrefix_any 7 x (by omega) _).mono ?_; rintro e w1 ⟨te, ve, rfl, hb1⟩))
  go_ret3
  exact .err hb1
theorem readBool_any (S : Nat → Prop) (A : Option Addr) (bs : List UInt8) (n c : Nat) (w : World) (hE : ErrAt w) (hn : n = bs.length) (hr : RB w S A bs) (hc : n ≤ c) (hcm : c ≤ 9223372036854775807) (hS : Old w S) :
    Calls Tryd.prog 23 #[.slice A n c] w (ReadV S (boolR bs) w) := by
  subst hn
  rcases bs with _ | ⟨b, r⟩
  · exact readBool_nil S A c w hE
  · simp only [List.length_cons] at hc ⊢
    simp only [boolR]
    split
    · rename_i h
      exact readBool_t S A b r c w hr hc hcm hS h
    · rename_i h
      split
      · rename_i h2
        exact readBool_f S A b r c w hr hc hcm hS h2
      · rename_i h2
        exact readBool_bad S A b r c w hr hc hcm hS h h2
set_option maxHeartbeats 800000 in
theorem getBool_any (S : Nat → Prop) (A : Option Addr) (bs : List UInt8) (n c : Nat) (w : World) (hE : ErrAt w) (hn : n = bs.length) (hr : RB w S A bs) (hc : n ≤ c) (hcm : c ≤ 9223372036854775807) (hS : Old w S) (hlen : n ≤ 1099511627776) :
    Calls Tryd.prog 11 #[.slice A n c] w (GotV (.bool false) (boolR bs) w) := by
  have hR := readBool_any S A bs n c w hE hn hr hc hcm hS
  have hle : ∀ v r, boolR bs = some (v, r) → r.length ≤ n := fun v r h => by have := boolR_le bs v r h; omega
  clear hn
  generalize boolR bs = q at *
  rcases q with _ | ⟨v, r⟩
  · have HR := hide hR
    clear hR hle
    go_enter Tryd.func11, Tryd.ntmps11
    go_wp2_with fail
    refine (unhide HR).mono ?_
    rintro e w1 ⟨hb1, k, A1, n1, c1, te, ve, rfl⟩
    go_wp2
    go_ret3
    exact ⟨hb1, rfl⟩
  · have HR := hide hR
    have hrl := hle v r rfl
    clear hR hle
    go_enter Tryd.func11, Tryd.ntmps11
    go_wp2_with fail
    refine (unhide HR).mono ?_
    rintro e w1 ⟨hb1, A1, n1, c1, rfl, hn1, hc1, hm1, hr1⟩
    have hCP := copied_any S A1 r n1 c1 w1 hn1 hr1 (old_below hb1 hS) (by omega)
    have HCP := hide hCP
    have HN1 := hide hn1
    clear hCP hn1 hr1
    go_wp2_with fail
    refine (unhide HCP).mono ?_
    rintro e w2 ⟨v2, rfl, hown, hb2⟩
    obtain ⟨A2, c2, rfl, hc2, hcm2, hr2⟩ := own_slice hown
    have HR2 := hide hr2
    clear hown hr2
    go_wp2
    go_ret3
    refine ⟨hb1.trans (hb2.mono hb1.size), A2, r.length, c2, rfl, rfl, hc2, hcm2, (unhide HR2).sub (fun b hb => ⟨Nat.le_trans hb1.size hb.1, hb.2⟩)⟩
end Go.Proofs.YtpmcljjhjjmlfaaDoor
