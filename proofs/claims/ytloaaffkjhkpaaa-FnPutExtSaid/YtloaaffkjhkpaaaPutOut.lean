/-
  impl.PutUintN, PutIntN, PutDuration: bytes of their own, what stood before and the number behind it. Conditions: what stands before is at most 2^40 bytes.
-/
import Derived.Test.YtloaaffkjhkpaaaAppends
namespace Go.Proofs.Ytloaaffkjhkpaaa
set_option linter.unusedSimpArgs false
set_option linter.unusedVariables false
open Go.RowKit
/-- The blocks that w' has and w has not. -/
def Made (w w' : World) : Nat → Prop := fun b => w.heap.size ≤ b ∧ b < w'.heap.size
/-- Bytes bs of one's own behind w. -/
def Out (w : World) (bs : List UInt8) (e : Ending) (w' : World) : Prop :=
  ∃ A c, e = .returned (.slice A bs.length c) ∧ bs.length ≤ c ∧ c ≤ maxLen ∧ RB w' (Made w w') A bs ∧ Below w.heap.size w w'
theorem out_of_appd {w w1 w2 : World} {bs enc : List UInt8} {v : Value} {e : Ending} {n : Nat} {m : Nat} (_hn : n = bs.length) (hm : m = bs.length + enc.length) (hb : Below w.heap.size w w1) (hv : ∀ k, v.ownBlock = some k → w.heap.size ≤ k) {A : Option Addr} {c : Nat} (h1 : e = .returned (.slice A m c))
    (h2 : w2.ownsRow w.heap.size 5 1 (.slice A m c) m (bs.map u8 ++ enc.map u8)) (hg : w1.grownBy w2 v.ownBlock) (hc : m ≤ c) (hcm : c ≤ maxLen) : Out w (bs ++ enc) e w2 := by
  subst hm
  refine ⟨A, c, by rw [h1, List.length_append], by rw [List.length_append]; exact hc, hcm, ?_, hb.grown hg hb.size hv⟩
  have h := Reads.of_own h2
  rw [← List.map_append] at h
  unfold RB
  rw [List.length_append]
  exact h.sub fun b hb => ⟨hb.1, hb.2.1⟩
theorem own_blocks {w : World} {base n : Nat} {e : TypeId} {size : Nat} {v : Value} {xs : List Value} (h : w.ownsRow base e size v n xs) : ∀ k, v.ownBlock = some k → base ≤ k := by
  intro k hk
  rcases h.2 with ⟨rfl, rfl⟩ | ⟨g, cap, cur, rfl, hb, _⟩
  · simp [Value.ownBlock] at hk
  · simp [Value.ownBlock] at hk
    omega
theorem PutUintN_any (S : Nat → Prop) (A : Option Addr) (bs : List UInt8) (n cap : Nat) (x : Int) (h1 : 0 ≤ x) (h2 : x ≤ 18446744073709551615) (w : World) (hn : n = bs.length) (hr : RB w S A bs) (hS : Old w S) (hlen : n ≤ 1099511627776) :
    Calls Try.prog 11 #[.slice A n cap, .int .u64 x] w (Out w (bs ++ encU x)) := by
  subst hn
  go_enter Try.func11, Try.ntmps11
  go_wp2_with (first
    | (go_at_call 16; refine (copied_any S A bs bs.length cap _ rfl hr hS (by omega)).mono ?_; rintro e w1 ⟨v, rfl, hown, hbel⟩; have hbl := hide (own_blocks hown); obtain ⟨A1, c1, rfl, hc1, hc1m, _⟩ := own_slice hown)
    | (go_at_call 20; refine (AppendUint_any x (by omega) (by omega) _ A1 bs.length c1 (bs.map u8) _ hown (u8_one bs) hbel.size (by omega)).mono ?_; rintro e w2 ⟨A', c', rfl, h3, h4, h5, h6⟩))
  go_ret
  exact out_of_appd rfl rfl hbel (unhide hbl) rfl h3 h4 h5 h6
theorem PutIntN_any (S : Nat → Prop) (A : Option Addr) (bs : List UInt8) (n cap : Nat) (x : Int) (h1 : -9223372036854775808 ≤ x) (h2 : x ≤ 9223372036854775807) (w : World) (hn : n = bs.length) (hr : RB w S A bs) (hS : Old w S) (hlen : n ≤ 1099511627776) :
    Calls Try.prog 13 #[.slice A n cap, .int .i64 x] w (Out w (bs ++ encI x)) := by
  subst hn
  go_enter Try.func13, Try.ntmps13
  go_wp2_with (first
    | (go_at_call 16; refine (copied_any S A bs bs.length cap _ rfl hr hS (by omega)).mono ?_; rintro e w1 ⟨v, rfl, hown, hbel⟩; have hbl := hide (own_blocks hown); obtain ⟨A1, c1, rfl, hc1, hc1m, _⟩ := own_slice hown)
    | (go_at_call 22; refine (AppendInt_any x (by omega) (by omega) _ A1 bs.length c1 (bs.map u8) _ hown (u8_one bs) hbel.size (by omega)).mono ?_; rintro e w2 ⟨A', c', rfl, h3, h4, h5, h6⟩))
  go_ret
  exact out_of_appd rfl rfl hbel (unhide hbl) rfl h3 h4 h5 h6
theorem PutDuration_any (S : Nat → Prop) (A : Option Addr) (bs : List UInt8) (n cap : Nat) (x : Int) (h1 : -9223372036854775808 ≤ x) (h2 : x ≤ 9223372036854775807) (w : World) (hn : n = bs.length) (hr : RB w S A bs) (hS : Old w S) (hlen : n ≤ 1099511627776) :
    Calls Try.prog 14 #[.slice A n cap, .int .i64 x] w (Out w (bs ++ encI x)) := by
  subst hn
  go_enter Try.func14, Try.ntmps14
  go_wp2_with (first
    | (go_at_call 16; refine (copied_any S A bs bs.length cap _ rfl hr hS (by omega)).mono ?_; rintro e w1 ⟨v, rfl, hown, hbel⟩; have hbl := hide (own_blocks hown); obtain ⟨A1, c1, rfl, hc1, hc1m, _⟩ := own_slice hown)
    | (go_at_call 23; refine (AppendDuration_any x (by omega) (by omega) _ A1 bs.length c1 (bs.map u8) _ hown (u8_one bs) hbel.size (by omega)).mono ?_; rintro e w2 ⟨A', c', rfl, h3, h4, h5, h6⟩))
  go_ret
  exact out_of_appd rfl rfl hbel (unhide hbl) rfl h3 h4 h5 h6
end Go.Proofs.Ytloaaffkjhkpaaa
