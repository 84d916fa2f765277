/-
  impl.GetRaw. Conditions: the data read as bytes; msgp.ErrShortBytes is not nil.
-/
import Derived.Test.YtpmcljjhjjmlfaaDoorRaw
import Derived.Test.YtpmcljjhjjmlfaaDoorText
namespace Go.Proofs.YtpmcljjhjjmlfaaDoor
set_option linter.unusedSimpArgs false
set_option linter.unusedVariables false
set_option linter.unusedVariables false
open Go.RowKit
def rawOf (s : List UInt8) : List UInt8 := if isNilB s = true then [] else s
theorem unm_any (S : Nat → Prop) (B g : Nat) (A : Option Addr) (bs rest : List UInt8) (n c q : Nat) (w : World) (hn : n = bs.length) (hr : RB w S A bs) (hc : n ≤ c) (hcm : c ≤ 9223372036854775807) (hS : Old w S) (hE : ErrAt w) (hB : B ≤ g) (hg : Blk w g 68 #[.slice none 0 0])
    (hSg : ∀ b, S b → b ≠ g) (hk : skip1 100000 bs = some (some rest)) (hq : q + rest.length = n) (hq0 : 0 < q) (hq9 : q ≤ 1099511627776) :
    Calls Tryd.prog 33 #[.pointer (some ⟨g, 0, none⟩), .slice A n c] w (RawR S B g (some (rawOf (bs.take q), rest)) w) := by
  unfold rawOf
  by_cases hv : isNilB (bs.take q) = true
  · rw [if_pos hv]
    exact unm_nil S B g A bs rest n c q w hn hr hc hcm hS hE hB hg hSg hk hq hv
  · rw [if_neg hv]
    exact unm_row S B g A bs rest n c q w hn hr hc hcm hS hE hB hg hSg hk hq (by simpa using hv) hq0 hq9
set_option maxHeartbeats 800000 in
theorem getRaw_none (S : Nat → Prop) (A : Option Addr) (bs : List UInt8) (n c : Nat) (w : World) (hE : ErrAt w) (hn : n = bs.length) (hr : RB w S A bs) (hc : n ≤ c) (hcm : c ≤ 9223372036854775807) (hS : Old w S) (hlen : n ≤ 1099511627776) (hk : skip1 100000 bs = some none) :
    Calls Tryd.prog 18 #[.slice A n c] w (GotT none w) := by
  have hCP := copied_any S A bs n c (w.alloc (.cells #[.slice none 0 0] 68)) hn (hr.keep (stays_alloc hS (Stays.refl _ _) _)) (old_alloc hS _) (by omega)
  have HCP := hide hCP
  have HE := hide hE
  have HK := hide hk
  have HN := hide hn
  clear hCP hE hk hn hr
  go_enter Tryd.func18, Tryd.ntmps18
  go_wp2_with (first
    | (go_at_call 24; go_loud (refine (unhide HCP).mono ?_; rintro e w1 ⟨v1, rfl, hown, hb1⟩; obtain ⟨A1, c1, rfl, hc1, hm1, hr1⟩ := own_slice hown; have hw1 : Below w.heap.size w w1 := ((Below.refl _ _).alloc (Nat.le_refl _) _).trans (hb1.mono (by simp)); have HU := hide (unm_err _ w.heap.size w.heap.size A1 bs bs.length c1 w1 rfl hr1 hc1 (by unfold maxLen at hm1; omega) (fun b hb => hb.2) ((unhide HE).on hw1) hw1.size (unhide HK)); have HW := hide hw1; clear hown hr1 hw1 hb1))
    | (go_at_call 33; go_loud (refine (unhide HU).mono ?_; rintro e w2 ⟨hb2, A2, n2, c2, t2, v2, rfl⟩)))
  go_ret3
  exact ⟨(unhide HW).trans hb2, rfl⟩
set_option maxHeartbeats 1600000 in
theorem getRaw_some (S : Nat → Prop) (A : Option Addr) (bs rest : List UInt8) (n c q : Nat) (w : World) (hE : ErrAt w) (hn : n = bs.length) (hr : RB w S A bs) (hc : n ≤ c) (hcm : c ≤ 9223372036854775807) (hS : Old w S) (hlen : n ≤ 1099511627776) (hk : skip1 100000 bs = some (some rest)) (hq : q + rest.length = n) (hq0 : 0 < q) :
    Calls Tryd.prog 18 #[.slice A n c] w (GotT (some (rawOf (bs.take q), rest)) w) := by
  obtain ⟨raw, hraw⟩ : ∃ s, s = rawOf (bs.take q) := ⟨_, rfl⟩
  rw [← hraw]
  have hrl : raw.length ≤ q := by
    rw [hraw]
    unfold rawOf
    split
    · simp
    · rw [List.length_take]
      omega
  have hCP := copied_any S A bs n c (w.alloc (.cells #[.slice none 0 0] 68)) hn (hr.keep (stays_alloc hS (Stays.refl _ _) _)) (old_alloc hS _) (by omega)
  have HCP := hide hCP
  have HE := hide hE
  have HK := hide hk
  have HN := hide hn
  have HQ := hide hq
  have HRAW := hide hraw
  have hrest : rest.length ≤ n := by omega
  have hraw9 : raw.length ≤ 1099511627776 := by omega
  clear hCP hE hk hn hr hq hraw
  go_enter Tryd.func18, Tryd.ntmps18
  go_wp2_with fail
  refine (unhide HCP).mono ?_
  rintro e w1 ⟨v1, rfl, hown, hb1⟩
  obtain ⟨A1, c1, rfl, hc1, hm1, hr1⟩ := own_slice hown
  have hw1 : Below w.heap.size w w1 := ((Below.refl _ _).alloc (Nat.le_refl _) _).trans (hb1.mono (by simp))
  have hG1 : Blk w1 w.heap.size 68 #[.slice none 0 0] := (Blk.new w _ _).below hb1 (by simp)
  have HU := hide (unm_any _ w.heap.size w.heap.size A1 bs rest bs.length c1 q w1 rfl hr1 hc1 (by unfold maxLen at hm1; omega) (fun b hb => hb.2) ((unhide HE).on hw1) (Nat.le_refl _) hG1 (fun b hb e => by have h := hb.1; simp at h; omega) (unhide HK) (by have h1 := unhide HQ; have h2 := unhide HN; omega) hq0 (by have h1 := unhide HQ; omega))
  have HW := hide hw1
  clear hown hr1 hw1 hb1 hG1
  go_wp2_with fail
  refine (unhide HU).mono ?_
  rintro e w2 ⟨hb2, A2, n2, c2, A0, c0, rfl, hn2, hc2, hm2, hr2, hG2, hr0, hz12⟩
  rw [← unhide HRAW] at hG2 hr0
  have hw2 := (unhide HW).trans hb2
  have hzw : w.heap.size ≤ w1.heap.size := (unhide HW).size
  have g0 : w2.cell? ⟨w.heap.size, 0, none⟩ = some (.slice A0 raw.length c0) := hG2.cell 0
  have hgl := hG2.lt
  have HC1 := hide (copied_any _ A0 raw raw.length c0 w2 rfl hr0 (fun b hb => hb.2) (by omega))
  have HC2 := hide (fun (w3 : World) (h : Below w2.heap.size w2 w3) => copied_any _ A2 rest n2 c2 w3 hn2 (hr2.keep (stays_below (Stays.refl _ _) h (fun b hb => Nat.lt_of_lt_of_le hb.2 hz12))) (old_below h (fun b hb => Nat.lt_of_lt_of_le hb.2 hz12)) (by omega))
  have HW2 := hide hw2
  clear hb2 hn2 hr2 hG2 hr0 hw2
  go_wp2_with fail
  refine (unhide HC1).mono ?_
  rintro e w3 ⟨v3, rfl, hown3, hb3⟩
  obtain ⟨A3, c3, rfl, hc3, hm3, hr3⟩ := own_slice hown3
  have HC3 := hide (unhide HC2 w3 hb3)
  have HB3 := hide hb3
  have HR3 := hide hr3
  clear hown3 hb3 hr3 HC2 HC1
  go_wp2_with fail
  refine (unhide HC3).mono ?_
  rintro e w4 ⟨v4, rfl, hown4, hb4⟩
  obtain ⟨A4, c4, rfl, hc4, hm4, hr4⟩ := own_slice hown4
  have HB4 := hide hb4
  have HR4 := hide hr4
  clear hown4 hb4 hr4 HC3
  go_wp2
  go_ret3
  have hb3 := unhide HB3
  have hb4 := unhide HB4
  have hw2 := unhide HW2
  have z2 := hw2.size
  have z3 := hb3.size
  have z4 := hb4.size
  exact ⟨(hw2.trans (hb3.mono z2)).trans (hb4.mono (by omega)), A3, c3, A4, rest.length, c4, rfl, hc3, hm3, ((unhide HR3).keep (fun b hb => hb4.block b hb.2)).sub (fun b hb => ⟨by have := hb.1; omega, by have := hb.2; omega⟩), rfl, hc4, hm4, (unhide HR4).sub (fun b hb => ⟨by have := hb.1; omega, hb.2⟩)⟩
end Go.Proofs.YtpmcljjhjjmlfaaDoor
