/-
  msgp.ReadInt32Bytes, impl.GetInt32. Conditions: msgp.ErrShortBytes is not nil.
-/
import Derived.Test.YtpmcljjhjjmlfaaDoorInt64
namespace Go.Proofs.YtpmcljjhjjmlfaaDoor
set_option linter.unusedSimpArgs false
set_option linter.unusedVariables false
open Go.RowKit
def int32V (bs : List UInt8) : Option (Value × List UInt8) :=
  match int64R bs with
  | none => none
  | some (i, r) => if 2147483647 < i ∨ i < -2147483648 then none else some (.int .i32 i, r)
theorem int32V_le (bs : List UInt8) : ∀ v r, int32V bs = some (v, r) → r.length ≤ bs.length := by
  intro v r h
  unfold int32V at h
  have hl := int64R_le bs
  generalize int64R bs = q at *
  rcases q with _ | ⟨i, s⟩
  · cases h
  · dsimp only at h
    split at h
    · cases h
    · obtain ⟨_, rfl⟩ := Prod.mk.inj (Option.some.inj h)
      exact hl _ _ rfl
set_option maxRecDepth 100000 in
set_option maxHeartbeats 1600000 in
theorem readInt32_any (S : Nat → Prop) (A : Option Addr) (bs : List UInt8) (n c : Nat) (w : World) (hE : ErrAt w) (hn : n = bs.length) (hr : RB w S A bs) (hc : n ≤ c) (hcm : c ≤ 9223372036854775807) (hS : Old w S) :
    Calls Tryd.prog 34 #[.slice A n c] w (ReadV S (int32V bs) w) := by
  have hR := readInt64_any S A bs n c w hE hn hr hc hcm hS
  unfold int32V
  clear hn hr
  generalize int64R bs = q at *
  rcases q with _ | ⟨i, s⟩
  · have HR := hide hR
    clear hR
    dsimp only
    go_enter Tryd.func34, Tryd.ntmps34
    go_wp2_with fail
    refine (unhide HR).mono ?_
    rintro e w1 ⟨hb1, A1, n1, c1, te, ve, rfl⟩
    go_wp2
    go_ret3
    exact .err hb1
  · have HR := hide hR
    clear hR
    dsimp only
    by_cases hi : 2147483647 < i
    · rw [if_pos (.inl hi)]
      go_enter Tryd.func34, Tryd.ntmps34
      go_wp2_with fail
      refine (unhide HR).mono ?_
      rintro e w1 ⟨hb1, A1, n1, c1, rfl, hn1, hc1, hm1, hr1⟩
      have HR1 := hide hr1
      have HN1 := hide hn1
      clear hr1 hn1
      go_wp2
      go_ret3
      exact .err hb1
    by_cases hl : i < -2147483648
    · rw [if_pos (.inr hl)]
      go_enter Tryd.func34, Tryd.ntmps34
      go_wp2_with fail
      refine (unhide HR).mono ?_
      rintro e w1 ⟨hb1, A1, n1, c1, rfl, hn1, hc1, hm1, hr1⟩
      have HR1 := hide hr1
      have HN1 := hide hn1
      clear hr1 hn1
      go_wp2
      go_ret3
      exact .err hb1
    · rw [if_neg (by omega)]
      go_enter Tryd.func34, Tryd.ntmps34
      go_wp2_with fail
      refine (unhide HR).mono ?_
      rintro e w1 ⟨hb1, A1, n1, c1, rfl, hn1, hc1, hm1, hr1⟩
      have HR1 := hide hr1
      have HN1 := hide hn1
      clear hr1 hn1
      go_wp2
      go_ret3
      exact .ok hb1 (unhide HN1) hc1 hm1 (unhide HR1)
set_option maxHeartbeats 800000 in
theorem getInt32_any (S : Nat → Prop) (A : Option Addr) (bs : List UInt8) (n c : Nat) (w : World) (hE : ErrAt w) (hn : n = bs.length) (hr : RB w S A bs) (hc : n ≤ c) (hcm : c ≤ 9223372036854775807) (hS : Old w S) (hlen : n ≤ 1099511627776) :
    Calls Tryd.prog 19 #[.slice A n c] w (GotV (.int .i32 0) (int32V bs) w) := by
  have hR := readInt32_any S A bs n c w hE hn hr hc hcm hS
  have hle : ∀ v r, int32V bs = some (v, r) → r.length ≤ n := fun v r h => by have := int32V_le bs v r h; omega
  clear hn
  generalize int32V bs = q at *
  rcases q with _ | ⟨v, r⟩
  · have HR := hide hR
    clear hR hle
    go_enter Tryd.func19, Tryd.ntmps19
    go_wp2_with fail
    refine (unhide HR).mono ?_
    rintro e w1 ⟨hb1, k, A1, n1, c1, te, ve, rfl⟩
    go_wp2
    go_ret3
    exact ⟨hb1, rfl⟩
  · have HR := hide hR
    have hrl := hle v r rfl
    clear hR hle
    go_enter Tryd.func19, Tryd.ntmps19
    go_wp2_with fail
    refine (unhide HR).mono ?_
    rintro e w1 ⟨hb1, A1, n1, c1, rfl, hn1, hc1, hm1, hr1⟩
    have hCP := copied_any S A1 r n1 c1 w1 hn1 hr1 (old_below hb1 hS) (by omega)
    have HCP := hide hCP
    have HN1 := hide hn1
    clear hCP hn1 hr1
    go_wp2_with fail
    refine (unhide HCP).mono ?_
    rintro e w2 ⟨v2, rfl, hown, hb2⟩
    obtain ⟨A2, c2, rfl, hc2, hcm2, hr2⟩ := own_slice hown
    have HR2 := hide hr2
    clear hown hr2
    go_wp2
    go_ret3
    refine ⟨hb1.trans (hb2.mono hb1.size), A2, r.length, c2, rfl, rfl, hc2, hcm2, (unhide HR2).sub (fun b hb => ⟨Nat.le_trans hb1.size hb.1, hb.2⟩)⟩
end Go.Proofs.YtpmcljjhjjmlfaaDoor
