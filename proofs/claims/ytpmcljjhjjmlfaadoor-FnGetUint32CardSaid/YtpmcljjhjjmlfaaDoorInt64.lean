/-
  msgp.ReadInt64Bytes. Conditions: msgp.ErrShortBytes is not nil.
-/
import Derived.Test.YtpmcljjhjjmlfaaDoorFix
namespace Go.Proofs.YtpmcljjhjjmlfaaDoor
set_option linter.unusedSimpArgs false
set_option linter.unusedVariables false
open Go.RowKit
def int64RC (b : Nat) (r : List UInt8) : Option (Int × List UInt8) :=
  if b = 208 then (if r.length < 1 then none else some (sgn 1 (bigU (r.take 1)), r.drop 1)) else
  if b = 204 then (if r.length < 1 then none else some ((bigU (r.take 1) : Int), r.drop 1)) else
  if b = 209 then (if r.length < 2 then none else some (sgn 2 (bigU (r.take 2)), r.drop 2)) else
  if b = 205 then (if r.length < 2 then none else some ((bigU (r.take 2) : Int), r.drop 2)) else
  if b = 210 then (if r.length < 4 then none else some (sgn 4 (bigU (r.take 4)), r.drop 4)) else
  if b = 206 then (if r.length < 4 then none else some ((bigU (r.take 4) : Int), r.drop 4)) else
  if b = 211 then (if r.length < 8 then none else some (sgn 8 (bigU (r.take 8)), r.drop 8)) else
  if b = 207 then (if r.length < 8 then none else if 9223372036854775807 < bigU (r.take 8) then none else some ((bigU (r.take 8) : Int), r.drop 8)) else none
def int64R : List UInt8 → Option (Int × List UInt8)
  | [] => none
  | b :: r => if b.toNat < 128 then some ((b.toNat : Int), r) else if 224 ≤ b.toNat then some ((b.toNat : Int) - 256, r) else int64RC b.toNat r
theorem int64R_le (bs : List UInt8) : ∀ v r, int64R bs = some (v, r) → r.length ≤ bs.length := by
  intro v r h
  refine LeO.get (v := v) (r := r) ?_ h
  rcases bs with _ | ⟨b, t⟩
  · trivial
  · have ht : t.length ≤ (b :: t).length := Nat.le_succ _
    unfold int64R int64RC
    dsimp only
    repeat' (with_reducible refine LeO.ite ?_ ?_)
    all_goals first
      | exact LeO.none_
      | exact LeO.some_ ht
      | exact LeO.some_ (Nat.le_trans (by rw [List.length_drop]; omega) ht)
set_option maxRecDepth 100000 in
set_option maxHeartbeats 800000 in
theorem readInt64_nil (S : Nat → Prop) (A : Option Addr) (c : Nat) (w : World) (hE : ErrAt w) :
    Calls Tryd.prog 54 #[.slice A 0 c] w (ReadN (Value.int .i64) S none w) := by
  obtain ⟨te, ve, hce⟩ := hE
  go_enter Tryd.func54, Tryd.ntmps54
  go_wp2
  go_region
  go_wp2
  go_ret3
  exact .err (Below.refl _ _).drew
set_option maxRecDepth 100000 in
set_option maxHeartbeats 1600000 in
theorem readInt64_lo (S : Nat → Prop) (A : Option Addr) (b : UInt8) (r : List UInt8) (c : Nat) (w : World) (hr : RB w S A (b :: r)) (hc : r.length + 1 ≤ c) (hcm : c ≤ 9223372036854775807) (hS : Old w S) (h1 : b.toNat < 128) :
    Calls Tryd.prog 54 #[.slice A (r.length + 1) c] w (ReadN (Value.int .i64) S (some ((b.toNat : Int), r)) w) := by
  obtain ⟨ad, rfl, hb, hc0⟩ := hr.at_ (k := 0) (by simp)
  simp only [u8, add_zero_, List.getElem_cons_zero] at hc0
  have hlt := hS _ hb
  have hcut := hr.cut (k := 1) (cap := c) (by simp) (by simpa using hc)
  simp only [List.drop_succ_cons, List.drop_zero] at hcut
  generalize b.toNat = x at *
  have HC := hide hcut
  clear hcut hr
  go_enter Tryd.func54, Tryd.ntmps54
  go_wp2_with (first
    | (go_at_call 59; refine (isfixint_yes x h1 _).mono ?_; rintro e w1 ⟨rfl, rfl⟩)
    | (go_at_call 60; refine (rfixint_any x _).mono ?_; rintro e w1 ⟨rfl, rfl⟩))
  go_ret3
  exact .ok (Below.refl _ _) rfl (by omega) (by unfold maxLen; omega) (unhide HC)
set_option maxRecDepth 100000 in
set_option maxHeartbeats 1600000 in
theorem readInt64_hi (S : Nat → Prop) (A : Option Addr) (b : UInt8) (r : List UInt8) (c : Nat) (w : World) (hr : RB w S A (b :: r)) (hc : r.length + 1 ≤ c) (hcm : c ≤ 9223372036854775807) (hS : Old w S) (h1 : 224 ≤ b.toNat) :
    Calls Tryd.prog 54 #[.slice A (r.length + 1) c] w (ReadN (Value.int .i64) S (some ((b.toNat : Int) - 256, r)) w) := by
  obtain ⟨ad, rfl, hb, hc0⟩ := hr.at_ (k := 0) (by simp)
  simp only [u8, add_zero_, List.getElem_cons_zero] at hc0
  have hlt := hS _ hb
  have hcut := hr.cut (k := 1) (cap := c) (by simp) (by simpa using hc)
  simp only [List.drop_succ_cons, List.drop_zero] at hcut
  have hv := b.toNat_lt
  generalize b.toNat = x at *
  have HC := hide hcut
  clear hcut hr
  go_enter Tryd.func54, Tryd.ntmps54
  go_wp2_with (first
    | (go_at_call 59; refine (isfixint_no x (by omega) hv _).mono ?_; rintro e w1 ⟨rfl, rfl⟩)
    | (go_at_call 61; refine (isnfixint_yes x h1 hv _).mono ?_; rintro e w1 ⟨rfl, rfl⟩)
    | (go_at_call 62; refine (rnfixint_any x h1 hv _).mono ?_; rintro e w1 ⟨rfl, rfl⟩))
  go_ret3
  exact .ok (Below.refl _ _) rfl (by omega) (by unfold maxLen; omega) (unhide HC)
set_option maxRecDepth 100000 in
set_option maxHeartbeats 1600000 in
theorem readInt64_208s (S : Nat → Prop) (A : Option Addr) (b : UInt8) (r : List UInt8) (c : Nat) (w : World) (hE : ErrAt w) (hr : RB w S A (b :: r)) (hc : r.length + 1 ≤ c) (hcm : c ≤ 9223372036854775807) (hS : Old w S) (h1 : b.toNat = 208) (h2 : r.length < 1) :
    Calls Tryd.prog 54 #[.slice A (r.length + 1) c] w (ReadN (Value.int .i64) S none w) := by
  obtain ⟨te, ve, hce⟩ := hE
  obtain ⟨ad, rfl, hb, hc0⟩ := hr.at_ (k := 0) (by simp)
  simp only [u8, add_zero_, List.getElem_cons_zero] at hc0
  have hlt := hS _ hb
  have hcut := hr.cut (k := 1) (cap := c) (by simp) (by simpa using hc)
  simp only [List.drop_succ_cons, List.drop_zero] at hcut
  rw [h1] at hc0
  simp only [Int.cast_ofNat_Int] at hc0
  have h3 : (r.length : Int) < 1 := by omega
  clear hcut hr h1
  go_enter Tryd.func54, Tryd.ntmps54
  go_wp2_with (first
    | (go_at_call 59; refine (isfixint_no 208 (by omega) (by omega) _).mono ?_; rintro e w1 ⟨rfl, rfl⟩)
    | (go_at_call 61; refine (isnfixint_no 208 (by omega) _).mono ?_; rintro e w1 ⟨rfl, rfl⟩))
  go_ret3
  exact .err (Below.refl _ _)
set_option maxRecDepth 100000 in
set_option maxHeartbeats 3200000 in
theorem readInt64_208k (S : Nat → Prop) (A : Option Addr) (b : UInt8) (r : List UInt8) (c : Nat) (w : World) (hr : RB w S A (b :: r)) (hc : r.length + 1 ≤ c) (hcm : c ≤ 9223372036854775807) (hS : Old w S) (h1 : b.toNat = 208) (h2 : 1 ≤ r.length) :
    Calls Tryd.prog 54 #[.slice A (r.length + 1) c] w (ReadN (Value.int .i64) S (some (sgn 1 (bigU (r.take 1)), r.drop 1)) w) := by
  obtain ⟨ad, rfl, hb, hc0⟩ := hr.at_ (k := 0) (by simp)
  simp only [u8, add_zero_, List.getElem_cons_zero] at hc0
  have hlt := hS _ hb
  have hcut := hr.cut (k := 1) (cap := c) (by simp) (by simpa using hc)
  simp only [List.drop_succ_cons, List.drop_zero] at hcut
  rw [h1] at hc0
  simp only [Int.cast_ofNat_Int] at hc0
  have h3 : ¬ (r.length : Int) < 1 := by omega
  have hcut2 := hcut.cut (k := 1) (cap := c - 1) h2 (by omega)
  have hlq : bigU (r.take 1) < 256 := by
    have := bigU_lt (r.take 1)
    rw [List.length_take, Nat.min_eq_left h2] at this
    simpa using this
  obtain ⟨b1, r1, hbr⟩ : ∃ b1 r1, r = b1 :: r1 := by
    rcases r with _ | ⟨b1, r1⟩
    · simp at h2
    · exact ⟨b1, r1, rfl⟩
  obtain ⟨ad2, had2, hSb2, hcc⟩ := hcut.at_ (k := 0) (by omega)
  have hq1 : bigU (r.take 1) = r[0].toNat := by subst hbr; simp [bigU]
  rw [hq1] at hlq ⊢
  simp only [Go.Proofs.YtpmcljjhjjmlfaaDoor.u8, add_zero_] at hcc
  have hcca : cutA (some ad) c 1 1 = some ad2 := had2
  rw [hcca] at hcut2
  generalize r[0].toNat = q at *
  have hsg := sgn1 q hlq
  have hsl := sgn_lo1 q hlq
  generalize sgn 1 q = v at *
  have HC := hide hcut2
  clear hcut hr h1 hcut2 hbr hq1
  go_enter Tryd.func54, Tryd.ntmps54
  go_wp2_with (first
    | (go_at_call 59; refine (isfixint_no 208 (by omega) (by omega) _).mono ?_; rintro e w1 ⟨rfl, rfl⟩)
    | (go_at_call 61; refine (isnfixint_no 208 (by omega) _).mono ?_; rintro e w1 ⟨rfl, rfl⟩))
  go_ret3
  exact .ok (Below.refl _ _) (by simp) (by omega) (by unfold maxLen; omega) (unhide HC)
set_option maxRecDepth 100000 in
set_option maxHeartbeats 1600000 in
theorem readInt64_204s (S : Nat → Prop) (A : Option Addr) (b : UInt8) (r : List UInt8) (c : Nat) (w : World) (hE : ErrAt w) (hr : RB w S A (b :: r)) (hc : r.length + 1 ≤ c) (hcm : c ≤ 9223372036854775807) (hS : Old w S) (h1 : b.toNat = 204) (h2 : r.length < 1) :
    Calls Tryd.prog 54 #[.slice A (r.length + 1) c] w (ReadN (Value.int .i64) S none w) := by
  obtain ⟨te, ve, hce⟩ := hE
  obtain ⟨ad, rfl, hb, hc0⟩ := hr.at_ (k := 0) (by simp)
  simp only [u8, add_zero_, List.getElem_cons_zero] at hc0
  have hlt := hS _ hb
  have hcut := hr.cut (k := 1) (cap := c) (by simp) (by simpa using hc)
  simp only [List.drop_succ_cons, List.drop_zero] at hcut
  rw [h1] at hc0
  simp only [Int.cast_ofNat_Int] at hc0
  have h3 : (r.length : Int) < 1 := by omega
  clear hcut hr h1
  go_enter Tryd.func54, Tryd.ntmps54
  go_wp2_with (first
    | (go_at_call 59; refine (isfixint_no 204 (by omega) (by omega) _).mono ?_; rintro e w1 ⟨rfl, rfl⟩)
    | (go_at_call 61; refine (isnfixint_no 204 (by omega) _).mono ?_; rintro e w1 ⟨rfl, rfl⟩))
  go_ret3
  exact .err (Below.refl _ _)
set_option maxRecDepth 100000 in
set_option maxHeartbeats 3200000 in
theorem readInt64_204k (S : Nat → Prop) (A : Option Addr) (b : UInt8) (r : List UInt8) (c : Nat) (w : World) (hr : RB w S A (b :: r)) (hc : r.length + 1 ≤ c) (hcm : c ≤ 9223372036854775807) (hS : Old w S) (h1 : b.toNat = 204) (h2 : 1 ≤ r.length) :
    Calls Tryd.prog 54 #[.slice A (r.length + 1) c] w (ReadN (Value.int .i64) S (some ((bigU (r.take 1) : Int), r.drop 1)) w) := by
  obtain ⟨ad, rfl, hb, hc0⟩ := hr.at_ (k := 0) (by simp)
  simp only [u8, add_zero_, List.getElem_cons_zero] at hc0
  have hlt := hS _ hb
  have hcut := hr.cut (k := 1) (cap := c) (by simp) (by simpa using hc)
  simp only [List.drop_succ_cons, List.drop_zero] at hcut
  rw [h1] at hc0
  simp only [Int.cast_ofNat_Int] at hc0
  have h3 : ¬ (r.length : Int) < 1 := by omega
  have hcut2 := hcut.cut (k := 1) (cap := c - 1) h2 (by omega)
  have hlq : bigU (r.take 1) < 256 := by
    have := bigU_lt (r.take 1)
    rw [List.length_take, Nat.min_eq_left h2] at this
    simpa using this
  obtain ⟨b1, r1, hbr⟩ : ∃ b1 r1, r = b1 :: r1 := by
    rcases r with _ | ⟨b1, r1⟩
    · simp at h2
    · exact ⟨b1, r1, rfl⟩
  obtain ⟨ad2, had2, hSb2, hcc⟩ := hcut.at_ (k := 0) (by omega)
  have hq1 : bigU (r.take 1) = r[0].toNat := by subst hbr; simp [bigU]
  rw [hq1] at hlq ⊢
  simp only [Go.Proofs.YtpmcljjhjjmlfaaDoor.u8, add_zero_] at hcc
  have hcca : cutA (some ad) c 1 1 = some ad2 := had2
  rw [hcca] at hcut2
  generalize r[0].toNat = q at *
  have HC := hide hcut2
  clear hcut hr h1 hcut2 hbr hq1
  go_enter Tryd.func54, Tryd.ntmps54
  go_wp2_with (first
    | (go_at_call 59; refine (isfixint_no 204 (by omega) (by omega) _).mono ?_; rintro e w1 ⟨rfl, rfl⟩)
    | (go_at_call 61; refine (isnfixint_no 204 (by omega) _).mono ?_; rintro e w1 ⟨rfl, rfl⟩))
  go_ret3
  exact .ok (Below.refl _ _) (by simp) (by omega) (by unfold maxLen; omega) (unhide HC)
set_option maxRecDepth 100000 in
set_option maxHeartbeats 1600000 in
theorem readInt64_209s (S : Nat → Prop) (A : Option Addr) (b : UInt8) (r : List UInt8) (c : Nat) (w : World) (hE : ErrAt w) (hr : RB w S A (b :: r)) (hc : r.length + 1 ≤ c) (hcm : c ≤ 9223372036854775807) (hS : Old w S) (h1 : b.toNat = 209) (h2 : r.length < 2) :
    Calls Tryd.prog 54 #[.slice A (r.length + 1) c] w (ReadN (Value.int .i64) S none w) := by
  obtain ⟨te, ve, hce⟩ := hE
  obtain ⟨ad, rfl, hb, hc0⟩ := hr.at_ (k := 0) (by simp)
  simp only [u8, add_zero_, List.getElem_cons_zero] at hc0
  have hlt := hS _ hb
  have hcut := hr.cut (k := 1) (cap := c) (by simp) (by simpa using hc)
  simp only [List.drop_succ_cons, List.drop_zero] at hcut
  rw [h1] at hc0
  simp only [Int.cast_ofNat_Int] at hc0
  have h3 : (r.length : Int) < 2 := by omega
  clear hcut hr h1
  go_enter Tryd.func54, Tryd.ntmps54
  go_wp2_with (first
    | (go_at_call 59; refine (isfixint_no 209 (by omega) (by omega) _).mono ?_; rintro e w1 ⟨rfl, rfl⟩)
    | (go_at_call 61; refine (isnfixint_no 209 (by omega) _).mono ?_; rintro e w1 ⟨rfl, rfl⟩))
  go_ret3
  exact .err (Below.refl _ _)
set_option maxRecDepth 100000 in
set_option maxHeartbeats 3200000 in
theorem readInt64_209k (S : Nat → Prop) (A : Option Addr) (b : UInt8) (r : List UInt8) (c : Nat) (w : World) (hr : RB w S A (b :: r)) (hc : r.length + 1 ≤ c) (hcm : c ≤ 9223372036854775807) (hS : Old w S) (h1 : b.toNat = 209) (h2 : 2 ≤ r.length) :
    Calls Tryd.prog 54 #[.slice A (r.length + 1) c] w (ReadN (Value.int .i64) S (some (sgn 2 (bigU (r.take 2)), r.drop 2)) w) := by
  obtain ⟨ad, rfl, hb, hc0⟩ := hr.at_ (k := 0) (by simp)
  simp only [u8, add_zero_, List.getElem_cons_zero] at hc0
  have hlt := hS _ hb
  have hcut := hr.cut (k := 1) (cap := c) (by simp) (by simpa using hc)
  simp only [List.drop_succ_cons, List.drop_zero] at hcut
  rw [h1] at hc0
  simp only [Int.cast_ofNat_Int] at hc0
  have h3 : ¬ (r.length : Int) < 2 := by omega
  have hcut2 := hcut.cut (k := 2) (cap := c - 1) h2 (by omega)
  have hlq : bigU (r.take 2) < 65536 := by
    have := bigU_lt (r.take 2)
    rw [List.length_take, Nat.min_eq_left h2] at this
    simpa using this
  have hBE := beu16_any S (cutA (some ad) c 1 1) r r.length (c - 1) w rfl h2 hcut hS
  generalize bigU (r.take 2) = q at *
  have hsg := sgn2 q hlq
  have hsl := sgn_lo2 q hlq
  generalize sgn 2 q = v at *
  have HC := hide hcut2
  have HB := hide hBE
  clear hcut hr h1 hcut2 hBE
  go_enter Tryd.func54, Tryd.ntmps54
  go_wp2_with (first
    | (go_at_call 59; refine (isfixint_no 209 (by omega) (by omega) _).mono ?_; rintro e w1 ⟨rfl, rfl⟩)
    | (go_at_call 61; refine (isnfixint_no 209 (by omega) _).mono ?_; rintro e w1 ⟨rfl, rfl⟩)
    | (go_at_call 45; refine (unhide HB).mono ?_; rintro e w1 ⟨rfl, hb1⟩))
  go_ret3
  exact .ok hb1 (by simp) (by omega) (by unfold maxLen; omega) ((unhide HC).keep (stays_below (Stays.refl _ _) hb1 hS))
set_option maxRecDepth 100000 in
set_option maxHeartbeats 1600000 in
theorem readInt64_205s (S : Nat → Prop) (A : Option Addr) (b : UInt8) (r : List UInt8) (c : Nat) (w : World) (hE : ErrAt w) (hr : RB w S A (b :: r)) (hc : r.length + 1 ≤ c) (hcm : c ≤ 9223372036854775807) (hS : Old w S) (h1 : b.toNat = 205) (h2 : r.length < 2) :
    Calls Tryd.prog 54 #[.slice A (r.length + 1) c] w (ReadN (Value.int .i64) S none w) := by
  obtain ⟨te, ve, hce⟩ := hE
  obtain ⟨ad, rfl, hb, hc0⟩ := hr.at_ (k := 0) (by simp)
  simp only [u8, add_zero_, List.getElem_cons_zero] at hc0
  have hlt := hS _ hb
  have hcut := hr.cut (k := 1) (cap := c) (by simp) (by simpa using hc)
  simp only [List.drop_succ_cons, List.drop_zero] at hcut
  rw [h1] at hc0
  simp only [Int.cast_ofNat_Int] at hc0
  have h3 : (r.length : Int) < 2 := by omega
  clear hcut hr h1
  go_enter Tryd.func54, Tryd.ntmps54
  go_wp2_with (first
    | (go_at_call 59; refine (isfixint_no 205 (by omega) (by omega) _).mono ?_; rintro e w1 ⟨rfl, rfl⟩)
    | (go_at_call 61; refine (isnfixint_no 205 (by omega) _).mono ?_; rintro e w1 ⟨rfl, rfl⟩))
  go_ret3
  exact .err (Below.refl _ _)
set_option maxRecDepth 100000 in
set_option maxHeartbeats 3200000 in
theorem readInt64_205k (S : Nat → Prop) (A : Option Addr) (b : UInt8) (r : List UInt8) (c : Nat) (w : World) (hr : RB w S A (b :: r)) (hc : r.length + 1 ≤ c) (hcm : c ≤ 9223372036854775807) (hS : Old w S) (h1 : b.toNat = 205) (h2 : 2 ≤ r.length) :
    Calls Tryd.prog 54 #[.slice A (r.length + 1) c] w (ReadN (Value.int .i64) S (some ((bigU (r.take 2) : Int), r.drop 2)) w) := by
  obtain ⟨ad, rfl, hb, hc0⟩ := hr.at_ (k := 0) (by simp)
  simp only [u8, add_zero_, List.getElem_cons_zero] at hc0
  have hlt := hS _ hb
  have hcut := hr.cut (k := 1) (cap := c) (by simp) (by simpa using hc)
  simp only [List.drop_succ_cons, List.drop_zero] at hcut
  rw [h1] at hc0
  simp only [Int.cast_ofNat_Int] at hc0
  have h3 : ¬ (r.length : Int) < 2 := by omega
  have hcut2 := hcut.cut (k := 2) (cap := c - 1) h2 (by omega)
  have hlq : bigU (r.take 2) < 65536 := by
    have := bigU_lt (r.take 2)
    rw [List.length_take, Nat.min_eq_left h2] at this
    simpa using this
  have hBE := beu16_any S (cutA (some ad) c 1 1) r r.length (c - 1) w rfl h2 hcut hS
  generalize bigU (r.take 2) = q at *
  have HC := hide hcut2
  have HB := hide hBE
  clear hcut hr h1 hcut2 hBE
  go_enter Tryd.func54, Tryd.ntmps54
  go_wp2_with (first
    | (go_at_call 59; refine (isfixint_no 205 (by omega) (by omega) _).mono ?_; rintro e w1 ⟨rfl, rfl⟩)
    | (go_at_call 61; refine (isnfixint_no 205 (by omega) _).mono ?_; rintro e w1 ⟨rfl, rfl⟩)
    | (go_at_call 45; refine (unhide HB).mono ?_; rintro e w1 ⟨rfl, hb1⟩))
  go_ret3
  exact .ok hb1 (by simp) (by omega) (by unfold maxLen; omega) ((unhide HC).keep (stays_below (Stays.refl _ _) hb1 hS))
set_option maxRecDepth 100000 in
set_option maxHeartbeats 1600000 in
theorem readInt64_210s (S : Nat → Prop) (A : Option Addr) (b : UInt8) (r : List UInt8) (c : Nat) (w : World) (hE : ErrAt w) (hr : RB w S A (b :: r)) (hc : r.length + 1 ≤ c) (hcm : c ≤ 9223372036854775807) (hS : Old w S) (h1 : b.toNat = 210) (h2 : r.length < 4) :
    Calls Tryd.prog 54 #[.slice A (r.length + 1) c] w (ReadN (Value.int .i64) S none w) := by
  obtain ⟨te, ve, hce⟩ := hE
  obtain ⟨ad, rfl, hb, hc0⟩ := hr.at_ (k := 0) (by simp)
  simp only [u8, add_zero_, List.getElem_cons_zero] at hc0
  have hlt := hS _ hb
  have hcut := hr.cut (k := 1) (cap := c) (by simp) (by simpa using hc)
  simp only [List.drop_succ_cons, List.drop_zero] at hcut
  rw [h1] at hc0
  simp only [Int.cast_ofNat_Int] at hc0
  have h3 : (r.length : Int) < 4 := by omega
  clear hcut hr h1
  go_enter Tryd.func54, Tryd.ntmps54
  go_wp2_with (first
    | (go_at_call 59; refine (isfixint_no 210 (by omega) (by omega) _).mono ?_; rintro e w1 ⟨rfl, rfl⟩)
    | (go_at_call 61; refine (isnfixint_no 210 (by omega) _).mono ?_; rintro e w1 ⟨rfl, rfl⟩))
  go_ret3
  exact .err (Below.refl _ _)
set_option maxRecDepth 100000 in
set_option maxHeartbeats 3200000 in
theorem readInt64_210k (S : Nat → Prop) (A : Option Addr) (b : UInt8) (r : List UInt8) (c : Nat) (w : World) (hr : RB w S A (b :: r)) (hc : r.length + 1 ≤ c) (hcm : c ≤ 9223372036854775807) (hS : Old w S) (h1 : b.toNat = 210) (h2 : 4 ≤ r.length) :
    Calls Tryd.prog 54 #[.slice A (r.length + 1) c] w (ReadN (Value.int .i64) S (some (sgn 4 (bigU (r.take 4)), r.drop 4)) w) := by
  obtain ⟨ad, rfl, hb, hc0⟩ := hr.at_ (k := 0) (by simp)
  simp only [u8, add_zero_, List.getElem_cons_zero] at hc0
  have hlt := hS _ hb
  have hcut := hr.cut (k := 1) (cap := c) (by simp) (by simpa using hc)
  simp only [List.drop_succ_cons, List.drop_zero] at hcut
  rw [h1] at hc0
  simp only [Int.cast_ofNat_Int] at hc0
  have h3 : ¬ (r.length : Int) < 4 := by omega
  have hcut2 := hcut.cut (k := 4) (cap := c - 1) h2 (by omega)
  have hlq : bigU (r.take 4) < 4294967296 := by
    have := bigU_lt (r.take 4)
    rw [List.length_take, Nat.min_eq_left h2] at this
    simpa using this
  have hBE := beu32_any S (cutA (some ad) c 1 1) r r.length (c - 1) w rfl h2 hcut hS
  generalize bigU (r.take 4) = q at *
  have hsg := sgn4 q hlq
  have hsl := sgn_lo4 q hlq
  generalize sgn 4 q = v at *
  have HC := hide hcut2
  have HB := hide hBE
  clear hcut hr h1 hcut2 hBE
  go_enter Tryd.func54, Tryd.ntmps54
  go_wp2_with (first
    | (go_at_call 59; refine (isfixint_no 210 (by omega) (by omega) _).mono ?_; rintro e w1 ⟨rfl, rfl⟩)
    | (go_at_call 61; refine (isnfixint_no 210 (by omega) _).mono ?_; rintro e w1 ⟨rfl, rfl⟩)
    | (go_at_call 46; refine (unhide HB).mono ?_; rintro e w1 ⟨rfl, hb1⟩))
  go_ret3
  exact .ok hb1 (by simp) (by omega) (by unfold maxLen; omega) ((unhide HC).keep (stays_below (Stays.refl _ _) hb1 hS))
set_option maxRecDepth 100000 in
set_option maxHeartbeats 1600000 in
theorem readInt64_206s (S : Nat → Prop) (A : Option Addr) (b : UInt8) (r : List UInt8) (c : Nat) (w : World) (hE : ErrAt w) (hr : RB w S A (b :: r)) (hc : r.length + 1 ≤ c) (hcm : c ≤ 9223372036854775807) (hS : Old w S) (h1 : b.toNat = 206) (h2 : r.length < 4) :
    Calls Tryd.prog 54 #[.slice A (r.length + 1) c] w (ReadN (Value.int .i64) S none w) := by
  obtain ⟨te, ve, hce⟩ := hE
  obtain ⟨ad, rfl, hb, hc0⟩ := hr.at_ (k := 0) (by simp)
  simp only [u8, add_zero_, List.getElem_cons_zero] at hc0
  have hlt := hS _ hb
  have hcut := hr.cut (k := 1) (cap := c) (by simp) (by simpa using hc)
  simp only [List.drop_succ_cons, List.drop_zero] at hcut
  rw [h1] at hc0
  simp only [Int.cast_ofNat_Int] at hc0
  have h3 : (r.length : Int) < 4 := by omega
  clear hcut hr h1
  go_enter Tryd.func54, Tryd.ntmps54
  go_wp2_with (first
    | (go_at_call 59; refine (isfixint_no 206 (by omega) (by omega) _).mono ?_; rintro e w1 ⟨rfl, rfl⟩)
    | (go_at_call 61; refine (isnfixint_no 206 (by omega) _).mono ?_; rintro e w1 ⟨rfl, rfl⟩))
  go_ret3
  exact .err (Below.refl _ _)
set_option maxRecDepth 100000 in
set_option maxHeartbeats 3200000 in
theorem readInt64_206k (S : Nat → Prop) (A : Option Addr) (b : UInt8) (r : List UInt8) (c : Nat) (w : World) (hr : RB w S A (b :: r)) (hc : r.length + 1 ≤ c) (hcm : c ≤ 9223372036854775807) (hS : Old w S) (h1 : b.toNat = 206) (h2 : 4 ≤ r.length) :
    Calls Tryd.prog 54 #[.slice A (r.length + 1) c] w (ReadN (Value.int .i64) S (some ((bigU (r.take 4) : Int), r.drop 4)) w) := by
  obtain ⟨ad, rfl, hb, hc0⟩ := hr.at_ (k := 0) (by simp)
  simp only [u8, add_zero_, List.getElem_cons_zero] at hc0
  have hlt := hS _ hb
  have hcut := hr.cut (k := 1) (cap := c) (by simp) (by simpa using hc)
  simp only [List.drop_succ_cons, List.drop_zero] at hcut
  rw [h1] at hc0
  simp only [Int.cast_ofNat_Int] at hc0
  have h3 : ¬ (r.length : Int) < 4 := by omega
  have hcut2 := hcut.cut (k := 4) (cap := c - 1) h2 (by omega)
  have hlq : bigU (r.take 4) < 4294967296 := by
    have := bigU_lt (r.take 4)
    rw [List.length_take, Nat.min_eq_left h2] at this
    simpa using this
  have hBE := beu32_any S (cutA (some ad) c 1 1) r r.length (c - 1) w rfl h2 hcut hS
  generalize bigU (r.take 4) = q at *
  have HC := hide hcut2
  have HB := hide hBE
  clear hcut hr h1 hcut2 hBE
  go_enter Tryd.func54, Tryd.ntmps54
  go_wp2_with (first
    | (go_at_call 59; refine (isfixint_no 206 (by omega) (by omega) _).mono ?_; rintro e w1 ⟨rfl, rfl⟩)
    | (go_at_call 61; refine (isnfixint_no 206 (by omega) _).mono ?_; rintro e w1 ⟨rfl, rfl⟩)
    | (go_at_call 46; refine (unhide HB).mono ?_; rintro e w1 ⟨rfl, hb1⟩))
  go_ret3
  exact .ok hb1 (by simp) (by omega) (by unfold maxLen; omega) ((unhide HC).keep (stays_below (Stays.refl _ _) hb1 hS))
set_option maxRecDepth 100000 in
set_option maxHeartbeats 1600000 in
theorem readInt64_211s (S : Nat → Prop) (A : Option Addr) (b : UInt8) (r : List UInt8) (c : Nat) (w : World) (hE : ErrAt w) (hr : RB w S A (b :: r)) (hc : r.length + 1 ≤ c) (hcm : c ≤ 9223372036854775807) (hS : Old w S) (h1 : b.toNat = 211) (h2 : r.length < 8) :
    Calls Tryd.prog 54 #[.slice A (r.length + 1) c] w (ReadN (Value.int .i64) S none w) := by
  obtain ⟨te, ve, hce⟩ := hE
  obtain ⟨ad, rfl, hb, hc0⟩ := hr.at_ (k := 0) (by simp)
  simp only [u8, add_zero_, List.getElem_cons_zero] at hc0
  have hlt := hS _ hb
  have hcut := hr.cut (k := 1) (cap := c) (by simp) (by simpa using hc)
  simp only [List.drop_succ_cons, List.drop_zero] at hcut
  rw [h1] at hc0
  simp only [Int.cast_ofNat_Int] at hc0
  have h3 : (r.length : Int) < 8 := by omega
  clear hcut hr h1
  go_enter Tryd.func54, Tryd.ntmps54
  go_wp2_with (first
    | (go_at_call 59; refine (isfixint_no 211 (by omega) (by omega) _).mono ?_; rintro e w1 ⟨rfl, rfl⟩)
    | (go_at_call 61; refine (isnfixint_no 211 (by omega) _).mono ?_; rintro e w1 ⟨rfl, rfl⟩))
  go_ret3
  exact .err (Below.refl _ _)
set_option maxRecDepth 100000 in
set_option maxHeartbeats 3200000 in
theorem readInt64_211k (S : Nat → Prop) (A : Option Addr) (b : UInt8) (r : List UInt8) (c : Nat) (w : World) (hr : RB w S A (b :: r)) (hc : r.length + 1 ≤ c) (hcm : c ≤ 9223372036854775807) (hS : Old w S) (h1 : b.toNat = 211) (h2 : 8 ≤ r.length) :
    Calls Tryd.prog 54 #[.slice A (r.length + 1) c] w (ReadN (Value.int .i64) S (some (sgn 8 (bigU (r.take 8)), r.drop 8)) w) := by
  obtain ⟨ad, rfl, hb, hc0⟩ := hr.at_ (k := 0) (by simp)
  simp only [u8, add_zero_, List.getElem_cons_zero] at hc0
  have hlt := hS _ hb
  have hcut := hr.cut (k := 1) (cap := c) (by simp) (by simpa using hc)
  simp only [List.drop_succ_cons, List.drop_zero] at hcut
  rw [h1] at hc0
  simp only [Int.cast_ofNat_Int] at hc0
  have h3 : ¬ (r.length : Int) < 8 := by omega
  have hcut2 := hcut.cut (k := 8) (cap := c - 1) h2 (by omega)
  have hlq : bigU (r.take 8) < 18446744073709551616 := by
    have := bigU_lt (r.take 8)
    rw [List.length_take, Nat.min_eq_left h2] at this
    simpa using this
  have hBE := beu64_any S (cutA (some ad) c 1 1) r r.length (c - 1) w rfl h2 hcut hS
  generalize bigU (r.take 8) = q at *
  have hsg := sgn8 q hlq
  have hsl := sgn_lo 8 q (by omega) hlq
  generalize sgn 8 q = v at *
  have HC := hide hcut2
  have HB := hide hBE
  clear hcut hr h1 hcut2 hBE
  go_enter Tryd.func54, Tryd.ntmps54
  go_wp2_with (first
    | (go_at_call 59; refine (isfixint_no 211 (by omega) (by omega) _).mono ?_; rintro e w1 ⟨rfl, rfl⟩)
    | (go_at_call 61; refine (isnfixint_no 211 (by omega) _).mono ?_; rintro e w1 ⟨rfl, rfl⟩)
    | (go_at_call 63; refine (unhide HB).mono ?_; rintro e w1 ⟨rfl, hb1⟩))
  go_ret3
  rw [← hsg]
  exact .ok hb1 (by simp) (by omega) (by unfold maxLen; omega) ((unhide HC).keep (stays_below (Stays.refl _ _) hb1 hS))
set_option maxRecDepth 100000 in
set_option maxHeartbeats 1600000 in
theorem readInt64_207s (S : Nat → Prop) (A : Option Addr) (b : UInt8) (r : List UInt8) (c : Nat) (w : World) (hE : ErrAt w) (hr : RB w S A (b :: r)) (hc : r.length + 1 ≤ c) (hcm : c ≤ 9223372036854775807) (hS : Old w S) (h1 : b.toNat = 207) (h2 : r.length < 8) :
    Calls Tryd.prog 54 #[.slice A (r.length + 1) c] w (ReadN (Value.int .i64) S none w) := by
  obtain ⟨te, ve, hce⟩ := hE
  obtain ⟨ad, rfl, hb, hc0⟩ := hr.at_ (k := 0) (by simp)
  simp only [u8, add_zero_, List.getElem_cons_zero] at hc0
  have hlt := hS _ hb
  have hcut := hr.cut (k := 1) (cap := c) (by simp) (by simpa using hc)
  simp only [List.drop_succ_cons, List.drop_zero] at hcut
  rw [h1] at hc0
  simp only [Int.cast_ofNat_Int] at hc0
  have h3 : (r.length : Int) < 8 := by omega
  clear hcut hr h1
  go_enter Tryd.func54, Tryd.ntmps54
  go_wp2_with (first
    | (go_at_call 59; refine (isfixint_no 207 (by omega) (by omega) _).mono ?_; rintro e w1 ⟨rfl, rfl⟩)
    | (go_at_call 61; refine (isnfixint_no 207 (by omega) _).mono ?_; rintro e w1 ⟨rfl, rfl⟩))
  go_ret3
  exact .err (Below.refl _ _)
set_option maxRecDepth 100000 in
set_option maxHeartbeats 3200000 in
theorem readInt64_207o (S : Nat → Prop) (A : Option Addr) (b : UInt8) (r : List UInt8) (c : Nat) (w : World) (hr : RB w S A (b :: r)) (hc : r.length + 1 ≤ c) (hcm : c ≤ 9223372036854775807) (hS : Old w S) (h1 : b.toNat = 207) (h2 : 8 ≤ r.length) (h5 : 9223372036854775807 < bigU (r.take 8)) :
    Calls Tryd.prog 54 #[.slice A (r.length + 1) c] w (ReadN (Value.int .i64) S (none) w) := by
  obtain ⟨ad, rfl, hb, hc0⟩ := hr.at_ (k := 0) (by simp)
  simp only [u8, add_zero_, List.getElem_cons_zero] at hc0
  have hlt := hS _ hb
  have hcut := hr.cut (k := 1) (cap := c) (by simp) (by simpa using hc)
  simp only [List.drop_succ_cons, List.drop_zero] at hcut
  rw [h1] at hc0
  simp only [Int.cast_ofNat_Int] at hc0
  have h3 : ¬ (r.length : Int) < 8 := by omega
  have hcut2 := hcut.cut (k := 8) (cap := c - 1) h2 (by omega)
  have hlq : bigU (r.take 8) < 18446744073709551616 := by
    have := bigU_lt (r.take 8)
    rw [List.length_take, Nat.min_eq_left h2] at this
    simpa using this
  have hBE := beu64_any S (cutA (some ad) c 1 1) r r.length (c - 1) w rfl h2 hcut hS
  generalize bigU (r.take 8) = q at *
  have HC := hide hcut2
  have HB := hide hBE
  clear hcut hr h1 hcut2 hBE
  go_enter Tryd.func54, Tryd.ntmps54
  go_wp2_with (first
    | (go_at_call 59; refine (isfixint_no 207 (by omega) (by omega) _).mono ?_; rintro e w1 ⟨rfl, rfl⟩)
    | (go_at_call 61; refine (isnfixint_no 207 (by omega) _).mono ?_; rintro e w1 ⟨rfl, rfl⟩)
    | (go_at_call 63; refine (unhide HB).mono ?_; rintro e w1 ⟨rfl, hb1⟩))
  go_ret3
  exact .err hb1
set_option maxRecDepth 100000 in
set_option maxHeartbeats 3200000 in
theorem readInt64_207k (S : Nat → Prop) (A : Option Addr) (b : UInt8) (r : List UInt8) (c : Nat) (w : World) (hr : RB w S A (b :: r)) (hc : r.length + 1 ≤ c) (hcm : c ≤ 9223372036854775807) (hS : Old w S) (h1 : b.toNat = 207) (h2 : 8 ≤ r.length) (h5 : bigU (r.take 8) ≤ 9223372036854775807) :
    Calls Tryd.prog 54 #[.slice A (r.length + 1) c] w (ReadN (Value.int .i64) S (some ((bigU (r.take 8) : Int), r.drop 8)) w) := by
  obtain ⟨ad, rfl, hb, hc0⟩ := hr.at_ (k := 0) (by simp)
  simp only [u8, add_zero_, List.getElem_cons_zero] at hc0
  have hlt := hS _ hb
  have hcut := hr.cut (k := 1) (cap := c) (by simp) (by simpa using hc)
  simp only [List.drop_succ_cons, List.drop_zero] at hcut
  rw [h1] at hc0
  simp only [Int.cast_ofNat_Int] at hc0
  have h3 : ¬ (r.length : Int) < 8 := by omega
  have hcut2 := hcut.cut (k := 8) (cap := c - 1) h2 (by omega)
  have hlq : bigU (r.take 8) < 18446744073709551616 := by
    have := bigU_lt (r.take 8)
    rw [List.length_take, Nat.min_eq_left h2] at this
    simpa using this
  have hBE := beu64_any S (cutA (some ad) c 1 1) r r.length (c - 1) w rfl h2 hcut hS
  generalize bigU (r.take 8) = q at *
  have HC := hide hcut2
  have HB := hide hBE
  clear hcut hr h1 hcut2 hBE
  go_enter Tryd.func54, Tryd.ntmps54
  go_wp2_with (first
    | (go_at_call 59; refine (isfixint_no 207 (by omega) (by omega) _).mono ?_; rintro e w1 ⟨rfl, rfl⟩)
    | (go_at_call 61; refine (isnfixint_no 207 (by omega) _).mono ?_; rintro e w1 ⟨rfl, rfl⟩)
    | (go_at_call 63; refine (unhide HB).mono ?_; rintro e w1 ⟨rfl, hb1⟩))
  go_ret3
  exact .ok hb1 (by simp) (by omega) (by unfold maxLen; omega) ((unhide HC).keep (stays_below (Stays.refl _ _) hb1 hS))
set_option maxRecDepth 100000 in
set_option maxHeartbeats 1600000 in
theorem readInt64_bad (S : Nat → Prop) (A : Option Addr) (b : UInt8) (r : List UInt8) (c : Nat) (w : World) (hr : RB w S A (b :: r)) (hc : r.length + 1 ≤ c) (hcm : c ≤ 9223372036854775807) (hS : Old w S) (hlo : ¬ b.toNat < 128) (hhi : ¬ 224 ≤ b.toNat) (h208 : b.toNat ≠ 208) (h204 : b.toNat ≠ 204) (h209 : b.toNat ≠ 209) (h205 : b.toNat ≠ 205) (h210 : b.toNat ≠ 210) (h206 : b.toNat ≠ 206) (h211 : b.toNat ≠ 211) (h207 : b.toNat ≠ 207) :
    Calls Tryd.prog 54 #[.slice A (r.length + 1) c] w (ReadN (Value.int .i64) S none w) := by
  obtain ⟨ad, rfl, hb, hc0⟩ := hr.at_ (k := 0) (by simp)
  simp only [u8, add_zero_, List.getElem_cons_zero] at hc0
  have hlt := hS _ hb
  have hcut := hr.cut (k := 1) (cap := c) (by simp) (by simpa using hc)
  simp only [List.drop_succ_cons, List.drop_zero] at hcut
  have hv := b.toNat_lt
  generalize b.toNat = x at *
  have e208 : ((x : Int) == 208) = false := by simp; omega
  have e204 : ((x : Int) == 204) = false := by simp; omega
  have e209 : ((x : Int) == 209) = false := by simp; omega
  have e205 : ((x : Int) == 205) = false := by simp; omega
  have e210 : ((x : Int) == 210) = false := by simp; omega
  have e206 : ((x : Int) == 206) = false := by simp; omega
  have e211 : ((x : Int) == 211) = false := by simp; omega
  have e207 : ((x : Int) == 207) = false := by simp; omega
  clear hcut hr h208 h204 h209 h205 h210 h206 h211 h207
  go_enter Tryd.func54, Tryd.ntmps54
  go_wp2_with (first
    | (go_at_call 59; refine (isfixint_no x (by omega) hv _).mono ?_; rintro e w1 ⟨rfl, rfl⟩)
    | (go_at_call 61; refine (isnfixint_no x (by omega) _).mono ?_; rintro e w1 ⟨rfl, rfl⟩)
    | (go_at_call 37; refine (badPrefix_any _ x hv _).mono ?_; rintro e w1 ⟨te, ve, rfl, hb1⟩))
  go_ret3
  exact .err hb1
theorem readInt64_any (S : Nat → Prop) (A : Option Addr) (bs : List UInt8) (n c : Nat) (w : World) (hE : ErrAt w) (hn : n = bs.length) (hr : RB w S A bs) (hc : n ≤ c) (hcm : c ≤ 9223372036854775807) (hS : Old w S) :
    Calls Tryd.prog 54 #[.slice A n c] w (ReadN (Value.int .i64) S (int64R bs) w) := by
  subst hn
  rcases bs with _ | ⟨b, r⟩
  · exact readInt64_nil S A c w hE
  simp only [List.length_cons] at hc ⊢
  simp only [int64R]
  by_cases hlo : b.toNat < 128
  · rw [if_pos hlo]
    exact readInt64_lo S A b r c w hr hc hcm hS hlo
  rw [if_neg hlo]
  by_cases hhi : 224 ≤ b.toNat
  · rw [if_pos hhi]
    exact readInt64_hi S A b r c w hr hc hcm hS hhi
  rw [if_neg hhi]
  unfold int64RC
  by_cases h208 : b.toNat = 208
  · rw [if_pos h208]
    by_cases hs : r.length < 1
    · rw [if_pos hs]
      exact readInt64_208s S A b r c w hE hr hc hcm hS h208 hs
    · rw [if_neg hs]
      exact readInt64_208k S A b r c w hr hc hcm hS h208 (by omega)
  rw [if_neg h208]
  by_cases h204 : b.toNat = 204
  · rw [if_pos h204]
    by_cases hs : r.length < 1
    · rw [if_pos hs]
      exact readInt64_204s S A b r c w hE hr hc hcm hS h204 hs
    · rw [if_neg hs]
      exact readInt64_204k S A b r c w hr hc hcm hS h204 (by omega)
  rw [if_neg h204]
  by_cases h209 : b.toNat = 209
  · rw [if_pos h209]
    by_cases hs : r.length < 2
    · rw [if_pos hs]
      exact readInt64_209s S A b r c w hE hr hc hcm hS h209 hs
    · rw [if_neg hs]
      exact readInt64_209k S A b r c w hr hc hcm hS h209 (by omega)
  rw [if_neg h209]
  by_cases h205 : b.toNat = 205
  · rw [if_pos h205]
    by_cases hs : r.length < 2
    · rw [if_pos hs]
      exact readInt64_205s S A b r c w hE hr hc hcm hS h205 hs
    · rw [if_neg hs]
      exact readInt64_205k S A b r c w hr hc hcm hS h205 (by omega)
  rw [if_neg h205]
  by_cases h210 : b.toNat = 210
  · rw [if_pos h210]
    by_cases hs : r.length < 4
    · rw [if_pos hs]
      exact readInt64_210s S A b r c w hE hr hc hcm hS h210 hs
    · rw [if_neg hs]
      exact readInt64_210k S A b r c w hr hc hcm hS h210 (by omega)
  rw [if_neg h210]
  by_cases h206 : b.toNat = 206
  · rw [if_pos h206]
    by_cases hs : r.length < 4
    · rw [if_pos hs]
      exact readInt64_206s S A b r c w hE hr hc hcm hS h206 hs
    · rw [if_neg hs]
      exact readInt64_206k S A b r c w hr hc hcm hS h206 (by omega)
  rw [if_neg h206]
  by_cases h211 : b.toNat = 211
  · rw [if_pos h211]
    by_cases hs : r.length < 8
    · rw [if_pos hs]
      exact readInt64_211s S A b r c w hE hr hc hcm hS h211 hs
    · rw [if_neg hs]
      exact readInt64_211k S A b r c w hr hc hcm hS h211 (by omega)
  rw [if_neg h211]
  by_cases h207 : b.toNat = 207
  · rw [if_pos h207]
    by_cases hs : r.length < 8
    · rw [if_pos hs]
      exact readInt64_207s S A b r c w hE hr hc hcm hS h207 hs
    · rw [if_neg hs]
      by_cases ho : 9223372036854775807 < bigU (r.take 8)
      · rw [if_pos ho]
        exact readInt64_207o S A b r c w hr hc hcm hS h207 (by omega) ho
      · rw [if_neg ho]
        exact readInt64_207k S A b r c w hr hc hcm hS h207 (by omega) (by omega)
  rw [if_neg h207]
  exact readInt64_bad S A b r c w hr hc hcm hS hlo hhi h208 h204 h209 h205 h210 h206 h211 h207
end Go.Proofs.YtpmcljjhjjmlfaaDoor
