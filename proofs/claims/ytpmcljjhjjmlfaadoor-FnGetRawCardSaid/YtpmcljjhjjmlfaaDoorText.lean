/-
  msgp.ReadStringZC, impl.GetTextZC. Conditions: msgp.ErrShortBytes is not nil.
-/
import Derived.Test.YtpmcljjhjjmlfaaDoorGetV
namespace Go.Proofs.YtpmcljjhjjmlfaaDoor
set_option linter.unusedSimpArgs false
set_option linter.unusedVariables false
set_option linter.unusedVariables false
open Go.RowKit
/-- What a reader of texts answers: the text, the bytes behind it; or an error. -/
def ReadT (S : Nat → Prop) (r : Option (List UInt8 × List UInt8)) (w : World) (e : Ending) (w' : World) : Prop :=
  Below w.heap.size w w' ∧ match r with
  | none => ∃ A0 n0 c0 A n c t u, e = .returned (.tuple #[.slice A0 n0 c0, .slice A n c, .iface t u])
  | some (s, bs) => ∃ A0 c0 A n c, e = .returned (.tuple #[.slice A0 s.length c0, .slice A n c, .nilIface]) ∧ s.length ≤ c0 ∧ c0 ≤ maxLen ∧ RB w' S A0 s ∧ n = bs.length ∧ n ≤ c ∧ c ≤ maxLen ∧ RB w' S A bs
def GotT (r : Option (List UInt8 × List UInt8)) (w : World) (e : Ending) (w' : World) : Prop :=
  Below w.heap.size w w' ∧ match r with
  | none => e = .returned (.tuple #[.slice none 0 0, .slice none 0 0, .bool false])
  | some (s, bs) => ∃ A0 c0 A n c, e = .returned (.tuple #[.slice A0 s.length c0, .slice A n c, .bool true]) ∧ s.length ≤ c0 ∧ c0 ≤ maxLen ∧ RB w' (Made w w') A0 s ∧ n = bs.length ∧ n ≤ c ∧ c ≤ maxLen ∧ RB w' (Made w w') A bs
theorem ReadT.err {S : Nat → Prop} {w w' : World} {A0 : Option Addr} {n0 c0 : Nat} {A : Option Addr} {n c : Nat} {t : TypeId} {u : Value} (hb : Below w.heap.size w w') : ReadT S none w (.returned (.tuple #[.slice A0 n0 c0, .slice A n c, .iface t u])) w' := ⟨hb, _, _, _, _, _, _, _, _, rfl⟩
theorem ReadT.ok {S : Nat → Prop} {w w' : World} {A0 : Option Addr} {n0 c0 : Nat} {s : List UInt8} {A : Option Addr} {n c : Nat} {bs : List UInt8} (hb : Below w.heap.size w w') (hn0 : n0 = s.length) (hc0 : n0 ≤ c0) (hm0 : c0 ≤ maxLen) (hr0 : RB w' S A0 s) (hn : n = bs.length) (hc : n ≤ c) (hm : c ≤ maxLen) (hr : RB w' S A bs) :
    ReadT S (some (s, bs)) w (.returned (.tuple #[.slice A0 n0 c0, .slice A n c, .nilIface])) w' := by
  subst hn0
  exact ⟨hb, _, _, _, _, _, rfl, hc0, hm0, hr0, hn, hc, hm, hr⟩
def cutT (n : Nat) (r : List UInt8) : Option (List UInt8 × List UInt8) := if r.length < n then none else some (r.take n, r.drop n)
def textR : List UInt8 → Option (List UInt8 × List UInt8)
  | [] => none
  | b :: r => if 160 ≤ b.toNat ∧ b.toNat < 192 then cutT (b.toNat % 32) r else
    if b.toNat = 217 then (if r.length < 1 then none else cutT (bigU (r.take 1)) (r.drop 1)) else
    if b.toNat = 218 then (if r.length < 2 then none else cutT (bigU (r.take 2)) (r.drop 2)) else
    if b.toNat = 219 then (if r.length < 4 then none else cutT (bigU (r.take 4)) (r.drop 4)) else none
theorem cutT_le {n m : Nat} {r : List UInt8} (hm : r.length ≤ m) : ∀ s x, cutT n r = some (s, x) → s.length + x.length ≤ m := by
  intro s x h
  unfold cutT at h
  split at h
  · cases h
  · obtain ⟨rfl, rfl⟩ := Prod.mk.inj (Option.some.inj h)
    rw [List.length_take, List.length_drop]
    omega
theorem textR_le (bs : List UInt8) : ∀ s r, textR bs = some (s, r) → s.length + r.length ≤ bs.length := by
  intro s r h
  rcases bs with _ | ⟨b, t⟩
  · cases h
  · unfold textR at h
    dsimp only at h
    repeat' split at h
    all_goals first
      | (cases h; done)
      | exact cutT_le (by rw [List.length_cons]; omega) _ _ h
      | exact cutT_le (by rw [List.length_drop, List.length_cons]; omega) _ _ h
theorem isfixstr_yes (b : Nat) (h1 : 160 ≤ b) (h2 : b < 192) (w : World) : Calls Tryd.prog 49 #[.int .u8 b] w fun e w' => e = .returned (.bool true) ∧ w = w' := by
  refine (isfixstr_any b (by omega) w).mono ?_
  rintro e w' ⟨rfl, rfl⟩
  exact ⟨by simp [h1, h2], rfl⟩
theorem isfixstr_no (b : Nat) (hb : b < 256) (h : ¬ (160 ≤ b ∧ b < 192)) (w : World) : Calls Tryd.prog 49 #[.int .u8 b] w fun e w' => e = .returned (.bool false) ∧ w = w' := by
  refine (isfixstr_any b hb w).mono ?_
  rintro e w' ⟨rfl, rfl⟩
  exact ⟨by rw [decide_eq_false h], rfl⟩
theorem rfixstr_nat (b q : Nat) (hb : b < 256) (h : q = b % 32) (w : World) : Calls Tryd.prog 50 #[.int .u8 b] w fun e w' => e = .returned (.int .u8 (q : Nat)) ∧ w = w' := by
  refine (rfixstr_any b hb w).mono ?_
  rintro e w' ⟨rfl, rfl⟩
  exact ⟨by rw [show (b : Int) % 32 = (q : Nat) by omega], rfl⟩
set_option maxRecDepth 100000 in
set_option maxHeartbeats 800000 in
theorem readText_nil (S : Nat → Prop) (A : Option Addr) (c : Nat) (w : World) (hE : ErrAt w) :
    Calls Tryd.prog 30 #[.slice A 0 c] w (ReadT S none w) := by
  obtain ⟨te, ve, hce⟩ := hE
  go_enter Tryd.func30, Tryd.ntmps30
  go_wp2
  go_region
  go_wp2
  go_ret3
  exact .err (Below.refl _ _).drew
set_option maxRecDepth 100000 in
set_option maxHeartbeats 1600000 in
theorem readText_fs (S : Nat → Prop) (A : Option Addr) (b : UInt8) (r : List UInt8) (c : Nat) (w : World) (hE : ErrAt w) (hr : RB w S A (b :: r)) (hc : r.length + 1 ≤ c) (hcm : c ≤ 9223372036854775807) (hS : Old w S) (h1 : 160 ≤ b.toNat) (h2 : b.toNat < 192) (h5 : r.length < b.toNat % 32) :
    Calls Tryd.prog 30 #[.slice A (r.length + 1) c] w (ReadT S none w) := by
  obtain ⟨te, ve, hce⟩ := hE
  obtain ⟨ad, rfl, hb, hc0⟩ := hr.at_ (k := 0) (by simp)
  simp only [u8, add_zero_, List.getElem_cons_zero] at hc0
  have hlt := hS _ hb
  have hcut := hr.cut (k := 1) (cap := c) (by simp) (by simpa using hc)
  simp only [List.drop_succ_cons, List.drop_zero] at hcut
  generalize b.toNat = x at *
  obtain ⟨q, hq⟩ : ∃ q, q = x % 32 := ⟨_, rfl⟩
  rw [← hq] at h5
  have hlq : q < 32 := by omega
  have h6 : (r.length : Int) < (q : Int) := by omega
  have HQ := hide hq
  clear hcut hr hq
  go_enter Tryd.func30, Tryd.ntmps30
  go_wp2_with (first
    | (go_at_call 49; refine (isfixstr_yes x h1 h2 _).mono ?_; rintro e w1 ⟨rfl, rfl⟩)
    | (go_at_call 50; refine (rfixstr_nat x q (by omega) (unhide HQ) _).mono ?_; rintro e w1 ⟨rfl, rfl⟩))
  go_ret3
  exact .err (Below.refl _ _)
set_option maxRecDepth 100000 in
set_option maxHeartbeats 1600000 in
theorem readText_fk (S : Nat → Prop) (A : Option Addr) (b : UInt8) (r : List UInt8) (c : Nat) (w : World) (hr : RB w S A (b :: r)) (hc : r.length + 1 ≤ c) (hcm : c ≤ 9223372036854775807) (hS : Old w S) (h1 : 160 ≤ b.toNat) (h2 : b.toNat < 192) (h5 : b.toNat % 32 ≤ r.length) :
    Calls Tryd.prog 30 #[.slice A (r.length + 1) c] w (ReadT S (some (r.take (b.toNat % 32), r.drop (b.toNat % 32))) w) := by
  obtain ⟨ad, rfl, hb, hc0⟩ := hr.at_ (k := 0) (by simp)
  simp only [u8, add_zero_, List.getElem_cons_zero] at hc0
  have hlt := hS _ hb
  have hcut := hr.cut (k := 1) (cap := c) (by simp) (by simpa using hc)
  simp only [List.drop_succ_cons, List.drop_zero] at hcut
  generalize b.toNat = x at *
  obtain ⟨q, hq⟩ : ∃ q, q = x % 32 := ⟨_, rfl⟩
  rw [← hq] at h5 ⊢
  have hlq : q < 32 := by omega
  have h6 : ¬ (r.length : Int) < (q : Int) := by omega
  have HQ := hide hq
  have HV := hide (hcut.take h5)
  have HC := hide (hcut.cut (k := q) (cap := c - 1) h5 (by omega))
  clear hcut hr hq
  go_enter Tryd.func30, Tryd.ntmps30
  go_wp2_with (first
    | (go_at_call 49; refine (isfixstr_yes x h1 h2 _).mono ?_; rintro e w1 ⟨rfl, rfl⟩)
    | (go_at_call 50; refine (rfixstr_nat x q (by omega) (unhide HQ) _).mono ?_; rintro e w1 ⟨rfl, rfl⟩))
  go_ret3
  exact .ok (Below.refl _ _) (by rw [List.length_take]; omega) (by omega) (by unfold maxLen; omega) (unhide HV) (by simp) (by omega) (by unfold maxLen; omega) (unhide HC)
set_option maxRecDepth 100000 in
set_option maxHeartbeats 1600000 in
theorem readText_217s (S : Nat → Prop) (A : Option Addr) (b : UInt8) (r : List UInt8) (c : Nat) (w : World) (hE : ErrAt w) (hr : RB w S A (b :: r)) (hc : r.length + 1 ≤ c) (hcm : c ≤ 9223372036854775807) (hS : Old w S) (h1 : b.toNat = 217) (h2 : r.length < 1) :
    Calls Tryd.prog 30 #[.slice A (r.length + 1) c] w (ReadT S none w) := by
  obtain ⟨te, ve, hce⟩ := hE
  obtain ⟨ad, rfl, hb, hc0⟩ := hr.at_ (k := 0) (by simp)
  simp only [u8, add_zero_, List.getElem_cons_zero] at hc0
  have hlt := hS _ hb
  have hcut := hr.cut (k := 1) (cap := c) (by simp) (by simpa using hc)
  simp only [List.drop_succ_cons, List.drop_zero] at hcut
  rw [h1] at hc0
  simp only [Int.cast_ofNat_Int] at hc0
  have h3 : (r.length : Int) < 1 := by omega
  clear hcut hr h1
  go_enter Tryd.func30, Tryd.ntmps30
  go_wp2_with (go_at_call 49; refine (isfixstr_no 217 (by omega) (by omega) _).mono ?_; rintro e w1 ⟨rfl, rfl⟩)
  go_ret3
  exact .err (Below.refl _ _)
set_option maxRecDepth 100000 in
set_option maxHeartbeats 3200000 in
theorem readText_217h (S : Nat → Prop) (A : Option Addr) (b : UInt8) (r : List UInt8) (c : Nat) (w : World) (hE : ErrAt w) (hr : RB w S A (b :: r)) (hc : r.length + 1 ≤ c) (hcm : c ≤ 9223372036854775807) (hS : Old w S) (h1 : b.toNat = 217) (h2 : 1 ≤ r.length) (h5 : r.length - 1 < bigU (r.take 1)) :
    Calls Tryd.prog 30 #[.slice A (r.length + 1) c] w (ReadT S (none) w) := by
  obtain ⟨te, ve, hce⟩ := hE
  obtain ⟨ad, rfl, hb, hc0⟩ := hr.at_ (k := 0) (by simp)
  simp only [u8, add_zero_, List.getElem_cons_zero] at hc0
  have hlt := hS _ hb
  have hcut := hr.cut (k := 1) (cap := c) (by simp) (by simpa using hc)
  simp only [List.drop_succ_cons, List.drop_zero] at hcut
  rw [h1] at hc0
  simp only [Int.cast_ofNat_Int] at hc0
  have h3 : ¬ (r.length : Int) < 1 := by omega
  have hcut2 := hcut.cut (k := 1) (cap := c - 1) h2 (by omega)
  have hlq : bigU (r.take 1) < 256 := by
    have := bigU_lt (r.take 1)
    rw [List.length_take, Nat.min_eq_left h2] at this
    simpa using this
  obtain ⟨b1, r1, hbr⟩ : ∃ b1 r1, r = b1 :: r1 := by
    rcases r with _ | ⟨b1, r1⟩
    · simp at h2
    · exact ⟨b1, r1, rfl⟩
  obtain ⟨ad2, had2, hSb2, hcc⟩ := hcut.at_ (k := 0) (by omega)
  have hq1 : bigU (r.take 1) = r[0].toNat := by subst hbr; simp [bigU]
  rw [hq1] at hlq h5
  simp only [Go.Proofs.YtpmcljjhjjmlfaaDoor.u8, add_zero_] at hcc
  have hcca : cutA (some ad) c 1 1 = some ad2 := had2
  rw [hcca] at hcut2
  generalize r[0].toNat = q at *
  have h6 : ((r.length - 1 : Nat) : Int) < (q : Int) := by omega
  clear hcut hr h1 hcut2 hbr hq1
  go_enter Tryd.func30, Tryd.ntmps30
  go_wp2_with (first
    | (go_at_call 49; refine (isfixstr_no 217 (by omega) (by omega) _).mono ?_; rintro e w1 ⟨rfl, rfl⟩))
  go_ret3
  exact .err (Below.refl _ _)
set_option maxRecDepth 100000 in
set_option maxHeartbeats 3200000 in
theorem readText_217k (S : Nat → Prop) (A : Option Addr) (b : UInt8) (r : List UInt8) (c : Nat) (w : World) (hr : RB w S A (b :: r)) (hc : r.length + 1 ≤ c) (hcm : c ≤ 9223372036854775807) (hS : Old w S) (h1 : b.toNat = 217) (h2 : 1 ≤ r.length) (h5 : bigU (r.take 1) ≤ r.length - 1) :
    Calls Tryd.prog 30 #[.slice A (r.length + 1) c] w (ReadT S (some ((r.drop 1).take (bigU (r.take 1)), (r.drop 1).drop (bigU (r.take 1)))) w) := by
  obtain ⟨ad, rfl, hb, hc0⟩ := hr.at_ (k := 0) (by simp)
  simp only [u8, add_zero_, List.getElem_cons_zero] at hc0
  have hlt := hS _ hb
  have hcut := hr.cut (k := 1) (cap := c) (by simp) (by simpa using hc)
  simp only [List.drop_succ_cons, List.drop_zero] at hcut
  rw [h1] at hc0
  simp only [Int.cast_ofNat_Int] at hc0
  have h3 : ¬ (r.length : Int) < 1 := by omega
  have hcut2 := hcut.cut (k := 1) (cap := c - 1) h2 (by omega)
  have hlq : bigU (r.take 1) < 256 := by
    have := bigU_lt (r.take 1)
    rw [List.length_take, Nat.min_eq_left h2] at this
    simpa using this
  obtain ⟨b1, r1, hbr⟩ : ∃ b1 r1, r = b1 :: r1 := by
    rcases r with _ | ⟨b1, r1⟩
    · simp at h2
    · exact ⟨b1, r1, rfl⟩
  obtain ⟨ad2, had2, hSb2, hcc⟩ := hcut.at_ (k := 0) (by omega)
  have hq1 : bigU (r.take 1) = r[0].toNat := by subst hbr; simp [bigU]
  rw [hq1] at hlq h5 ⊢
  simp only [Go.Proofs.YtpmcljjhjjmlfaaDoor.u8, add_zero_] at hcc
  have hcca : cutA (some ad) c 1 1 = some ad2 := had2
  rw [hcca] at hcut2
  generalize r[0].toNat = q at *
  have h6 : ¬ ((r.length - 1 : Nat) : Int) < (q : Int) := by omega
  have HV := hide (hcut2.take (k := q) (by rw [List.length_drop]; exact h5))
  have HC := hide (hcut2.cut (k := q) (cap := c - 1 - 1) (by rw [List.length_drop]; exact h5) (by rw [List.length_drop]; omega))
  clear hcut hr h1 hcut2 hbr hq1
  go_enter Tryd.func30, Tryd.ntmps30
  go_wp2_with (first
    | (go_at_call 49; refine (isfixstr_no 217 (by omega) (by omega) _).mono ?_; rintro e w1 ⟨rfl, rfl⟩))
  go_ret3
  exact .ok (Below.refl _ _) (by rw [List.length_take, List.length_drop]; omega) (by omega) (by unfold maxLen; omega) (unhide HV) (by rw [List.length_drop, List.length_drop]) (by omega) (by unfold maxLen; omega) (unhide HC)
set_option maxRecDepth 100000 in
set_option maxHeartbeats 1600000 in
theorem readText_218s (S : Nat → Prop) (A : Option Addr) (b : UInt8) (r : List UInt8) (c : Nat) (w : World) (hE : ErrAt w) (hr : RB w S A (b :: r)) (hc : r.length + 1 ≤ c) (hcm : c ≤ 9223372036854775807) (hS : Old w S) (h1 : b.toNat = 218) (h2 : r.length < 2) :
    Calls Tryd.prog 30 #[.slice A (r.length + 1) c] w (ReadT S none w) := by
  obtain ⟨te, ve, hce⟩ := hE
  obtain ⟨ad, rfl, hb, hc0⟩ := hr.at_ (k := 0) (by simp)
  simp only [u8, add_zero_, List.getElem_cons_zero] at hc0
  have hlt := hS _ hb
  have hcut := hr.cut (k := 1) (cap := c) (by simp) (by simpa using hc)
  simp only [List.drop_succ_cons, List.drop_zero] at hcut
  rw [h1] at hc0
  simp only [Int.cast_ofNat_Int] at hc0
  have h3 : (r.length : Int) < 2 := by omega
  clear hcut hr h1
  go_enter Tryd.func30, Tryd.ntmps30
  go_wp2_with (go_at_call 49; refine (isfixstr_no 218 (by omega) (by omega) _).mono ?_; rintro e w1 ⟨rfl, rfl⟩)
  go_ret3
  exact .err (Below.refl _ _)
set_option maxRecDepth 100000 in
set_option maxHeartbeats 3200000 in
theorem readText_218h (S : Nat → Prop) (A : Option Addr) (b : UInt8) (r : List UInt8) (c : Nat) (w : World) (hE : ErrAt w) (hr : RB w S A (b :: r)) (hc : r.length + 1 ≤ c) (hcm : c ≤ 9223372036854775807) (hS : Old w S) (h1 : b.toNat = 218) (h2 : 2 ≤ r.length) (h5 : r.length - 2 < bigU (r.take 2)) :
    Calls Tryd.prog 30 #[.slice A (r.length + 1) c] w (ReadT S (none) w) := by
  obtain ⟨te, ve, hce⟩ := hE
  obtain ⟨ad, rfl, hb, hc0⟩ := hr.at_ (k := 0) (by simp)
  simp only [u8, add_zero_, List.getElem_cons_zero] at hc0
  have hlt := hS _ hb
  have hcut := hr.cut (k := 1) (cap := c) (by simp) (by simpa using hc)
  simp only [List.drop_succ_cons, List.drop_zero] at hcut
  rw [h1] at hc0
  simp only [Int.cast_ofNat_Int] at hc0
  have h3 : ¬ (r.length : Int) < 2 := by omega
  have hcut2 := hcut.cut (k := 2) (cap := c - 1) h2 (by omega)
  have hlq : bigU (r.take 2) < 65536 := by
    have := bigU_lt (r.take 2)
    rw [List.length_take, Nat.min_eq_left h2] at this
    simpa using this
  have hBE := beu16_any S (cutA (some ad) c 1 1) r r.length (c - 1) w rfl h2 hcut hS
  generalize bigU (r.take 2) = q at *
  have HB := hide hBE
  have h6 : ((r.length - 2 : Nat) : Int) < (q : Int) := by omega
  clear hcut hr h1 hcut2 hBE
  go_enter Tryd.func30, Tryd.ntmps30
  go_wp2_with (first
    | (go_at_call 49; refine (isfixstr_no 218 (by omega) (by omega) _).mono ?_; rintro e w1 ⟨rfl, rfl⟩)
    | (go_at_call 45; refine (unhide HB).mono ?_; rintro e w1 ⟨rfl, hb1⟩; have hce1 := ErrAt.on ⟨te, ve, hce⟩ hb1; obtain ⟨te1, ve1, hce1⟩ := hce1))
  go_ret3
  exact .err hb1
set_option maxRecDepth 100000 in
set_option maxHeartbeats 3200000 in
theorem readText_218k (S : Nat → Prop) (A : Option Addr) (b : UInt8) (r : List UInt8) (c : Nat) (w : World) (hr : RB w S A (b :: r)) (hc : r.length + 1 ≤ c) (hcm : c ≤ 9223372036854775807) (hS : Old w S) (h1 : b.toNat = 218) (h2 : 2 ≤ r.length) (h5 : bigU (r.take 2) ≤ r.length - 2) :
    Calls Tryd.prog 30 #[.slice A (r.length + 1) c] w (ReadT S (some ((r.drop 2).take (bigU (r.take 2)), (r.drop 2).drop (bigU (r.take 2)))) w) := by
  obtain ⟨ad, rfl, hb, hc0⟩ := hr.at_ (k := 0) (by simp)
  simp only [u8, add_zero_, List.getElem_cons_zero] at hc0
  have hlt := hS _ hb
  have hcut := hr.cut (k := 1) (cap := c) (by simp) (by simpa using hc)
  simp only [List.drop_succ_cons, List.drop_zero] at hcut
  rw [h1] at hc0
  simp only [Int.cast_ofNat_Int] at hc0
  have h3 : ¬ (r.length : Int) < 2 := by omega
  have hcut2 := hcut.cut (k := 2) (cap := c - 1) h2 (by omega)
  have hlq : bigU (r.take 2) < 65536 := by
    have := bigU_lt (r.take 2)
    rw [List.length_take, Nat.min_eq_left h2] at this
    simpa using this
  have hBE := beu16_any S (cutA (some ad) c 1 1) r r.length (c - 1) w rfl h2 hcut hS
  generalize bigU (r.take 2) = q at *
  have HB := hide hBE
  have h6 : ¬ ((r.length - 2 : Nat) : Int) < (q : Int) := by omega
  have HV := hide (hcut2.take (k := q) (by rw [List.length_drop]; exact h5))
  have HC := hide (hcut2.cut (k := q) (cap := c - 1 - 2) (by rw [List.length_drop]; exact h5) (by rw [List.length_drop]; omega))
  clear hcut hr h1 hcut2 hBE
  go_enter Tryd.func30, Tryd.ntmps30
  go_wp2_with (first
    | (go_at_call 49; refine (isfixstr_no 218 (by omega) (by omega) _).mono ?_; rintro e w1 ⟨rfl, rfl⟩)
    | (go_at_call 45; refine (unhide HB).mono ?_; rintro e w1 ⟨rfl, hb1⟩))
  go_ret3
  exact .ok hb1 (by rw [List.length_take, List.length_drop]; omega) (by omega) (by unfold maxLen; omega) ((unhide HV).keep (stays_below (Stays.refl _ _) hb1 hS)) (by rw [List.length_drop, List.length_drop]) (by omega) (by unfold maxLen; omega) ((unhide HC).keep (stays_below (Stays.refl _ _) hb1 hS))
set_option maxRecDepth 100000 in
set_option maxHeartbeats 1600000 in
theorem readText_219s (S : Nat → Prop) (A : Option Addr) (b : UInt8) (r : List UInt8) (c : Nat) (w : World) (hE : ErrAt w) (hr : RB w S A (b :: r)) (hc : r.length + 1 ≤ c) (hcm : c ≤ 9223372036854775807) (hS : Old w S) (h1 : b.toNat = 219) (h2 : r.length < 4) :
    Calls Tryd.prog 30 #[.slice A (r.length + 1) c] w (ReadT S none w) := by
  obtain ⟨te, ve, hce⟩ := hE
  obtain ⟨ad, rfl, hb, hc0⟩ := hr.at_ (k := 0) (by simp)
  simp only [u8, add_zero_, List.getElem_cons_zero] at hc0
  have hlt := hS _ hb
  have hcut := hr.cut (k := 1) (cap := c) (by simp) (by simpa using hc)
  simp only [List.drop_succ_cons, List.drop_zero] at hcut
  rw [h1] at hc0
  simp only [Int.cast_ofNat_Int] at hc0
  have h3 : (r.length : Int) < 4 := by omega
  clear hcut hr h1
  go_enter Tryd.func30, Tryd.ntmps30
  go_wp2_with (go_at_call 49; refine (isfixstr_no 219 (by omega) (by omega) _).mono ?_; rintro e w1 ⟨rfl, rfl⟩)
  go_ret3
  exact .err (Below.refl _ _)
set_option maxRecDepth 100000 in
set_option maxHeartbeats 3200000 in
theorem readText_219h (S : Nat → Prop) (A : Option Addr) (b : UInt8) (r : List UInt8) (c : Nat) (w : World) (hE : ErrAt w) (hr : RB w S A (b :: r)) (hc : r.length + 1 ≤ c) (hcm : c ≤ 9223372036854775807) (hS : Old w S) (h1 : b.toNat = 219) (h2 : 4 ≤ r.length) (h5 : r.length - 4 < bigU (r.take 4)) :
    Calls Tryd.prog 30 #[.slice A (r.length + 1) c] w (ReadT S (none) w) := by
  obtain ⟨te, ve, hce⟩ := hE
  obtain ⟨ad, rfl, hb, hc0⟩ := hr.at_ (k := 0) (by simp)
  simp only [u8, add_zero_, List.getElem_cons_zero] at hc0
  have hlt := hS _ hb
  have hcut := hr.cut (k := 1) (cap := c) (by simp) (by simpa using hc)
  simp only [List.drop_succ_cons, List.drop_zero] at hcut
  rw [h1] at hc0
  simp only [Int.cast_ofNat_Int] at hc0
  have h3 : ¬ (r.length : Int) < 4 := by omega
  have hcut2 := hcut.cut (k := 4) (cap := c - 1) h2 (by omega)
  have hlq : bigU (r.take 4) < 4294967296 := by
    have := bigU_lt (r.take 4)
    rw [List.length_take, Nat.min_eq_left h2] at this
    simpa using this
  have hBE := beu32_any S (cutA (some ad) c 1 1) r r.length (c - 1) w rfl h2 hcut hS
  generalize bigU (r.take 4) = q at *
  have HB := hide hBE
  have h6 : ((r.length - 4 : Nat) : Int) < (q : Int) := by omega
  clear hcut hr h1 hcut2 hBE
  go_enter Tryd.func30, Tryd.ntmps30
  go_wp2_with (first
    | (go_at_call 49; refine (isfixstr_no 219 (by omega) (by omega) _).mono ?_; rintro e w1 ⟨rfl, rfl⟩)
    | (go_at_call 46; refine (unhide HB).mono ?_; rintro e w1 ⟨rfl, hb1⟩; have hce1 := ErrAt.on ⟨te, ve, hce⟩ hb1; obtain ⟨te1, ve1, hce1⟩ := hce1))
  go_ret3
  exact .err hb1
set_option maxRecDepth 100000 in
set_option maxHeartbeats 3200000 in
theorem readText_219k (S : Nat → Prop) (A : Option Addr) (b : UInt8) (r : List UInt8) (c : Nat) (w : World) (hr : RB w S A (b :: r)) (hc : r.length + 1 ≤ c) (hcm : c ≤ 9223372036854775807) (hS : Old w S) (h1 : b.toNat = 219) (h2 : 4 ≤ r.length) (h5 : bigU (r.take 4) ≤ r.length - 4) :
    Calls Tryd.prog 30 #[.slice A (r.length + 1) c] w (ReadT S (some ((r.drop 4).take (bigU (r.take 4)), (r.drop 4).drop (bigU (r.take 4)))) w) := by
  obtain ⟨ad, rfl, hb, hc0⟩ := hr.at_ (k := 0) (by simp)
  simp only [u8, add_zero_, List.getElem_cons_zero] at hc0
  have hlt := hS _ hb
  have hcut := hr.cut (k := 1) (cap := c) (by simp) (by simpa using hc)
  simp only [List.drop_succ_cons, List.drop_zero] at hcut
  rw [h1] at hc0
  simp only [Int.cast_ofNat_Int] at hc0
  have h3 : ¬ (r.length : Int) < 4 := by omega
  have hcut2 := hcut.cut (k := 4) (cap := c - 1) h2 (by omega)
  have hlq : bigU (r.take 4) < 4294967296 := by
    have := bigU_lt (r.take 4)
    rw [List.length_take, Nat.min_eq_left h2] at this
    simpa using this
  have hBE := beu32_any S (cutA (some ad) c 1 1) r r.length (c - 1) w rfl h2 hcut hS
  generalize bigU (r.take 4) = q at *
  have HB := hide hBE
  have h6 : ¬ ((r.length - 4 : Nat) : Int) < (q : Int) := by omega
  have HV := hide (hcut2.take (k := q) (by rw [List.length_drop]; exact h5))
  have HC := hide (hcut2.cut (k := q) (cap := c - 1 - 4) (by rw [List.length_drop]; exact h5) (by rw [List.length_drop]; omega))
  clear hcut hr h1 hcut2 hBE
  go_enter Tryd.func30, Tryd.ntmps30
  go_wp2_with (first
    | (go_at_call 49; refine (isfixstr_no 219 (by omega) (by omega) _).mono ?_; rintro e w1 ⟨rfl, rfl⟩)
    | (go_at_call 46; refine (unhide HB).mono ?_; rintro e w1 ⟨rfl, hb1⟩))
  go_ret3
  exact .ok hb1 (by rw [List.length_take, List.length_drop]; omega) (by omega) (by unfold maxLen; omega) ((unhide HV).keep (stays_below (Stays.refl _ _) hb1 hS)) (by rw [List.length_drop, List.length_drop]) (by omega) (by unfold maxLen; omega) ((unhide HC).keep (stays_below (Stays.refl _ _) hb1 hS))
set_option maxRecDepth 100000 in
set_option maxHeartbeats 1600000 in
theorem readText_bad (S : Nat → Prop) (A : Option Addr) (b : UInt8) (r : List UInt8) (c : Nat) (w : World) (hr : RB w S A (b :: r)) (hc : r.length + 1 ≤ c) (hcm : c ≤ 9223372036854775807) (hS : Old w S) (h1 : ¬ (160 ≤ b.toNat ∧ b.toNat < 192)) (h217 : b.toNat ≠ 217) (h218 : b.toNat ≠ 218) (h219 : b.toNat ≠ 219) :
    Calls Tryd.prog 30 #[.slice A (r.length + 1) c] w (ReadT S none w) := by
  obtain ⟨ad, rfl, hb, hc0⟩ := hr.at_ (k := 0) (by simp)
  simp only [u8, add_zero_, List.getElem_cons_zero] at hc0
  have hlt := hS _ hb
  have hcut := hr.cut (k := 1) (cap := c) (by simp) (by simpa using hc)
  simp only [List.drop_succ_cons, List.drop_zero] at hcut
  have hv := b.toNat_lt
  generalize b.toNat = x at *
  have e217 : ((x : Int) == 217) = false := by simp; omega
  have e218 : ((x : Int) == 218) = false := by simp; omega
  have e219 : ((x : Int) == 219) = false := by simp; omega
  have H1 := hide h1
  have hC := getType_any x hv
  generalize (bspec x).2.2 = ty at *
  have HT := hide hC
  clear hcut hr h1 h217 h218 h219 hC
  go_enter Tryd.func30, Tryd.ntmps30
  go_wp2_with (first
    | (go_at_call 49; refine (isfixstr_no x hv (unhide H1) _).mono ?_; rintro e w1 ⟨rfl, rfl⟩)
    | (go_at_call 51; refine (unhide HT _).mono ?_; rintro e w1 ⟨rfl, hb1⟩))
  go_ret3
  exact .err hb1
theorem readText_any (S : Nat → Prop) (A : Option Addr) (bs : List UInt8) (n c : Nat) (w : World) (hE : ErrAt w) (hn : n = bs.length) (hr : RB w S A bs) (hc : n ≤ c) (hcm : c ≤ 9223372036854775807) (hS : Old w S) :
    Calls Tryd.prog 30 #[.slice A n c] w (ReadT S (textR bs) w) := by
  subst hn
  rcases bs with _ | ⟨b, r⟩
  · exact readText_nil S A c w hE
  simp only [List.length_cons] at hc ⊢
  simp only [textR]
  by_cases hfx : 160 ≤ b.toNat ∧ b.toNat < 192
  · rw [if_pos hfx]
    unfold cutT
    by_cases h5 : r.length < b.toNat % 32
    · rw [if_pos h5]
      exact readText_fs S A b r c w hE hr hc hcm hS hfx.1 hfx.2 h5
    · rw [if_neg h5]
      exact readText_fk S A b r c w hr hc hcm hS hfx.1 hfx.2 (by omega)
  rw [if_neg hfx]
  by_cases h217 : b.toNat = 217
  · rw [if_pos h217]
    by_cases hs : r.length < 1
    · rw [if_pos hs]
      exact readText_217s S A b r c w hE hr hc hcm hS h217 hs
    · rw [if_neg hs]
      unfold cutT
      rw [List.length_drop]
      by_cases h5 : r.length - 1 < bigU (r.take 1)
      · rw [if_pos h5]
        exact readText_217h S A b r c w hE hr hc hcm hS h217 (by omega) h5
      · rw [if_neg h5]
        exact readText_217k S A b r c w hr hc hcm hS h217 (by omega) (by omega)
  rw [if_neg h217]
  by_cases h218 : b.toNat = 218
  · rw [if_pos h218]
    by_cases hs : r.length < 2
    · rw [if_pos hs]
      exact readText_218s S A b r c w hE hr hc hcm hS h218 hs
    · rw [if_neg hs]
      unfold cutT
      rw [List.length_drop]
      by_cases h5 : r.length - 2 < bigU (r.take 2)
      · rw [if_pos h5]
        exact readText_218h S A b r c w hE hr hc hcm hS h218 (by omega) h5
      · rw [if_neg h5]
        exact readText_218k S A b r c w hr hc hcm hS h218 (by omega) (by omega)
  rw [if_neg h218]
  by_cases h219 : b.toNat = 219
  · rw [if_pos h219]
    by_cases hs : r.length < 4
    · rw [if_pos hs]
      exact readText_219s S A b r c w hE hr hc hcm hS h219 hs
    · rw [if_neg hs]
      unfold cutT
      rw [List.length_drop]
      by_cases h5 : r.length - 4 < bigU (r.take 4)
      · rw [if_pos h5]
        exact readText_219h S A b r c w hE hr hc hcm hS h219 (by omega) h5
      · rw [if_neg h5]
        exact readText_219k S A b r c w hr hc hcm hS h219 (by omega) (by omega)
  rw [if_neg h219]
  exact readText_bad S A b r c w hr hc hcm hS hfx h217 h218 h219
set_option maxHeartbeats 1600000 in
theorem getText_any (S : Nat → Prop) (A : Option Addr) (bs : List UInt8) (n c : Nat) (w : World) (hE : ErrAt w) (hn : n = bs.length) (hr : RB w S A bs) (hc : n ≤ c) (hcm : c ≤ 9223372036854775807) (hS : Old w S) (hlen : n ≤ 1099511627776) :
    Calls Tryd.prog 16 #[.slice A n c] w (GotT (textR bs) w) := by
  have hR := readText_any S A bs n c w hE hn hr hc hcm hS
  have hle : ∀ v r, textR bs = some (v, r) → v.length + r.length ≤ n := fun v r h => by have := textR_le bs v r h; omega
  clear hn
  generalize textR bs = q at *
  rcases q with _ | ⟨s, r⟩
  · have HR := hide hR
    clear hR hle
    go_enter Tryd.func16, Tryd.ntmps16
    go_wp2_with fail
    refine (unhide HR).mono ?_
    rintro e w1 ⟨hb1, A0, n0, c0, A1, n1, c1, te, ve, rfl⟩
    go_wp2
    go_ret3
    exact ⟨hb1, rfl⟩
  · have HR := hide hR
    have hrl := hle s r rfl
    clear hR hle
    go_enter Tryd.func16, Tryd.ntmps16
    go_wp2_with fail
    refine (unhide HR).mono ?_
    rintro e w1 ⟨hb1, A0, c0, A1, n1, c1, rfl, hc0, hm0, hr0, hn1, hc1, hm1, hr1⟩
    have hCP := copied_any S A0 s s.length c0 w1 rfl hr0 (old_below hb1 hS) (by omega)
    have HCP := hide hCP
    have HN1 := hide hn1
    have HR1 := hide hr1
    clear hCP hn1 hr1 hr0
    go_wp2_with fail
    refine (unhide HCP).mono ?_
    rintro e w2 ⟨v2, rfl, hown, hb2⟩
    obtain ⟨A2, c2, rfl, hc2, hcm2, hr2⟩ := own_slice hown
    have hCQ := copied_any S A1 r n1 c1 w2 (unhide HN1) ((unhide HR1).keep (stays_below (Stays.refl _ _) hb2 (old_below hb1 hS))) (old_below hb2 (old_below hb1 hS)) (by omega)
    have HCQ := hide hCQ
    have HR2 := hide hr2
    clear hown hr2 hCQ
    go_wp2_with fail
    refine (unhide HCQ).mono ?_
    rintro e w3 ⟨v3, rfl, hown3, hb3⟩
    obtain ⟨A3, c3, rfl, hc3, hcm3, hr3⟩ := own_slice hown3
    have HR3 := hide hr3
    clear hown3 hr3
    go_wp2
    go_ret3
    have hb12 := hb1.trans (hb2.mono hb1.size)
    exact ⟨hb12.trans (hb3.mono hb12.size), A2, c2, A3, r.length, c3, rfl, hc2, hcm2, ((unhide HR2).keep (stays_below (Stays.refl _ _) hb3 (fun b hb => hb.2))).sub (fun b hb => ⟨Nat.le_trans hb1.size hb.1, Nat.lt_of_lt_of_le hb.2 hb3.size⟩), rfl, hc3, hcm3, (unhide HR3).sub (fun b hb => ⟨Nat.le_trans hb12.size hb.1, hb.2⟩)⟩
end Go.Proofs.YtpmcljjhjjmlfaaDoor
