/-
  Lemmas, 9 texts in one: CopiedG, ArrHead, GetV, Fix, Uint64, Uint8, Int64, Int32, Uint32. Each says its conditions.
-/
import Derived.Test.YtlnpiigdjjadiaaDoorGGetSetByted
import Derived.Test.YtlnpiigdjjadiaaDoorGGetSetBytef

/-
  impl.copied: bytes of their own. Conditions: at most 2^46 bytes. And: a number of so many bytes is below 256 to that.
-/
namespace Go.Proofs.YtlnpiigdjjadiaaDoor
set_option linter.unusedSimpArgs false
set_option linter.unusedVariables false
open Go.RowKit
/-- The blocks that w' has and w has not. -/
def Made (w w' : World) : Nat → Prop := fun b => w.heap.size ≤ b ∧ b < w'.heap.size
theorem bigU_snoc (bs : List UInt8) (b : UInt8) : bigU (bs ++ [b]) = bigU bs * 256 + b.toNat := by simp [bigU]
theorem bigU_lt (bs : List UInt8) : bigU bs < 256 ^ bs.length := by
  have key : ∀ k, k ≤ bs.length → bigU (bs.take k) < 256 ^ k := by
    intro k
    induction k with
    | zero => intro _; simp [bigU]
    | succ k ih =>
      intro h
      have h1 := ih (by omega)
      rw [List.take_succ_eq_append_getElem (by omega), bigU_snoc, Nat.pow_succ]
      have := bs[k].toNat_lt
      omega
  have := key bs.length (Nat.le_refl _)
  rwa [List.take_length] at this
set_option maxHeartbeats 400000 in
theorem copied_any (S : Nat → Prop) (A : Option Addr) (bs : List UInt8) (n cap : Nat) (w : World) (hn : n = bs.length) (hr : RB w S A bs) (hS : Old w S) (hlen : bs.length ≤ 70368744177664) :
    Calls Tryd.prog 26 #[.slice A n cap] w fun e w' => ∃ v, e = .returned v ∧ w'.ownsRow w.heap.size 5 1 v bs.length (bs.map u8) ∧ Below w.heap.size w w' := by
  subst hn
  go_enter Tryd.func26, Tryd.ntmps26
  go_wp2_with (at_builtin; obtain ⟨i0, hi0, hz0, hz1', hz2⟩ := info_parts infoB; refine wpList_append_any (S := S) _ rfl (.tmp 3) (.tmp 4) _ rfl w.heap.size 5 i0 _ 1 1 Tryd.underlying24 hi0 hz0 hz1' hz2 ?x1 ?x2 (.slice (some ⟨w.heap.size, 0, none⟩) 0 0) 0 [] ?x3 ?x8 A bs.length cap (bs.map u8) ?x4 ?x5 (u8_one bs) ?c3 ?x7 ?c4 ?_; (case x1 => rfl); (case x2 => omega); (case x3 => rfl); (case x4 => rfl); (case x5 => exact hr.keep (by go_simp)); (case x7 => omega); (case x8 => exact World.ownsRow_made w #[] 0 (Nat.le_refl _) (Nat.zero_le _) rfl); (case c3 => unfold maxLen; omega); (case c4 => simp); clear hi0 hz0 hz1' hz2; intro v1 w1 hown hgrow hat)
  go_ret
  refine ⟨v1, rfl, by simpa using hown, ?_⟩
  exact ((by repeat (first | with_reducible exact Below.refl _ _ | with_reducible exact x | with_reducible refine Below.alloc ?_ (by first | omega | (simp; omega) | (simp; done)) _ | with_reducible refine Below.setCell ?_ (by first | omega | (simp; omega) | (simp; done)) _ | with_reducible refine Below.drew ?_ | with_reducible refine below_drewN ?_ _)) : Below w.heap.size w (w.alloc _)).grown hgrow (by simp) (fun k hk => by simp [Value.ownBlock] at hk; omega)
end Go.Proofs.YtlnpiigdjjadiaaDoor

/-
  msgp.ReadArrayHeaderBytes, impl.GetArrayHead: the head of an array, read. Conditions: the data read as bytes; msgp.ErrShortBytes is not nil.
-/
namespace Go.Proofs.YtlnpiigdjjadiaaDoor
set_option linter.unusedSimpArgs false
set_option linter.unusedVariables false
open Go.RowKit
/-- The head of an array: how many, and what stands behind. -/
def arrH : List UInt8 → Option (Nat × List UInt8)
  | [] => none
  | b :: r => if 144 ≤ b.toNat ∧ b.toNat < 160 then some (b.toNat % 16, r) else if b.toNat = 220 then (if r.length < 2 then none else some (bigU (r.take 2), r.drop 2))
    else if b.toNat = 221 then (if r.length < 4 then none else some (bigU (r.take 4), r.drop 4)) else none
def ErrAt (w : World) : Prop := ∃ t v, w.cell? ⟨0, 0, none⟩ = some (.iface t v)
theorem ErrAt.pos {w : World} (h : ErrAt w) : 0 < w.heap.size := by
  obtain ⟨t, v, h⟩ := h
  rcases Nat.lt_or_ge 0 w.heap.size with h1 | h1
  · exact h1
  · have : w.heap[0]? = none := Array.getElem?_eq_none h1
    simp [World.cell?, this] at h
theorem ErrAt.below {w w' : World} {B : Nat} (h : ErrAt w) (hb : Below B w w') (hB : 0 < B) : ErrAt w' := by
  obtain ⟨t, v, h⟩ := h
  exact ⟨t, v, (hb.cell (p := ⟨_, 0, none⟩) hB).trans h⟩
theorem ErrAt.on {w w' : World} (h : ErrAt w) (hb : Below w.heap.size w w') : ErrAt w' := h.below hb h.pos
/-- What a reader of a head answers. -/
def ReadH (S : Nat → Prop) (r : Option (Nat × List UInt8)) (w : World) (e : Ending) (w' : World) : Prop :=
  Below w.heap.size w w' ∧ match r with
  | none => ∃ k A n c t v, e = .returned (.tuple #[.int .u32 k, .slice A n c, .iface t v])
  | some (k, bs) => ∃ A n c, e = .returned (.tuple #[.int .u32 k, .slice A n c, .nilIface]) ∧ n = bs.length ∧ n ≤ c ∧ c ≤ maxLen ∧ RB w' S A bs
theorem isfixarray_yes (b : Nat) (h1 : 144 ≤ b) (h2 : b < 160) (w : World) : Calls Tryd.prog 60 #[.int .u8 b] w fun e w' => e = .returned (.bool true) ∧ w = w' := by
  refine (isfixarray_any b (by omega) w).mono ?_
  rintro e w' ⟨rfl, rfl⟩
  exact ⟨by simp [h1, h2], rfl⟩
theorem isfixarray_no (b : Nat) (hb : b < 256) (h : ¬ (144 ≤ b ∧ b < 160)) (w : World) : Calls Tryd.prog 60 #[.int .u8 b] w fun e w' => e = .returned (.bool false) ∧ w = w' := by
  refine (isfixarray_any b hb w).mono ?_
  rintro e w' ⟨rfl, rfl⟩
  exact ⟨by rw [decide_eq_false h], rfl⟩
set_option maxRecDepth 100000 in
set_option maxHeartbeats 800000 in
theorem readArr_nil (S : Nat → Prop) (A : Option Addr) (c : Nat) (w : World) (hE : ErrAt w) :
    Calls Tryd.prog 40 #[.slice A 0 c] w (ReadH S none w) := by
  obtain ⟨te, ve, hce⟩ := hE
  go_enter Tryd.func40, Tryd.ntmps40
  go_wp2
  go_region
  go_wp2
  go_ret3
  exact ⟨(Below.refl _ _).drew, _, _, _, _, _, _, rfl⟩
set_option maxRecDepth 100000 in
set_option maxHeartbeats 800000 in
theorem readArr_fix (S : Nat → Prop) (A : Option Addr) (b : UInt8) (r : List UInt8) (c : Nat) (w : World) (hr : RB w S A (b :: r)) (hc : r.length + 1 ≤ c) (hcm : c ≤ 9223372036854775807) (hS : Old w S) (h1 : 144 ≤ b.toNat) (h2 : b.toNat < 160) :
    Calls Tryd.prog 40 #[.slice A (r.length + 1) c] w (ReadH S (some (b.toNat % 16, r)) w) := by
  obtain ⟨ad, rfl, hb, hc0⟩ := hr.at_ (k := 0) (by simp)
  simp only [u8, add_zero_, List.getElem_cons_zero] at hc0
  have hlt := hS _ hb
  have hcut := hr.cut (k := 1) (cap := c) (by simp) (by simpa using hc)
  simp only [List.drop_succ_cons, List.drop_zero] at hcut
  generalize b.toNat = x at *
  have HC := hide hcut
  clear hcut hr
  go_enter Tryd.func40, Tryd.ntmps40
  go_wp2_with (first
    | (go_at_call 60; refine (isfixarray_yes x h1 h2 _).mono ?_; rintro e w1 ⟨rfl, rfl⟩)
    | (go_at_call 61; refine (rfixarray_any x (by omega) _).mono ?_; rintro e w1 ⟨rfl, rfl⟩))
  go_ret3
  exact ⟨Below.refl _ _, _, _, _, rfl, rfl, by omega, by unfold maxLen; omega, unhide HC⟩
set_option maxRecDepth 100000 in
set_option maxHeartbeats 1600000 in
theorem readArr_16s (S : Nat → Prop) (A : Option Addr) (b : UInt8) (r : List UInt8) (c : Nat) (w : World) (hE : ErrAt w) (hr : RB w S A (b :: r)) (hc : r.length + 1 ≤ c) (hcm : c ≤ 9223372036854775807) (hS : Old w S) (h1 : b.toNat = 220) (h2 : r.length < 2) :
    Calls Tryd.prog 40 #[.slice A (r.length + 1) c] w (ReadH S none w) := by
  obtain ⟨te, ve, hce⟩ := hE
  obtain ⟨ad, rfl, hb, hc0⟩ := hr.at_ (k := 0) (by simp)
  simp only [u8, add_zero_, List.getElem_cons_zero] at hc0
  have hlt := hS _ hb
  have hcut := hr.cut (k := 1) (cap := c) (by simp) (by simpa using hc)
  simp only [List.drop_succ_cons, List.drop_zero] at hcut
  rw [h1] at hc0
  simp only [Int.cast_ofNat_Int] at hc0
  have h3 : (r.length : Int) < 2 := by omega
  clear hcut hr h1
  go_enter Tryd.func40, Tryd.ntmps40
  go_wp2_with (go_at_call 60; refine (isfixarray_no 220 (by omega) (by omega) _).mono ?_; rintro e w1 ⟨rfl, rfl⟩)
  go_ret3
  exact ⟨Below.refl _ _, _, _, _, _, _, _, rfl⟩
set_option maxRecDepth 100000 in
set_option maxHeartbeats 1600000 in
theorem readArr_16 (S : Nat → Prop) (A : Option Addr) (b : UInt8) (r : List UInt8) (c : Nat) (w : World) (hr : RB w S A (b :: r)) (hc : r.length + 1 ≤ c) (hcm : c ≤ 9223372036854775807) (hS : Old w S) (h1 : b.toNat = 220) (h2 : 2 ≤ r.length) :
    Calls Tryd.prog 40 #[.slice A (r.length + 1) c] w (ReadH S (some (bigU (r.take 2), r.drop 2)) w) := by
  obtain ⟨ad, rfl, hb, hc0⟩ := hr.at_ (k := 0) (by simp)
  simp only [u8, add_zero_, List.getElem_cons_zero] at hc0
  have hlt := hS _ hb
  have hcut := hr.cut (k := 1) (cap := c) (by simp) (by simpa using hc)
  simp only [List.drop_succ_cons, List.drop_zero] at hcut
  rw [h1] at hc0
  simp only [Int.cast_ofNat_Int] at hc0
  have h3 : ¬ (r.length : Int) < 2 := by omega
  have hcut2 := hcut.cut (k := 2) (cap := c - 1) h2 (by omega)
  have hBE := beu16_any S (cutA (some ad) c 1 1) r r.length (c - 1) w rfl h2 hcut hS
  have hlq : bigU (r.take 2) < 65536 := by
    have := bigU_lt (r.take 2)
    rw [List.length_take, Nat.min_eq_left h2] at this
    simpa using this
  generalize bigU (r.take 2) = q at *
  have HC := hide hcut2
  have HB := hide hBE
  clear hcut hr h1 hcut2 hBE
  go_enter Tryd.func40, Tryd.ntmps40
  go_wp2_with (first
    | (go_at_call 60; refine (isfixarray_no 220 (by omega) (by omega) _).mono ?_; rintro e w1 ⟨rfl, rfl⟩)
    | (go_at_call 62; refine (unhide HB).mono ?_; rintro e w1 ⟨rfl, hb1⟩))
  go_ret3
  exact ⟨hb1, _, _, _, rfl, by simp, by omega, by unfold maxLen; omega, (unhide HC).keep (stays_below (Stays.refl _ _) hb1 hS)⟩
set_option maxRecDepth 100000 in
set_option maxHeartbeats 1600000 in
theorem readArr_32s (S : Nat → Prop) (A : Option Addr) (b : UInt8) (r : List UInt8) (c : Nat) (w : World) (hE : ErrAt w) (hr : RB w S A (b :: r)) (hc : r.length + 1 ≤ c) (hcm : c ≤ 9223372036854775807) (hS : Old w S) (h1 : b.toNat = 221) (h2 : r.length < 4) :
    Calls Tryd.prog 40 #[.slice A (r.length + 1) c] w (ReadH S none w) := by
  obtain ⟨te, ve, hce⟩ := hE
  obtain ⟨ad, rfl, hb, hc0⟩ := hr.at_ (k := 0) (by simp)
  simp only [u8, add_zero_, List.getElem_cons_zero] at hc0
  have hlt := hS _ hb
  have hcut := hr.cut (k := 1) (cap := c) (by simp) (by simpa using hc)
  simp only [List.drop_succ_cons, List.drop_zero] at hcut
  rw [h1] at hc0
  simp only [Int.cast_ofNat_Int] at hc0
  have h3 : (r.length : Int) < 4 := by omega
  clear hcut hr h1
  go_enter Tryd.func40, Tryd.ntmps40
  go_wp2_with (go_at_call 60; refine (isfixarray_no 221 (by omega) (by omega) _).mono ?_; rintro e w1 ⟨rfl, rfl⟩)
  go_ret3
  exact ⟨Below.refl _ _, _, _, _, _, _, _, rfl⟩
set_option maxRecDepth 100000 in
set_option maxHeartbeats 1600000 in
theorem readArr_32 (S : Nat → Prop) (A : Option Addr) (b : UInt8) (r : List UInt8) (c : Nat) (w : World) (hr : RB w S A (b :: r)) (hc : r.length + 1 ≤ c) (hcm : c ≤ 9223372036854775807) (hS : Old w S) (h1 : b.toNat = 221) (h2 : 4 ≤ r.length) :
    Calls Tryd.prog 40 #[.slice A (r.length + 1) c] w (ReadH S (some (bigU (r.take 4), r.drop 4)) w) := by
  obtain ⟨ad, rfl, hb, hc0⟩ := hr.at_ (k := 0) (by simp)
  simp only [u8, add_zero_, List.getElem_cons_zero] at hc0
  have hlt := hS _ hb
  have hcut := hr.cut (k := 1) (cap := c) (by simp) (by simpa using hc)
  simp only [List.drop_succ_cons, List.drop_zero] at hcut
  rw [h1] at hc0
  simp only [Int.cast_ofNat_Int] at hc0
  have h3 : ¬ (r.length : Int) < 4 := by omega
  have hcut2 := hcut.cut (k := 4) (cap := c - 1) h2 (by omega)
  have hBE := beu32_any S (cutA (some ad) c 1 1) r r.length (c - 1) w rfl h2 hcut hS
  have hlq : bigU (r.take 4) < 4294967296 := by
    have := bigU_lt (r.take 4)
    rw [List.length_take, Nat.min_eq_left h2] at this
    simpa using this
  generalize bigU (r.take 4) = q at *
  have HC := hide hcut2
  have HB := hide hBE
  clear hcut hr h1 hcut2 hBE
  go_enter Tryd.func40, Tryd.ntmps40
  go_wp2_with (first
    | (go_at_call 60; refine (isfixarray_no 221 (by omega) (by omega) _).mono ?_; rintro e w1 ⟨rfl, rfl⟩)
    | (go_at_call 63; refine (unhide HB).mono ?_; rintro e w1 ⟨rfl, hb1⟩))
  go_ret3
  exact ⟨hb1, _, _, _, rfl, by simp, by omega, by unfold maxLen; omega, (unhide HC).keep (stays_below (Stays.refl _ _) hb1 hS)⟩
set_option maxRecDepth 100000 in
set_option maxHeartbeats 800000 in
theorem readArr_bad (S : Nat → Prop) (A : Option Addr) (b : UInt8) (r : List UInt8) (c : Nat) (w : World) (hr : RB w S A (b :: r)) (hc : r.length + 1 ≤ c) (hcm : c ≤ 9223372036854775807) (hS : Old w S) (h1 : ¬ (144 ≤ b.toNat ∧ b.toNat < 160)) (h2 : b.toNat ≠ 220) (h3 : b.toNat ≠ 221) :
    Calls Tryd.prog 40 #[.slice A (r.length + 1) c] w (ReadH S none w) := by
  obtain ⟨ad, rfl, hb, hc0⟩ := hr.at_ (k := 0) (by simp)
  simp only [u8, add_zero_, List.getElem_cons_zero] at hc0
  have hlt := hS _ hb
  have hcut := hr.cut (k := 1) (cap := c) (by simp) (by simpa using hc)
  simp only [List.drop_succ_cons, List.drop_zero] at hcut
  have hv := b.toNat_lt
  generalize b.toNat = x at *
  have H1 := hide h1
  have h4 : ((x : Int) == 220) = false := by simp; omega
  have h5 : ((x : Int) == 221) = false := by simp; omega
  clear hcut hr h1 h2 h3
  go_enter Tryd.func40, Tryd.ntmps40
  go_wp2_with (first
    | (go_at_call 60; refine (isfixarray_no x (by omega) (unhide H1) _).mono ?_; rintro e w1 ⟨rfl, rfl⟩)
    | (go_at_call 64; refine (badPrefix_any 4 x (by omega) _).mono ?_; rintro e w1 ⟨te, ve, rfl, hb1⟩))
  go_ret3
  exact ⟨hb1, _, _, _, _, _, _, rfl⟩
theorem readArr_any (S : Nat → Prop) (A : Option Addr) (bs : List UInt8) (n c : Nat) (w : World) (hE : ErrAt w) (hn : n = bs.length) (hr : RB w S A bs) (hc : n ≤ c) (hcm : c ≤ 9223372036854775807) (hS : Old w S) :
    Calls Tryd.prog 40 #[.slice A n c] w (ReadH S (arrH bs) w) := by
  subst hn
  rcases bs with _ | ⟨b, r⟩
  · exact readArr_nil S A c w hE
  · simp only [List.length_cons] at hc ⊢
    simp only [arrH]
    split
    · rename_i h
      exact readArr_fix S A b r c w hr hc hcm hS h.1 h.2
    · rename_i h
      split
      · rename_i h2
        split
        · rename_i h3
          exact readArr_16s S A b r c w hE hr hc hcm hS h2 h3
        · rename_i h3
          exact readArr_16 S A b r c w hr hc hcm hS h2 (by omega)
      · rename_i h2
        split
        · rename_i h4
          split
          · rename_i h3
            exact readArr_32s S A b r c w hE hr hc hcm hS h4 h3
          · rename_i h3
            exact readArr_32 S A b r c w hr hc hcm hS h4 (by omega)
        · rename_i h4
          exact readArr_bad S A b r c w hr hc hcm hS h h2 h4
theorem arrH_le (bs : List UInt8) : ∀ k r, arrH bs = some (k, r) → r.length ≤ bs.length := by
  intro k r h
  rcases bs with _ | ⟨b, t⟩
  · cases h
  · simp only [arrH] at h
    repeat' split at h
    all_goals first | (simp only [reduceCtorEq] at h; done) | (simp only [Option.some.injEq, Prod.mk.injEq] at h; rw [← h.2]; simp only [List.length_drop, List.length_cons]; omega)
/-- What impl.GetArrayHead answers. -/
def GotH (r : Option (Nat × List UInt8)) (w : World) (e : Ending) (w' : World) : Prop :=
  Below w.heap.size w w' ∧ match r with
  | none => e = .returned (.tuple #[.int .u32 0, .slice none 0 0, .bool false])
  | some (k, bs) => ∃ A n c, e = .returned (.tuple #[.int .u32 k, .slice A n c, .bool true]) ∧ n = bs.length ∧ n ≤ c ∧ c ≤ maxLen ∧ RB w' (Made w w') A bs
end Go.Proofs.YtlnpiigdjjadiaaDoor

/-
  Words for readers of one value: what msgp's Read..Bytes and impl's Get.. answer.
-/
namespace Go.Proofs.YtlnpiigdjjadiaaDoor
set_option linter.unusedSimpArgs false
set_option linter.unusedVariables false
open Go.RowKit
/-- What a reader of msgp answers: r, the bytes behind it; or an error. -/
def ReadV (S : Nat → Prop) (r : Option (Value × List UInt8)) (w : World) (e : Ending) (w' : World) : Prop :=
  Below w.heap.size w w' ∧ match r with
  | none => ∃ v A n c t u, e = .returned (.tuple #[v, .slice A n c, .iface t u])
  | some (v, bs) => ∃ A n c, e = .returned (.tuple #[v, .slice A n c, .nilIface]) ∧ n = bs.length ∧ n ≤ c ∧ c ≤ maxLen ∧ RB w' S A bs
/-- What impl's Get.. answers. -/
def GotV (z : Value) (r : Option (Value × List UInt8)) (w : World) (e : Ending) (w' : World) : Prop :=
  Below w.heap.size w w' ∧ match r with
  | none => e = .returned (.tuple #[z, .slice none 0 0, .bool false])
  | some (v, bs) => ∃ A n c, e = .returned (.tuple #[v, .slice A n c, .bool true]) ∧ n = bs.length ∧ n ≤ c ∧ c ≤ maxLen ∧ RB w' (Made w w') A bs
theorem ReadV.err {S : Nat → Prop} {w w' : World} {v : Value} {A : Option Addr} {n c : Nat} {t : TypeId} {u : Value} (hb : Below w.heap.size w w') : ReadV S none w (.returned (.tuple #[v, .slice A n c, .iface t u])) w' := ⟨hb, _, _, _, _, _, _, rfl⟩
theorem ReadV.ok {S : Nat → Prop} {w w' : World} {v : Value} {A : Option Addr} {n c : Nat} {bs : List UInt8} (hb : Below w.heap.size w w') (hn : n = bs.length) (hc : n ≤ c) (hm : c ≤ maxLen) (hr : RB w' S A bs) : ReadV S (some (v, bs)) w (.returned (.tuple #[v, .slice A n c, .nilIface])) w' := ⟨hb, _, _, _, rfl, hn, hc, hm, hr⟩
end Go.Proofs.YtlnpiigdjjadiaaDoor

/-
  msgp's isfixint, rfixint, isnfixint, rnfixint; words for readers of integers. Conditions: bytes.
-/
namespace Go.Proofs.YtlnpiigdjjadiaaDoor
set_option linter.unusedSimpArgs false
set_option linter.unusedVariables false
open Go.RowKit
/-- What is left is at most n long. -/
def LeO (n : Nat) : Option (Int × List UInt8) → Prop
  | none => True
  | some x => x.2.length ≤ n
theorem LeO.ite {n : Nat} {c : Prop} [Decidable c] {a b : Option (Int × List UInt8)} (ha : LeO n a) (hb : LeO n b) : LeO n (if c then a else b) := by
  split <;> assumption
theorem LeO.none_ {n : Nat} : LeO n none := trivial
theorem LeO.some_ {n : Nat} {p : Int} {r : List UInt8} (h : r.length ≤ n) : LeO n (some (p, r)) := h
theorem LeO.get {n : Nat} {o : Option (Int × List UInt8)} {v : Int} {r : List UInt8} (h : LeO n o) (e : o = some (v, r)) : r.length ≤ n := by
  subst e
  exact h
/-- The number is not below 0. -/
def NnO : Option (Int × List UInt8) → Prop
  | none => True
  | some x => 0 ≤ x.1
theorem NnO.ite {c : Prop} [Decidable c] {a b : Option (Int × List UInt8)} (ha : c → NnO a) (hb : ¬ c → NnO b) : NnO (if c then a else b) := by
  split
  · exact ha ‹_›
  · exact hb ‹_›
theorem NnO.none_ : NnO none := trivial
theorem NnO.some_ {p : Int} {r : List UInt8} (h : 0 ≤ p) : NnO (some (p, r)) := h
theorem NnO.get {o : Option (Int × List UInt8)} {v : Int} {r : List UInt8} (h : NnO o) (e : o = some (v, r)) : 0 ≤ v := by
  subst e
  exact h
theorem or16 (a b : Nat) (ha : a < 256) (hb : b < 256) : bits BinOp.or IntKind.i16 (IntKind.i16.wrap ((a : Int) * 256)) (b : Int) = sgn 2 (a * 256 + b) := by
  show IntKind.i16.wrap ((BitVec.ofInt 16 (IntKind.i16.wrap ((a : Int) * 256)) ||| BitVec.ofInt 16 (b : Int)).toNat : Int) = _
  have e1 : (BitVec.ofInt 16 (IntKind.i16.wrap ((a : Int) * 256))).toNat = a * 256 := by
    rw [BitVec.toNat_ofInt]
    simp [IntKind.wrap, IntKind.bits, IntKind.signed]
    omega
  have e2 : (BitVec.ofInt 16 (b : Int)).toNat = b := by
    rw [BitVec.toNat_ofInt]
    simp
    omega
  have e3 := or_shift b a 8 (by omega)
  simp only [Nat.reducePow] at e3
  rw [BitVec.toNat_or, e1, e2, Nat.or_comm, e3]
  exact sgn2 _ (by omega)
/-- What a reader of numbers answers: r, the bytes behind it; or an error, beside z. -/
def ReadN (z : Int → Value) (S : Nat → Prop) (r : Option (Int × List UInt8)) (w : World) (e : Ending) (w' : World) : Prop :=
  Below w.heap.size w w' ∧ match r with
  | none => ∃ A n c t u, e = .returned (.tuple #[z 0, .slice A n c, .iface t u])
  | some (v, bs) => ∃ A n c, e = .returned (.tuple #[z v, .slice A n c, .nilIface]) ∧ n = bs.length ∧ n ≤ c ∧ c ≤ maxLen ∧ RB w' S A bs
theorem ReadN.err {z : Int → Value} {S : Nat → Prop} {w w' : World} {A : Option Addr} {n c : Nat} {t : TypeId} {u : Value} (hb : Below w.heap.size w w') : ReadN z S none w (.returned (.tuple #[z 0, .slice A n c, .iface t u])) w' := ⟨hb, _, _, _, _, _, rfl⟩
theorem ReadN.ok {z : Int → Value} {S : Nat → Prop} {w w' : World} {v : Int} {A : Option Addr} {n c : Nat} {bs : List UInt8} (hb : Below w.heap.size w w') (hn : n = bs.length) (hc : n ≤ c) (hm : c ≤ maxLen) (hr : RB w' S A bs) : ReadN z S (some (v, bs)) w (.returned (.tuple #[z v, .slice A n c, .nilIface])) w' := ⟨hb, _, _, _, rfl, hn, hc, hm, hr⟩
end Go.Proofs.YtlnpiigdjjadiaaDoor

/-
  msgp.ReadUint64Bytes. Conditions: msgp.ErrShortBytes is not nil.
-/
namespace Go.Proofs.YtlnpiigdjjadiaaDoor
set_option linter.unusedSimpArgs false
set_option linter.unusedVariables false
open Go.RowKit
def uint64RC (b : Nat) (r : List UInt8) : Option (Int × List UInt8) :=
  if b = 208 then (if r.length < 1 then none else if sgn 1 (bigU (r.take 1)) < 0 then none else some (sgn 1 (bigU (r.take 1)), r.drop 1)) else
  if b = 204 then (if r.length < 1 then none else some ((bigU (r.take 1) : Int), r.drop 1)) else
  if b = 209 then (if r.length < 2 then none else if sgn 2 (bigU (r.take 2)) < 0 then none else some (sgn 2 (bigU (r.take 2)), r.drop 2)) else
  if b = 205 then (if r.length < 2 then none else some ((bigU (r.take 2) : Int), r.drop 2)) else
  if b = 210 then (if r.length < 4 then none else if sgn 4 (bigU (r.take 4)) < 0 then none else some (sgn 4 (bigU (r.take 4)), r.drop 4)) else
  if b = 206 then (if r.length < 4 then none else some ((bigU (r.take 4) : Int), r.drop 4)) else
  if b = 211 then (if r.length < 8 then none else if sgn 8 (bigU (r.take 8)) < 0 then none else some (sgn 8 (bigU (r.take 8)), r.drop 8)) else
  if b = 207 then (if r.length < 8 then none else some ((bigU (r.take 8) : Int), r.drop 8)) else none
def uint64R : List UInt8 → Option (Int × List UInt8)
  | [] => none
  | b :: r => if b.toNat < 128 then some ((b.toNat : Int), r) else uint64RC b.toNat r
theorem uint64R_le (bs : List UInt8) : ∀ v r, uint64R bs = some (v, r) → r.length ≤ bs.length := by
  intro v r h
  refine LeO.get (v := v) (r := r) ?_ h
  rcases bs with _ | ⟨b, t⟩
  · trivial
  · have ht : t.length ≤ (b :: t).length := Nat.le_succ _
    unfold uint64R uint64RC
    dsimp only
    repeat' (with_reducible refine LeO.ite ?_ ?_)
    all_goals first
      | exact LeO.none_
      | exact LeO.some_ ht
      | exact LeO.some_ (Nat.le_trans (by rw [List.length_drop]; omega) ht)
theorem uint64R_nn (bs : List UInt8) : ∀ v r, uint64R bs = some (v, r) → 0 ≤ v := by
  intro v r h
  refine NnO.get (v := v) (r := r) ?_ h
  rcases bs with _ | ⟨b, t⟩
  · trivial
  · unfold uint64R uint64RC
    dsimp only
    repeat' (with_reducible refine NnO.ite (fun _ => ?_) (fun _ => ?_))
    all_goals first
      | exact NnO.none_
      | exact NnO.some_ (by omega)
set_option maxRecDepth 100000 in
set_option maxHeartbeats 800000 in
theorem readUint64_nil (S : Nat → Prop) (A : Option Addr) (c : Nat) (w : World) (hE : ErrAt w) :
    Calls Tryd.prog 97 #[.slice A 0 c] w (ReadN (Value.int .u64) S none w) := by
  obtain ⟨te, ve, hce⟩ := hE
  go_enter Tryd.func97, Tryd.ntmps97
  go_wp2
  go_region
  go_wp2
  go_ret3
  exact .err (Below.refl _ _).drew
set_option maxRecDepth 100000 in
set_option maxHeartbeats 1600000 in
theorem readUint64_lo (S : Nat → Prop) (A : Option Addr) (b : UInt8) (r : List UInt8) (c : Nat) (w : World) (hr : RB w S A (b :: r)) (hc : r.length + 1 ≤ c) (hcm : c ≤ 9223372036854775807) (hS : Old w S) (h1 : b.toNat < 128) :
    Calls Tryd.prog 97 #[.slice A (r.length + 1) c] w (ReadN (Value.int .u64) S (some ((b.toNat : Int), r)) w) := by
  obtain ⟨ad, rfl, hb, hc0⟩ := hr.at_ (k := 0) (by simp)
  simp only [u8, add_zero_, List.getElem_cons_zero] at hc0
  have hlt := hS _ hb
  have hcut := hr.cut (k := 1) (cap := c) (by simp) (by simpa using hc)
  simp only [List.drop_succ_cons, List.drop_zero] at hcut
  generalize b.toNat = x at *
  have HC := hide hcut
  clear hcut hr
  go_enter Tryd.func97, Tryd.ntmps97
  go_wp2_with (first
    | (go_at_call 82; refine (isfixint_yes x h1 _).mono ?_; rintro e w1 ⟨rfl, rfl⟩)
    | (go_at_call 83; refine (rfixint_any x _).mono ?_; rintro e w1 ⟨rfl, rfl⟩))
  go_ret3
  exact .ok (Below.refl _ _) rfl (by omega) (by unfold maxLen; omega) (unhide HC)
set_option maxRecDepth 100000 in
set_option maxHeartbeats 1600000 in
theorem readUint64_208s (S : Nat → Prop) (A : Option Addr) (b : UInt8) (r : List UInt8) (c : Nat) (w : World) (hE : ErrAt w) (hr : RB w S A (b :: r)) (hc : r.length + 1 ≤ c) (hcm : c ≤ 9223372036854775807) (hS : Old w S) (h1 : b.toNat = 208) (h2 : r.length < 1) :
    Calls Tryd.prog 97 #[.slice A (r.length + 1) c] w (ReadN (Value.int .u64) S none w) := by
  obtain ⟨te, ve, hce⟩ := hE
  obtain ⟨ad, rfl, hb, hc0⟩ := hr.at_ (k := 0) (by simp)
  simp only [u8, add_zero_, List.getElem_cons_zero] at hc0
  have hlt := hS _ hb
  have hcut := hr.cut (k := 1) (cap := c) (by simp) (by simpa using hc)
  simp only [List.drop_succ_cons, List.drop_zero] at hcut
  rw [h1] at hc0
  simp only [Int.cast_ofNat_Int] at hc0
  have h3 : (r.length : Int) < 1 := by omega
  clear hcut hr h1
  go_enter Tryd.func97, Tryd.ntmps97
  go_wp2_with (first
    | (go_at_call 82; refine (isfixint_no 208 (by omega) (by omega) _).mono ?_; rintro e w1 ⟨rfl, rfl⟩))
  go_ret3
  exact .err (Below.refl _ _)
set_option maxRecDepth 100000 in
set_option maxHeartbeats 3200000 in
theorem readUint64_208o (S : Nat → Prop) (A : Option Addr) (b : UInt8) (r : List UInt8) (c : Nat) (w : World) (hr : RB w S A (b :: r)) (hc : r.length + 1 ≤ c) (hcm : c ≤ 9223372036854775807) (hS : Old w S) (h1 : b.toNat = 208) (h2 : 1 ≤ r.length) (h5 : sgn 1 (bigU (r.take 1)) < 0) :
    Calls Tryd.prog 97 #[.slice A (r.length + 1) c] w (ReadN (Value.int .u64) S (none) w) := by
  obtain ⟨ad, rfl, hb, hc0⟩ := hr.at_ (k := 0) (by simp)
  simp only [u8, add_zero_, List.getElem_cons_zero] at hc0
  have hlt := hS _ hb
  have hcut := hr.cut (k := 1) (cap := c) (by simp) (by simpa using hc)
  simp only [List.drop_succ_cons, List.drop_zero] at hcut
  rw [h1] at hc0
  simp only [Int.cast_ofNat_Int] at hc0
  have h3 : ¬ (r.length : Int) < 1 := by omega
  have hcut2 := hcut.cut (k := 1) (cap := c - 1) h2 (by omega)
  have hlq : bigU (r.take 1) < 256 := by
    have := bigU_lt (r.take 1)
    rw [List.length_take, Nat.min_eq_left h2] at this
    simpa using this
  obtain ⟨b1, r1, hbr⟩ : ∃ b1 r1, r = b1 :: r1 := by
    rcases r with _ | ⟨b1, r1⟩
    · simp at h2
    · exact ⟨b1, r1, rfl⟩
  obtain ⟨ad2, had2, hSb2, hcc⟩ := hcut.at_ (k := 0) (by omega)
  have hq1 : bigU (r.take 1) = r[0].toNat := by subst hbr; simp [bigU]
  rw [hq1] at hlq h5
  simp only [Go.Proofs.YtlnpiigdjjadiaaDoor.u8, add_zero_] at hcc
  have hcca : cutA (some ad) c 1 1 = some ad2 := had2
  rw [hcca] at hcut2
  generalize r[0].toNat = q at *
  have hsg := sgn1 q hlq
  have hsl := sgn_lo1 q hlq
  generalize sgn 1 q = v at *
  have HC := hide hcut2
  clear hcut hr h1 hcut2 hbr hq1
  go_enter Tryd.func97, Tryd.ntmps97
  go_wp2_with (first
    | (go_at_call 82; refine (isfixint_no 208 (by omega) (by omega) _).mono ?_; rintro e w1 ⟨rfl, rfl⟩))
  go_ret3
  exact .err (Below.refl _ _)
set_option maxRecDepth 100000 in
set_option maxHeartbeats 3200000 in
theorem readUint64_208k (S : Nat → Prop) (A : Option Addr) (b : UInt8) (r : List UInt8) (c : Nat) (w : World) (hr : RB w S A (b :: r)) (hc : r.length + 1 ≤ c) (hcm : c ≤ 9223372036854775807) (hS : Old w S) (h1 : b.toNat = 208) (h2 : 1 ≤ r.length) (h5 : 0 ≤ sgn 1 (bigU (r.take 1))) :
    Calls Tryd.prog 97 #[.slice A (r.length + 1) c] w (ReadN (Value.int .u64) S (some (sgn 1 (bigU (r.take 1)), r.drop 1)) w) := by
  obtain ⟨ad, rfl, hb, hc0⟩ := hr.at_ (k := 0) (by simp)
  simp only [u8, add_zero_, List.getElem_cons_zero] at hc0
  have hlt := hS _ hb
  have hcut := hr.cut (k := 1) (cap := c) (by simp) (by simpa using hc)
  simp only [List.drop_succ_cons, List.drop_zero] at hcut
  rw [h1] at hc0
  simp only [Int.cast_ofNat_Int] at hc0
  have h3 : ¬ (r.length : Int) < 1 := by omega
  have hcut2 := hcut.cut (k := 1) (cap := c - 1) h2 (by omega)
  have hlq : bigU (r.take 1) < 256 := by
    have := bigU_lt (r.take 1)
    rw [List.length_take, Nat.min_eq_left h2] at this
    simpa using this
  obtain ⟨b1, r1, hbr⟩ : ∃ b1 r1, r = b1 :: r1 := by
    rcases r with _ | ⟨b1, r1⟩
    · simp at h2
    · exact ⟨b1, r1, rfl⟩
  obtain ⟨ad2, had2, hSb2, hcc⟩ := hcut.at_ (k := 0) (by omega)
  have hq1 : bigU (r.take 1) = r[0].toNat := by subst hbr; simp [bigU]
  rw [hq1] at hlq h5 ⊢
  simp only [Go.Proofs.YtlnpiigdjjadiaaDoor.u8, add_zero_] at hcc
  have hcca : cutA (some ad) c 1 1 = some ad2 := had2
  rw [hcca] at hcut2
  generalize r[0].toNat = q at *
  have hsg := sgn1 q hlq
  have hsl := sgn_lo1 q hlq
  generalize sgn 1 q = v at *
  have HC := hide hcut2
  clear hcut hr h1 hcut2 hbr hq1
  go_enter Tryd.func97, Tryd.ntmps97
  go_wp2_with (first
    | (go_at_call 82; refine (isfixint_no 208 (by omega) (by omega) _).mono ?_; rintro e w1 ⟨rfl, rfl⟩))
  go_ret3
  exact .ok (Below.refl _ _) (by simp) (by omega) (by unfold maxLen; omega) (unhide HC)
set_option maxRecDepth 100000 in
set_option maxHeartbeats 1600000 in
theorem readUint64_204s (S : Nat → Prop) (A : Option Addr) (b : UInt8) (r : List UInt8) (c : Nat) (w : World) (hE : ErrAt w) (hr : RB w S A (b :: r)) (hc : r.length + 1 ≤ c) (hcm : c ≤ 9223372036854775807) (hS : Old w S) (h1 : b.toNat = 204) (h2 : r.length < 1) :
    Calls Tryd.prog 97 #[.slice A (r.length + 1) c] w (ReadN (Value.int .u64) S none w) := by
  obtain ⟨te, ve, hce⟩ := hE
  obtain ⟨ad, rfl, hb, hc0⟩ := hr.at_ (k := 0) (by simp)
  simp only [u8, add_zero_, List.getElem_cons_zero] at hc0
  have hlt := hS _ hb
  have hcut := hr.cut (k := 1) (cap := c) (by simp) (by simpa using hc)
  simp only [List.drop_succ_cons, List.drop_zero] at hcut
  rw [h1] at hc0
  simp only [Int.cast_ofNat_Int] at hc0
  have h3 : (r.length : Int) < 1 := by omega
  clear hcut hr h1
  go_enter Tryd.func97, Tryd.ntmps97
  go_wp2_with (first
    | (go_at_call 82; refine (isfixint_no 204 (by omega) (by omega) _).mono ?_; rintro e w1 ⟨rfl, rfl⟩))
  go_ret3
  exact .err (Below.refl _ _)
set_option maxRecDepth 100000 in
set_option maxHeartbeats 3200000 in
theorem readUint64_204k (S : Nat → Prop) (A : Option Addr) (b : UInt8) (r : List UInt8) (c : Nat) (w : World) (hr : RB w S A (b :: r)) (hc : r.length + 1 ≤ c) (hcm : c ≤ 9223372036854775807) (hS : Old w S) (h1 : b.toNat = 204) (h2 : 1 ≤ r.length) :
    Calls Tryd.prog 97 #[.slice A (r.length + 1) c] w (ReadN (Value.int .u64) S (some ((bigU (r.take 1) : Int), r.drop 1)) w) := by
  obtain ⟨ad, rfl, hb, hc0⟩ := hr.at_ (k := 0) (by simp)
  simp only [u8, add_zero_, List.getElem_cons_zero] at hc0
  have hlt := hS _ hb
  have hcut := hr.cut (k := 1) (cap := c) (by simp) (by simpa using hc)
  simp only [List.drop_succ_cons, List.drop_zero] at hcut
  rw [h1] at hc0
  simp only [Int.cast_ofNat_Int] at hc0
  have h3 : ¬ (r.length : Int) < 1 := by omega
  have hcut2 := hcut.cut (k := 1) (cap := c - 1) h2 (by omega)
  have hlq : bigU (r.take 1) < 256 := by
    have := bigU_lt (r.take 1)
    rw [List.length_take, Nat.min_eq_left h2] at this
    simpa using this
  obtain ⟨b1, r1, hbr⟩ : ∃ b1 r1, r = b1 :: r1 := by
    rcases r with _ | ⟨b1, r1⟩
    · simp at h2
    · exact ⟨b1, r1, rfl⟩
  obtain ⟨ad2, had2, hSb2, hcc⟩ := hcut.at_ (k := 0) (by omega)
  have hq1 : bigU (r.take 1) = r[0].toNat := by subst hbr; simp [bigU]
  rw [hq1] at hlq ⊢
  simp only [Go.Proofs.YtlnpiigdjjadiaaDoor.u8, add_zero_] at hcc
  have hcca : cutA (some ad) c 1 1 = some ad2 := had2
  rw [hcca] at hcut2
  generalize r[0].toNat = q at *
  have HC := hide hcut2
  clear hcut hr h1 hcut2 hbr hq1
  go_enter Tryd.func97, Tryd.ntmps97
  go_wp2_with (first
    | (go_at_call 82; refine (isfixint_no 204 (by omega) (by omega) _).mono ?_; rintro e w1 ⟨rfl, rfl⟩))
  go_ret3
  exact .ok (Below.refl _ _) (by simp) (by omega) (by unfold maxLen; omega) (unhide HC)
set_option maxRecDepth 100000 in
set_option maxHeartbeats 1600000 in
theorem readUint64_209s (S : Nat → Prop) (A : Option Addr) (b : UInt8) (r : List UInt8) (c : Nat) (w : World) (hE : ErrAt w) (hr : RB w S A (b :: r)) (hc : r.length + 1 ≤ c) (hcm : c ≤ 9223372036854775807) (hS : Old w S) (h1 : b.toNat = 209) (h2 : r.length < 2) :
    Calls Tryd.prog 97 #[.slice A (r.length + 1) c] w (ReadN (Value.int .u64) S none w) := by
  obtain ⟨te, ve, hce⟩ := hE
  obtain ⟨ad, rfl, hb, hc0⟩ := hr.at_ (k := 0) (by simp)
  simp only [u8, add_zero_, List.getElem_cons_zero] at hc0
  have hlt := hS _ hb
  have hcut := hr.cut (k := 1) (cap := c) (by simp) (by simpa using hc)
  simp only [List.drop_succ_cons, List.drop_zero] at hcut
  rw [h1] at hc0
  simp only [Int.cast_ofNat_Int] at hc0
  have h3 : (r.length : Int) < 2 := by omega
  clear hcut hr h1
  go_enter Tryd.func97, Tryd.ntmps97
  go_wp2_with (first
    | (go_at_call 82; refine (isfixint_no 209 (by omega) (by omega) _).mono ?_; rintro e w1 ⟨rfl, rfl⟩))
  go_ret3
  exact .err (Below.refl _ _)
set_option maxRecDepth 100000 in
set_option maxHeartbeats 3200000 in
theorem readUint64_209o (S : Nat → Prop) (A : Option Addr) (b : UInt8) (r : List UInt8) (c : Nat) (w : World) (hr : RB w S A (b :: r)) (hc : r.length + 1 ≤ c) (hcm : c ≤ 9223372036854775807) (hS : Old w S) (h1 : b.toNat = 209) (h2 : 2 ≤ r.length) (h5 : sgn 2 (bigU (r.take 2)) < 0) :
    Calls Tryd.prog 97 #[.slice A (r.length + 1) c] w (ReadN (Value.int .u64) S (none) w) := by
  obtain ⟨ad, rfl, hb, hc0⟩ := hr.at_ (k := 0) (by simp)
  simp only [u8, add_zero_, List.getElem_cons_zero] at hc0
  have hlt := hS _ hb
  have hcut := hr.cut (k := 1) (cap := c) (by simp) (by simpa using hc)
  simp only [List.drop_succ_cons, List.drop_zero] at hcut
  rw [h1] at hc0
  simp only [Int.cast_ofNat_Int] at hc0
  have h3 : ¬ (r.length : Int) < 2 := by omega
  have hcut2 := hcut.cut (k := 2) (cap := c - 1) h2 (by omega)
  obtain ⟨ad2, had2, hSb2, hcc⟩ := hcut.all_ (by omega)
  have hd0 := hcc 0 (by omega)
  have hd1 := hcc 1 (by omega)
  simp only [Go.Proofs.YtlnpiigdjjadiaaDoor.u8, add_zero_] at hd0 hd1
  have hcca : cutA (some ad) c 1 1 = some ad2 := had2
  have hlt2 := hS _ hSb2
  have hq : bigU (r.take 2) = r[0].toNat * 256 + r[1].toNat := by
    obtain ⟨b0, b1, r2, hbr⟩ : ∃ b0 b1 r2, r = b0 :: b1 :: r2 := by
      rcases r with _ | ⟨b0, _ | ⟨b1, r2⟩⟩
      · simp at h2
      · simp at h2
      · exact ⟨b0, b1, r2, rfl⟩
    subst hbr
    simp [bigU]
  have l0 := r[0].toNat_lt
  have l1 := r[1].toNat_lt
  rw [hq] at h5
  rw [hcca] at hcut2
  generalize r[0].toNat = x at *
  generalize r[1].toNat = y at *
  have hor := or16 x y l0 l1
  have hsl := sgn_lo2 (x * 256 + y) (by omega)
  generalize sgn 2 (x * 256 + y) = v at *
  have hd1' : w.cell? ⟨ad2.block, ad2.off + 1, none⟩ = some (.int .u8 (y : Int)) := hd1
  have HC := hide hcut2
  clear hcut hr h1 hcut2 hq hcc had2
  go_enter Tryd.func97, Tryd.ntmps97
  go_wp2_with (first
    | (go_at_call 82; refine (isfixint_no 209 (by omega) (by omega) _).mono ?_; rintro e w1 ⟨rfl, rfl⟩))
  go_region
  all_goals (
    go_wp2
    go_ret3
    exact .err (by repeat (first | with_reducible exact Below.refl _ _ | with_reducible exact x | with_reducible refine Below.alloc ?_ (by first | omega | (simp; omega) | (simp; done)) _ | with_reducible refine Below.setCell ?_ (by first | omega | (simp; omega) | (simp; done)) _ | with_reducible refine Below.drew ?_ | with_reducible refine below_drewN ?_ _)))
set_option maxRecDepth 100000 in
set_option maxHeartbeats 3200000 in
theorem readUint64_209k (S : Nat → Prop) (A : Option Addr) (b : UInt8) (r : List UInt8) (c : Nat) (w : World) (hr : RB w S A (b :: r)) (hc : r.length + 1 ≤ c) (hcm : c ≤ 9223372036854775807) (hS : Old w S) (h1 : b.toNat = 209) (h2 : 2 ≤ r.length) (h5 : 0 ≤ sgn 2 (bigU (r.take 2))) :
    Calls Tryd.prog 97 #[.slice A (r.length + 1) c] w (ReadN (Value.int .u64) S (some (sgn 2 (bigU (r.take 2)), r.drop 2)) w) := by
  obtain ⟨ad, rfl, hb, hc0⟩ := hr.at_ (k := 0) (by simp)
  simp only [u8, add_zero_, List.getElem_cons_zero] at hc0
  have hlt := hS _ hb
  have hcut := hr.cut (k := 1) (cap := c) (by simp) (by simpa using hc)
  simp only [List.drop_succ_cons, List.drop_zero] at hcut
  rw [h1] at hc0
  simp only [Int.cast_ofNat_Int] at hc0
  have h3 : ¬ (r.length : Int) < 2 := by omega
  have hcut2 := hcut.cut (k := 2) (cap := c - 1) h2 (by omega)
  obtain ⟨ad2, had2, hSb2, hcc⟩ := hcut.all_ (by omega)
  have hd0 := hcc 0 (by omega)
  have hd1 := hcc 1 (by omega)
  simp only [Go.Proofs.YtlnpiigdjjadiaaDoor.u8, add_zero_] at hd0 hd1
  have hcca : cutA (some ad) c 1 1 = some ad2 := had2
  have hlt2 := hS _ hSb2
  have hq : bigU (r.take 2) = r[0].toNat * 256 + r[1].toNat := by
    obtain ⟨b0, b1, r2, hbr⟩ : ∃ b0 b1 r2, r = b0 :: b1 :: r2 := by
      rcases r with _ | ⟨b0, _ | ⟨b1, r2⟩⟩
      · simp at h2
      · simp at h2
      · exact ⟨b0, b1, r2, rfl⟩
    subst hbr
    simp [bigU]
  have l0 := r[0].toNat_lt
  have l1 := r[1].toNat_lt
  rw [hq] at h5 ⊢
  rw [hcca] at hcut2
  generalize r[0].toNat = x at *
  generalize r[1].toNat = y at *
  have hor := or16 x y l0 l1
  have hsl := sgn_lo2 (x * 256 + y) (by omega)
  generalize sgn 2 (x * 256 + y) = v at *
  have hd1' : w.cell? ⟨ad2.block, ad2.off + 1, none⟩ = some (.int .u8 (y : Int)) := hd1
  have HC := hide hcut2
  clear hcut hr h1 hcut2 hq hcc had2
  go_enter Tryd.func97, Tryd.ntmps97
  go_wp2_with (first
    | (go_at_call 82; refine (isfixint_no 209 (by omega) (by omega) _).mono ?_; rintro e w1 ⟨rfl, rfl⟩))
  go_region
  all_goals (
    go_wp2
    go_ret3
    exact .ok (by repeat (first | with_reducible exact Below.refl _ _ | with_reducible exact x | with_reducible refine Below.alloc ?_ (by first | omega | (simp; omega) | (simp; done)) _ | with_reducible refine Below.setCell ?_ (by first | omega | (simp; omega) | (simp; done)) _ | with_reducible refine Below.drew ?_ | with_reducible refine below_drewN ?_ _)) (by simp) (by omega) (by unfold maxLen; omega) (unhide HC))
set_option maxRecDepth 100000 in
set_option maxHeartbeats 1600000 in
theorem readUint64_205s (S : Nat → Prop) (A : Option Addr) (b : UInt8) (r : List UInt8) (c : Nat) (w : World) (hE : ErrAt w) (hr : RB w S A (b :: r)) (hc : r.length + 1 ≤ c) (hcm : c ≤ 9223372036854775807) (hS : Old w S) (h1 : b.toNat = 205) (h2 : r.length < 2) :
    Calls Tryd.prog 97 #[.slice A (r.length + 1) c] w (ReadN (Value.int .u64) S none w) := by
  obtain ⟨te, ve, hce⟩ := hE
  obtain ⟨ad, rfl, hb, hc0⟩ := hr.at_ (k := 0) (by simp)
  simp only [u8, add_zero_, List.getElem_cons_zero] at hc0
  have hlt := hS _ hb
  have hcut := hr.cut (k := 1) (cap := c) (by simp) (by simpa using hc)
  simp only [List.drop_succ_cons, List.drop_zero] at hcut
  rw [h1] at hc0
  simp only [Int.cast_ofNat_Int] at hc0
  have h3 : (r.length : Int) < 2 := by omega
  clear hcut hr h1
  go_enter Tryd.func97, Tryd.ntmps97
  go_wp2_with (first
    | (go_at_call 82; refine (isfixint_no 205 (by omega) (by omega) _).mono ?_; rintro e w1 ⟨rfl, rfl⟩))
  go_ret3
  exact .err (Below.refl _ _)
set_option maxRecDepth 100000 in
set_option maxHeartbeats 3200000 in
theorem readUint64_205k (S : Nat → Prop) (A : Option Addr) (b : UInt8) (r : List UInt8) (c : Nat) (w : World) (hr : RB w S A (b :: r)) (hc : r.length + 1 ≤ c) (hcm : c ≤ 9223372036854775807) (hS : Old w S) (h1 : b.toNat = 205) (h2 : 2 ≤ r.length) :
    Calls Tryd.prog 97 #[.slice A (r.length + 1) c] w (ReadN (Value.int .u64) S (some ((bigU (r.take 2) : Int), r.drop 2)) w) := by
  obtain ⟨ad, rfl, hb, hc0⟩ := hr.at_ (k := 0) (by simp)
  simp only [u8, add_zero_, List.getElem_cons_zero] at hc0
  have hlt := hS _ hb
  have hcut := hr.cut (k := 1) (cap := c) (by simp) (by simpa using hc)
  simp only [List.drop_succ_cons, List.drop_zero] at hcut
  rw [h1] at hc0
  simp only [Int.cast_ofNat_Int] at hc0
  have h3 : ¬ (r.length : Int) < 2 := by omega
  have hcut2 := hcut.cut (k := 2) (cap := c - 1) h2 (by omega)
  have hlq : bigU (r.take 2) < 65536 := by
    have := bigU_lt (r.take 2)
    rw [List.length_take, Nat.min_eq_left h2] at this
    simpa using this
  have hBE := beu16_any S (cutA (some ad) c 1 1) r r.length (c - 1) w rfl h2 hcut hS
  generalize bigU (r.take 2) = q at *
  have HC := hide hcut2
  have HB := hide hBE
  clear hcut hr h1 hcut2 hBE
  go_enter Tryd.func97, Tryd.ntmps97
  go_wp2_with (first
    | (go_at_call 82; refine (isfixint_no 205 (by omega) (by omega) _).mono ?_; rintro e w1 ⟨rfl, rfl⟩)
    | (go_at_call 62; refine (unhide HB).mono ?_; rintro e w1 ⟨rfl, hb1⟩))
  go_ret3
  exact .ok hb1 (by simp) (by omega) (by unfold maxLen; omega) ((unhide HC).keep (stays_below (Stays.refl _ _) hb1 hS))
set_option maxRecDepth 100000 in
set_option maxHeartbeats 1600000 in
theorem readUint64_210s (S : Nat → Prop) (A : Option Addr) (b : UInt8) (r : List UInt8) (c : Nat) (w : World) (hE : ErrAt w) (hr : RB w S A (b :: r)) (hc : r.length + 1 ≤ c) (hcm : c ≤ 9223372036854775807) (hS : Old w S) (h1 : b.toNat = 210) (h2 : r.length < 4) :
    Calls Tryd.prog 97 #[.slice A (r.length + 1) c] w (ReadN (Value.int .u64) S none w) := by
  obtain ⟨te, ve, hce⟩ := hE
  obtain ⟨ad, rfl, hb, hc0⟩ := hr.at_ (k := 0) (by simp)
  simp only [u8, add_zero_, List.getElem_cons_zero] at hc0
  have hlt := hS _ hb
  have hcut := hr.cut (k := 1) (cap := c) (by simp) (by simpa using hc)
  simp only [List.drop_succ_cons, List.drop_zero] at hcut
  rw [h1] at hc0
  simp only [Int.cast_ofNat_Int] at hc0
  have h3 : (r.length : Int) < 4 := by omega
  clear hcut hr h1
  go_enter Tryd.func97, Tryd.ntmps97
  go_wp2_with (first
    | (go_at_call 82; refine (isfixint_no 210 (by omega) (by omega) _).mono ?_; rintro e w1 ⟨rfl, rfl⟩))
  go_ret3
  exact .err (Below.refl _ _)
set_option maxRecDepth 100000 in
set_option maxHeartbeats 3200000 in
theorem readUint64_210o (S : Nat → Prop) (A : Option Addr) (b : UInt8) (r : List UInt8) (c : Nat) (w : World) (hr : RB w S A (b :: r)) (hc : r.length + 1 ≤ c) (hcm : c ≤ 9223372036854775807) (hS : Old w S) (h1 : b.toNat = 210) (h2 : 4 ≤ r.length) (h5 : sgn 4 (bigU (r.take 4)) < 0) :
    Calls Tryd.prog 97 #[.slice A (r.length + 1) c] w (ReadN (Value.int .u64) S (none) w) := by
  obtain ⟨ad, rfl, hb, hc0⟩ := hr.at_ (k := 0) (by simp)
  simp only [u8, add_zero_, List.getElem_cons_zero] at hc0
  have hlt := hS _ hb
  have hcut := hr.cut (k := 1) (cap := c) (by simp) (by simpa using hc)
  simp only [List.drop_succ_cons, List.drop_zero] at hcut
  rw [h1] at hc0
  simp only [Int.cast_ofNat_Int] at hc0
  have h3 : ¬ (r.length : Int) < 4 := by omega
  have hcut2 := hcut.cut (k := 4) (cap := c - 1) h2 (by omega)
  have hlq : bigU (r.take 4) < 4294967296 := by
    have := bigU_lt (r.take 4)
    rw [List.length_take, Nat.min_eq_left h2] at this
    simpa using this
  have hBE := beu32_any S (cutA (some ad) c 1 1) r r.length (c - 1) w rfl h2 hcut hS
  generalize bigU (r.take 4) = q at *
  have hsg := sgn4 q hlq
  have hsl := sgn_lo4 q hlq
  generalize sgn 4 q = v at *
  have HC := hide hcut2
  have HB := hide hBE
  clear hcut hr h1 hcut2 hBE
  go_enter Tryd.func97, Tryd.ntmps97
  go_wp2_with (first
    | (go_at_call 82; refine (isfixint_no 210 (by omega) (by omega) _).mono ?_; rintro e w1 ⟨rfl, rfl⟩)
    | (go_at_call 63; refine (unhide HB).mono ?_; rintro e w1 ⟨rfl, hb1⟩))
  go_ret3
  exact .err hb1
set_option maxRecDepth 100000 in
set_option maxHeartbeats 3200000 in
theorem readUint64_210k (S : Nat → Prop) (A : Option Addr) (b : UInt8) (r : List UInt8) (c : Nat) (w : World) (hr : RB w S A (b :: r)) (hc : r.length + 1 ≤ c) (hcm : c ≤ 9223372036854775807) (hS : Old w S) (h1 : b.toNat = 210) (h2 : 4 ≤ r.length) (h5 : 0 ≤ sgn 4 (bigU (r.take 4))) :
    Calls Tryd.prog 97 #[.slice A (r.length + 1) c] w (ReadN (Value.int .u64) S (some (sgn 4 (bigU (r.take 4)), r.drop 4)) w) := by
  obtain ⟨ad, rfl, hb, hc0⟩ := hr.at_ (k := 0) (by simp)
  simp only [u8, add_zero_, List.getElem_cons_zero] at hc0
  have hlt := hS _ hb
  have hcut := hr.cut (k := 1) (cap := c) (by simp) (by simpa using hc)
  simp only [List.drop_succ_cons, List.drop_zero] at hcut
  rw [h1] at hc0
  simp only [Int.cast_ofNat_Int] at hc0
  have h3 : ¬ (r.length : Int) < 4 := by omega
  have hcut2 := hcut.cut (k := 4) (cap := c - 1) h2 (by omega)
  have hlq : bigU (r.take 4) < 4294967296 := by
    have := bigU_lt (r.take 4)
    rw [List.length_take, Nat.min_eq_left h2] at this
    simpa using this
  have hBE := beu32_any S (cutA (some ad) c 1 1) r r.length (c - 1) w rfl h2 hcut hS
  generalize bigU (r.take 4) = q at *
  have hsg := sgn4 q hlq
  have hsl := sgn_lo4 q hlq
  generalize sgn 4 q = v at *
  have HC := hide hcut2
  have HB := hide hBE
  clear hcut hr h1 hcut2 hBE
  go_enter Tryd.func97, Tryd.ntmps97
  go_wp2_with (first
    | (go_at_call 82; refine (isfixint_no 210 (by omega) (by omega) _).mono ?_; rintro e w1 ⟨rfl, rfl⟩)
    | (go_at_call 63; refine (unhide HB).mono ?_; rintro e w1 ⟨rfl, hb1⟩))
  go_ret3
  exact .ok hb1 (by simp) (by omega) (by unfold maxLen; omega) ((unhide HC).keep (stays_below (Stays.refl _ _) hb1 hS))
set_option maxRecDepth 100000 in
set_option maxHeartbeats 1600000 in
theorem readUint64_206s (S : Nat → Prop) (A : Option Addr) (b : UInt8) (r : List UInt8) (c : Nat) (w : World) (hE : ErrAt w) (hr : RB w S A (b :: r)) (hc : r.length + 1 ≤ c) (hcm : c ≤ 9223372036854775807) (hS : Old w S) (h1 : b.toNat = 206) (h2 : r.length < 4) :
    Calls Tryd.prog 97 #[.slice A (r.length + 1) c] w (ReadN (Value.int .u64) S none w) := by
  obtain ⟨te, ve, hce⟩ := hE
  obtain ⟨ad, rfl, hb, hc0⟩ := hr.at_ (k := 0) (by simp)
  simp only [u8, add_zero_, List.getElem_cons_zero] at hc0
  have hlt := hS _ hb
  have hcut := hr.cut (k := 1) (cap := c) (by simp) (by simpa using hc)
  simp only [List.drop_succ_cons, List.drop_zero] at hcut
  rw [h1] at hc0
  simp only [Int.cast_ofNat_Int] at hc0
  have h3 : (r.length : Int) < 4 := by omega
  clear hcut hr h1
  go_enter Tryd.func97, Tryd.ntmps97
  go_wp2_with (first
    | (go_at_call 82; refine (isfixint_no 206 (by omega) (by omega) _).mono ?_; rintro e w1 ⟨rfl, rfl⟩))
  go_ret3
  exact .err (Below.refl _ _)
set_option maxRecDepth 100000 in
set_option maxHeartbeats 3200000 in
theorem readUint64_206k (S : Nat → Prop) (A : Option Addr) (b : UInt8) (r : List UInt8) (c : Nat) (w : World) (hr : RB w S A (b :: r)) (hc : r.length + 1 ≤ c) (hcm : c ≤ 9223372036854775807) (hS : Old w S) (h1 : b.toNat = 206) (h2 : 4 ≤ r.length) :
    Calls Tryd.prog 97 #[.slice A (r.length + 1) c] w (ReadN (Value.int .u64) S (some ((bigU (r.take 4) : Int), r.drop 4)) w) := by
  obtain ⟨ad, rfl, hb, hc0⟩ := hr.at_ (k := 0) (by simp)
  simp only [u8, add_zero_, List.getElem_cons_zero] at hc0
  have hlt := hS _ hb
  have hcut := hr.cut (k := 1) (cap := c) (by simp) (by simpa using hc)
  simp only [List.drop_succ_cons, List.drop_zero] at hcut
  rw [h1] at hc0
  simp only [Int.cast_ofNat_Int] at hc0
  have h3 : ¬ (r.length : Int) < 4 := by omega
  have hcut2 := hcut.cut (k := 4) (cap := c - 1) h2 (by omega)
  have hlq : bigU (r.take 4) < 4294967296 := by
    have := bigU_lt (r.take 4)
    rw [List.length_take, Nat.min_eq_left h2] at this
    simpa using this
  have hBE := beu32_any S (cutA (some ad) c 1 1) r r.length (c - 1) w rfl h2 hcut hS
  generalize bigU (r.take 4) = q at *
  have HC := hide hcut2
  have HB := hide hBE
  clear hcut hr h1 hcut2 hBE
  go_enter Tryd.func97, Tryd.ntmps97
  go_wp2_with (first
    | (go_at_call 82; refine (isfixint_no 206 (by omega) (by omega) _).mono ?_; rintro e w1 ⟨rfl, rfl⟩)
    | (go_at_call 63; refine (unhide HB).mono ?_; rintro e w1 ⟨rfl, hb1⟩))
  go_ret3
  exact .ok hb1 (by simp) (by omega) (by unfold maxLen; omega) ((unhide HC).keep (stays_below (Stays.refl _ _) hb1 hS))
set_option maxRecDepth 100000 in
set_option maxHeartbeats 1600000 in
theorem readUint64_211s (S : Nat → Prop) (A : Option Addr) (b : UInt8) (r : List UInt8) (c : Nat) (w : World) (hE : ErrAt w) (hr : RB w S A (b :: r)) (hc : r.length + 1 ≤ c) (hcm : c ≤ 9223372036854775807) (hS : Old w S) (h1 : b.toNat = 211) (h2 : r.length < 8) :
    Calls Tryd.prog 97 #[.slice A (r.length + 1) c] w (ReadN (Value.int .u64) S none w) := by
  obtain ⟨te, ve, hce⟩ := hE
  obtain ⟨ad, rfl, hb, hc0⟩ := hr.at_ (k := 0) (by simp)
  simp only [u8, add_zero_, List.getElem_cons_zero] at hc0
  have hlt := hS _ hb
  have hcut := hr.cut (k := 1) (cap := c) (by simp) (by simpa using hc)
  simp only [List.drop_succ_cons, List.drop_zero] at hcut
  rw [h1] at hc0
  simp only [Int.cast_ofNat_Int] at hc0
  have h3 : (r.length : Int) < 8 := by omega
  clear hcut hr h1
  go_enter Tryd.func97, Tryd.ntmps97
  go_wp2_with (first
    | (go_at_call 82; refine (isfixint_no 211 (by omega) (by omega) _).mono ?_; rintro e w1 ⟨rfl, rfl⟩))
  go_ret3
  exact .err (Below.refl _ _)
set_option maxRecDepth 100000 in
set_option maxHeartbeats 3200000 in
theorem readUint64_211o (S : Nat → Prop) (A : Option Addr) (b : UInt8) (r : List UInt8) (c : Nat) (w : World) (hr : RB w S A (b :: r)) (hc : r.length + 1 ≤ c) (hcm : c ≤ 9223372036854775807) (hS : Old w S) (h1 : b.toNat = 211) (h2 : 8 ≤ r.length) (h5 : sgn 8 (bigU (r.take 8)) < 0) :
    Calls Tryd.prog 97 #[.slice A (r.length + 1) c] w (ReadN (Value.int .u64) S (none) w) := by
  obtain ⟨ad, rfl, hb, hc0⟩ := hr.at_ (k := 0) (by simp)
  simp only [u8, add_zero_, List.getElem_cons_zero] at hc0
  have hlt := hS _ hb
  have hcut := hr.cut (k := 1) (cap := c) (by simp) (by simpa using hc)
  simp only [List.drop_succ_cons, List.drop_zero] at hcut
  rw [h1] at hc0
  simp only [Int.cast_ofNat_Int] at hc0
  have h3 : ¬ (r.length : Int) < 8 := by omega
  have hcut2 := hcut.cut (k := 8) (cap := c - 1) h2 (by omega)
  have hlq : bigU (r.take 8) < 18446744073709551616 := by
    have := bigU_lt (r.take 8)
    rw [List.length_take, Nat.min_eq_left h2] at this
    simpa using this
  have hBE := beu64_any S (cutA (some ad) c 1 1) r r.length (c - 1) w rfl h2 hcut hS
  generalize bigU (r.take 8) = q at *
  have hsg := sgn8 q hlq
  have hsl := sgn_lo 8 q (by omega) hlq
  generalize sgn 8 q = v at *
  have HC := hide hcut2
  have HB := hide hBE
  clear hcut hr h1 hcut2 hBE
  go_enter Tryd.func97, Tryd.ntmps97
  go_wp2_with (first
    | (go_at_call 82; refine (isfixint_no 211 (by omega) (by omega) _).mono ?_; rintro e w1 ⟨rfl, rfl⟩)
    | (go_at_call 86; refine (unhide HB).mono ?_; rintro e w1 ⟨rfl, hb1⟩))
  go_ret3
  exact .err hb1
set_option maxRecDepth 100000 in
set_option maxHeartbeats 3200000 in
theorem readUint64_211k (S : Nat → Prop) (A : Option Addr) (b : UInt8) (r : List UInt8) (c : Nat) (w : World) (hr : RB w S A (b :: r)) (hc : r.length + 1 ≤ c) (hcm : c ≤ 9223372036854775807) (hS : Old w S) (h1 : b.toNat = 211) (h2 : 8 ≤ r.length) (h5 : 0 ≤ sgn 8 (bigU (r.take 8))) :
    Calls Tryd.prog 97 #[.slice A (r.length + 1) c] w (ReadN (Value.int .u64) S (some (sgn 8 (bigU (r.take 8)), r.drop 8)) w) := by
  obtain ⟨ad, rfl, hb, hc0⟩ := hr.at_ (k := 0) (by simp)
  simp only [u8, add_zero_, List.getElem_cons_zero] at hc0
  have hlt := hS _ hb
  have hcut := hr.cut (k := 1) (cap := c) (by simp) (by simpa using hc)
  simp only [List.drop_succ_cons, List.drop_zero] at hcut
  rw [h1] at hc0
  simp only [Int.cast_ofNat_Int] at hc0
  have h3 : ¬ (r.length : Int) < 8 := by omega
  have hcut2 := hcut.cut (k := 8) (cap := c - 1) h2 (by omega)
  have hlq : bigU (r.take 8) < 18446744073709551616 := by
    have := bigU_lt (r.take 8)
    rw [List.length_take, Nat.min_eq_left h2] at this
    simpa using this
  have hBE := beu64_any S (cutA (some ad) c 1 1) r r.length (c - 1) w rfl h2 hcut hS
  generalize bigU (r.take 8) = q at *
  have hsg := sgn8 q hlq
  have hsl := sgn_lo 8 q (by omega) hlq
  generalize sgn 8 q = v at *
  have HC := hide hcut2
  have HB := hide hBE
  clear hcut hr h1 hcut2 hBE
  go_enter Tryd.func97, Tryd.ntmps97
  go_wp2_with (first
    | (go_at_call 82; refine (isfixint_no 211 (by omega) (by omega) _).mono ?_; rintro e w1 ⟨rfl, rfl⟩)
    | (go_at_call 86; refine (unhide HB).mono ?_; rintro e w1 ⟨rfl, hb1⟩))
  go_ret3
  exact .ok hb1 (by simp) (by omega) (by unfold maxLen; omega) ((unhide HC).keep (stays_below (Stays.refl _ _) hb1 hS))
set_option maxRecDepth 100000 in
set_option maxHeartbeats 1600000 in
theorem readUint64_207s (S : Nat → Prop) (A : Option Addr) (b : UInt8) (r : List UInt8) (c : Nat) (w : World) (hE : ErrAt w) (hr : RB w S A (b :: r)) (hc : r.length + 1 ≤ c) (hcm : c ≤ 9223372036854775807) (hS : Old w S) (h1 : b.toNat = 207) (h2 : r.length < 8) :
    Calls Tryd.prog 97 #[.slice A (r.length + 1) c] w (ReadN (Value.int .u64) S none w) := by
  obtain ⟨te, ve, hce⟩ := hE
  obtain ⟨ad, rfl, hb, hc0⟩ := hr.at_ (k := 0) (by simp)
  simp only [u8, add_zero_, List.getElem_cons_zero] at hc0
  have hlt := hS _ hb
  have hcut := hr.cut (k := 1) (cap := c) (by simp) (by simpa using hc)
  simp only [List.drop_succ_cons, List.drop_zero] at hcut
  rw [h1] at hc0
  simp only [Int.cast_ofNat_Int] at hc0
  have h3 : (r.length : Int) < 8 := by omega
  clear hcut hr h1
  go_enter Tryd.func97, Tryd.ntmps97
  go_wp2_with (first
    | (go_at_call 82; refine (isfixint_no 207 (by omega) (by omega) _).mono ?_; rintro e w1 ⟨rfl, rfl⟩))
  go_ret3
  exact .err (Below.refl _ _)
set_option maxRecDepth 100000 in
set_option maxHeartbeats 3200000 in
theorem readUint64_207k (S : Nat → Prop) (A : Option Addr) (b : UInt8) (r : List UInt8) (c : Nat) (w : World) (hr : RB w S A (b :: r)) (hc : r.length + 1 ≤ c) (hcm : c ≤ 9223372036854775807) (hS : Old w S) (h1 : b.toNat = 207) (h2 : 8 ≤ r.length) :
    Calls Tryd.prog 97 #[.slice A (r.length + 1) c] w (ReadN (Value.int .u64) S (some ((bigU (r.take 8) : Int), r.drop 8)) w) := by
  obtain ⟨ad, rfl, hb, hc0⟩ := hr.at_ (k := 0) (by simp)
  simp only [u8, add_zero_, List.getElem_cons_zero] at hc0
  have hlt := hS _ hb
  have hcut := hr.cut (k := 1) (cap := c) (by simp) (by simpa using hc)
  simp only [List.drop_succ_cons, List.drop_zero] at hcut
  rw [h1] at hc0
  simp only [Int.cast_ofNat_Int] at hc0
  have h3 : ¬ (r.length : Int) < 8 := by omega
  have hcut2 := hcut.cut (k := 8) (cap := c - 1) h2 (by omega)
  have hlq : bigU (r.take 8) < 18446744073709551616 := by
    have := bigU_lt (r.take 8)
    rw [List.length_take, Nat.min_eq_left h2] at this
    simpa using this
  have hBE := beu64_any S (cutA (some ad) c 1 1) r r.length (c - 1) w rfl h2 hcut hS
  generalize bigU (r.take 8) = q at *
  have HC := hide hcut2
  have HB := hide hBE
  clear hcut hr h1 hcut2 hBE
  go_enter Tryd.func97, Tryd.ntmps97
  go_wp2_with (first
    | (go_at_call 82; refine (isfixint_no 207 (by omega) (by omega) _).mono ?_; rintro e w1 ⟨rfl, rfl⟩)
    | (go_at_call 86; refine (unhide HB).mono ?_; rintro e w1 ⟨rfl, hb1⟩))
  go_ret3
  exact .ok hb1 (by simp) (by omega) (by unfold maxLen; omega) ((unhide HC).keep (stays_below (Stays.refl _ _) hb1 hS))
set_option maxRecDepth 100000 in
set_option maxHeartbeats 1600000 in
theorem readUint64_bad (S : Nat → Prop) (A : Option Addr) (b : UInt8) (r : List UInt8) (c : Nat) (w : World) (hr : RB w S A (b :: r)) (hc : r.length + 1 ≤ c) (hcm : c ≤ 9223372036854775807) (hS : Old w S) (hlo : ¬ b.toNat < 128) (h208 : b.toNat ≠ 208) (h204 : b.toNat ≠ 204) (h209 : b.toNat ≠ 209) (h205 : b.toNat ≠ 205) (h210 : b.toNat ≠ 210) (h206 : b.toNat ≠ 206) (h211 : b.toNat ≠ 211) (h207 : b.toNat ≠ 207) :
    Calls Tryd.prog 97 #[.slice A (r.length + 1) c] w (ReadN (Value.int .u64) S none w) := by
  obtain ⟨ad, rfl, hb, hc0⟩ := hr.at_ (k := 0) (by simp)
  simp only [u8, add_zero_, List.getElem_cons_zero] at hc0
  have hlt := hS _ hb
  have hcut := hr.cut (k := 1) (cap := c) (by simp) (by simpa using hc)
  simp only [List.drop_succ_cons, List.drop_zero] at hcut
  have hv := b.toNat_lt
  generalize b.toNat = x at *
  have e208 : ((x : Int) == 208) = false := by simp; omega
  have e204 : ((x : Int) == 204) = false := by simp; omega
  have e209 : ((x : Int) == 209) = false := by simp; omega
  have e205 : ((x : Int) == 205) = false := by simp; omega
  have e210 : ((x : Int) == 210) = false := by simp; omega
  have e206 : ((x : Int) == 206) = false := by simp; omega
  have e211 : ((x : Int) == 211) = false := by simp; omega
  have e207 : ((x : Int) == 207) = false := by simp; omega
  clear hcut hr h208 h204 h209 h205 h210 h206 h211 h207
  by_cases hhi : 224 ≤ x
  · go_enter Tryd.func97, Tryd.ntmps97
    go_wp2_with (first
      | (go_at_call 82; refine (isfixint_no x (by omega) hv _).mono ?_; rintro e w1 ⟨rfl, rfl⟩)
      | (go_at_call 84; refine (isnfixint_yes x hhi hv _).mono ?_; rintro e w1 ⟨rfl, rfl⟩)
      | (go_at_call 85; refine (rnfixint_any x hhi hv _).mono ?_; rintro e w1 ⟨rfl, rfl⟩))
    go_ret3
    exact .err (by repeat (first | with_reducible exact Below.refl _ _ | with_reducible exact x | with_reducible refine Below.alloc ?_ (by first | omega | (simp; omega) | (simp; done)) _ | with_reducible refine Below.setCell ?_ (by first | omega | (simp; omega) | (simp; done)) _ | with_reducible refine Below.drew ?_ | with_reducible refine below_drewN ?_ _))
  · go_enter Tryd.func97, Tryd.ntmps97
    go_wp2_with (first
      | (go_at_call 82; refine (isfixint_no x (by omega) hv _).mono ?_; rintro e w1 ⟨rfl, rfl⟩)
      | (go_at_call 84; refine (isnfixint_no x (by omega) _).mono ?_; rintro e w1 ⟨rfl, rfl⟩)
      | (go_at_call 64; refine (badPrefix_any _ x hv _).mono ?_; rintro e w1 ⟨te, ve, rfl, hb1⟩))
    go_ret3
    exact .err hb1
theorem readUint64_any (S : Nat → Prop) (A : Option Addr) (bs : List UInt8) (n c : Nat) (w : World) (hE : ErrAt w) (hn : n = bs.length) (hr : RB w S A bs) (hc : n ≤ c) (hcm : c ≤ 9223372036854775807) (hS : Old w S) :
    Calls Tryd.prog 97 #[.slice A n c] w (ReadN (Value.int .u64) S (uint64R bs) w) := by
  subst hn
  rcases bs with _ | ⟨b, r⟩
  · exact readUint64_nil S A c w hE
  simp only [List.length_cons] at hc ⊢
  simp only [uint64R]
  by_cases hlo : b.toNat < 128
  · rw [if_pos hlo]
    exact readUint64_lo S A b r c w hr hc hcm hS hlo
  rw [if_neg hlo]
  unfold uint64RC
  by_cases h208 : b.toNat = 208
  · rw [if_pos h208]
    by_cases hs : r.length < 1
    · rw [if_pos hs]
      exact readUint64_208s S A b r c w hE hr hc hcm hS h208 hs
    · rw [if_neg hs]
      by_cases ho : sgn 1 (bigU (r.take 1)) < 0
      · rw [if_pos ho]
        exact readUint64_208o S A b r c w hr hc hcm hS h208 (by omega) ho
      · rw [if_neg ho]
        exact readUint64_208k S A b r c w hr hc hcm hS h208 (by omega) (by omega)
  rw [if_neg h208]
  by_cases h204 : b.toNat = 204
  · rw [if_pos h204]
    by_cases hs : r.length < 1
    · rw [if_pos hs]
      exact readUint64_204s S A b r c w hE hr hc hcm hS h204 hs
    · rw [if_neg hs]
      exact readUint64_204k S A b r c w hr hc hcm hS h204 (by omega)
  rw [if_neg h204]
  by_cases h209 : b.toNat = 209
  · rw [if_pos h209]
    by_cases hs : r.length < 2
    · rw [if_pos hs]
      exact readUint64_209s S A b r c w hE hr hc hcm hS h209 hs
    · rw [if_neg hs]
      by_cases ho : sgn 2 (bigU (r.take 2)) < 0
      · rw [if_pos ho]
        exact readUint64_209o S A b r c w hr hc hcm hS h209 (by omega) ho
      · rw [if_neg ho]
        exact readUint64_209k S A b r c w hr hc hcm hS h209 (by omega) (by omega)
  rw [if_neg h209]
  by_cases h205 : b.toNat = 205
  · rw [if_pos h205]
    by_cases hs : r.length < 2
    · rw [if_pos hs]
      exact readUint64_205s S A b r c w hE hr hc hcm hS h205 hs
    · rw [if_neg hs]
      exact readUint64_205k S A b r c w hr hc hcm hS h205 (by omega)
  rw [if_neg h205]
  by_cases h210 : b.toNat = 210
  · rw [if_pos h210]
    by_cases hs : r.length < 4
    · rw [if_pos hs]
      exact readUint64_210s S A b r c w hE hr hc hcm hS h210 hs
    · rw [if_neg hs]
      by_cases ho : sgn 4 (bigU (r.take 4)) < 0
      · rw [if_pos ho]
        exact readUint64_210o S A b r c w hr hc hcm hS h210 (by omega) ho
      · rw [if_neg ho]
        exact readUint64_210k S A b r c w hr hc hcm hS h210 (by omega) (by omega)
  rw [if_neg h210]
  by_cases h206 : b.toNat = 206
  · rw [if_pos h206]
    by_cases hs : r.length < 4
    · rw [if_pos hs]
      exact readUint64_206s S A b r c w hE hr hc hcm hS h206 hs
    · rw [if_neg hs]
      exact readUint64_206k S A b r c w hr hc hcm hS h206 (by omega)
  rw [if_neg h206]
  by_cases h211 : b.toNat = 211
  · rw [if_pos h211]
    by_cases hs : r.length < 8
    · rw [if_pos hs]
      exact readUint64_211s S A b r c w hE hr hc hcm hS h211 hs
    · rw [if_neg hs]
      by_cases ho : sgn 8 (bigU (r.take 8)) < 0
      · rw [if_pos ho]
        exact readUint64_211o S A b r c w hr hc hcm hS h211 (by omega) ho
      · rw [if_neg ho]
        exact readUint64_211k S A b r c w hr hc hcm hS h211 (by omega) (by omega)
  rw [if_neg h211]
  by_cases h207 : b.toNat = 207
  · rw [if_pos h207]
    by_cases hs : r.length < 8
    · rw [if_pos hs]
      exact readUint64_207s S A b r c w hE hr hc hcm hS h207 hs
    · rw [if_neg hs]
      exact readUint64_207k S A b r c w hr hc hcm hS h207 (by omega)
  rw [if_neg h207]
  exact readUint64_bad S A b r c w hr hc hcm hS hlo h208 h204 h209 h205 h210 h206 h211 h207
end Go.Proofs.YtlnpiigdjjadiaaDoor

/-
  msgp.ReadUint8Bytes, impl.GetUint8. Conditions: msgp.ErrShortBytes is not nil.
-/
namespace Go.Proofs.YtlnpiigdjjadiaaDoor
set_option linter.unusedSimpArgs false
set_option linter.unusedVariables false
open Go.RowKit
def uint8V (bs : List UInt8) : Option (Value × List UInt8) :=
  match uint64R bs with
  | none => none
  | some (i, r) => if 255 < i then none else some (.int .u8 i, r)
theorem uint8V_le (bs : List UInt8) : ∀ v r, uint8V bs = some (v, r) → r.length ≤ bs.length := by
  intro v r h
  unfold uint8V at h
  have hl := uint64R_le bs
  generalize uint64R bs = q at *
  rcases q with _ | ⟨i, s⟩
  · cases h
  · dsimp only at h
    split at h
    · cases h
    · obtain ⟨_, rfl⟩ := Prod.mk.inj (Option.some.inj h)
      exact hl _ _ rfl
set_option maxRecDepth 100000 in
set_option maxHeartbeats 1600000 in
theorem readUint8_any (S : Nat → Prop) (A : Option Addr) (bs : List UInt8) (n c : Nat) (w : World) (hE : ErrAt w) (hn : n = bs.length) (hr : RB w S A bs) (hc : n ≤ c) (hcm : c ≤ 9223372036854775807) (hS : Old w S) :
    Calls Tryd.prog 68 #[.slice A n c] w (ReadV S (uint8V bs) w) := by
  have hR := readUint64_any S A bs n c w hE hn hr hc hcm hS
  unfold uint8V
  clear hn hr
  have hnn := uint64R_nn bs
  generalize uint64R bs = q at *
  rcases q with _ | ⟨i, s⟩
  · have HR := hide hR
    clear hR
    dsimp only
    go_enter Tryd.func68, Tryd.ntmps68
    go_wp2_with fail
    refine (unhide HR).mono ?_
    rintro e w1 ⟨hb1, A1, n1, c1, te, ve, rfl⟩
    go_wp2
    go_ret3
    exact .err hb1
  · have HR := hide hR
    clear hR
    dsimp only
    have hi0 := hnn _ _ rfl
    clear hnn
    by_cases hi : 255 < i
    · rw [if_pos hi]
      go_enter Tryd.func68, Tryd.ntmps68
      go_wp2_with fail
      refine (unhide HR).mono ?_
      rintro e w1 ⟨hb1, A1, n1, c1, rfl, hn1, hc1, hm1, hr1⟩
      have HR1 := hide hr1
      have HN1 := hide hn1
      clear hr1 hn1
      go_wp2
      go_ret3
      exact .err hb1
    · rw [if_neg (by omega)]
      go_enter Tryd.func68, Tryd.ntmps68
      go_wp2_with fail
      refine (unhide HR).mono ?_
      rintro e w1 ⟨hb1, A1, n1, c1, rfl, hn1, hc1, hm1, hr1⟩
      have HR1 := hide hr1
      have HN1 := hide hn1
      clear hr1 hn1
      go_wp2
      go_ret3
      exact .ok hb1 (unhide HN1) hc1 hm1 (unhide HR1)
theorem readByte_any (S : Nat → Prop) (A : Option Addr) (bs : List UInt8) (n c : Nat) (w : World) (hE : ErrAt w) (hn : n = bs.length) (hr : RB w S A bs) (hc : n ≤ c) (hcm : c ≤ 9223372036854775807) (hS : Old w S) :
    Calls Tryd.prog 47 #[.slice A n c] w (ReadV S (uint8V bs) w) := by
  have hR := readUint8_any S A bs n c w hE hn hr hc hcm hS
  clear hn hr
  generalize uint8V bs = q at *
  rcases q with _ | ⟨i, s⟩
  · have HR := hide hR
    clear hR
    go_enter Tryd.func47, Tryd.ntmps47
    go_wp2_with fail
    refine (unhide HR).mono ?_
    rintro e w1 ⟨hb1, v1, A1, n1, c1, te, ve, rfl⟩
    go_wp2
    go_ret3
    exact .err hb1
  · have HR := hide hR
    clear hR
    go_enter Tryd.func47, Tryd.ntmps47
    go_wp2_with fail
    refine (unhide HR).mono ?_
    rintro e w1 ⟨hb1, A1, n1, c1, rfl, hn1, hc1, hm1, hr1⟩
    have HR1 := hide hr1
    have HN1 := hide hn1
    clear hr1 hn1
    go_wp2
    go_ret3
    exact .ok hb1 (unhide HN1) hc1 hm1 (unhide HR1)
end Go.Proofs.YtlnpiigdjjadiaaDoor

/-
  msgp.ReadInt64Bytes. Conditions: msgp.ErrShortBytes is not nil.
-/
namespace Go.Proofs.YtlnpiigdjjadiaaDoor
set_option linter.unusedSimpArgs false
set_option linter.unusedVariables false
open Go.RowKit
def int64RC (b : Nat) (r : List UInt8) : Option (Int × List UInt8) :=
  if b = 208 then (if r.length < 1 then none else some (sgn 1 (bigU (r.take 1)), r.drop 1)) else
  if b = 204 then (if r.length < 1 then none else some ((bigU (r.take 1) : Int), r.drop 1)) else
  if b = 209 then (if r.length < 2 then none else some (sgn 2 (bigU (r.take 2)), r.drop 2)) else
  if b = 205 then (if r.length < 2 then none else some ((bigU (r.take 2) : Int), r.drop 2)) else
  if b = 210 then (if r.length < 4 then none else some (sgn 4 (bigU (r.take 4)), r.drop 4)) else
  if b = 206 then (if r.length < 4 then none else some ((bigU (r.take 4) : Int), r.drop 4)) else
  if b = 211 then (if r.length < 8 then none else some (sgn 8 (bigU (r.take 8)), r.drop 8)) else
  if b = 207 then (if r.length < 8 then none else if 9223372036854775807 < bigU (r.take 8) then none else some ((bigU (r.take 8) : Int), r.drop 8)) else none
def int64R : List UInt8 → Option (Int × List UInt8)
  | [] => none
  | b :: r => if b.toNat < 128 then some ((b.toNat : Int), r) else if 224 ≤ b.toNat then some ((b.toNat : Int) - 256, r) else int64RC b.toNat r
theorem int64R_le (bs : List UInt8) : ∀ v r, int64R bs = some (v, r) → r.length ≤ bs.length := by
  intro v r h
  refine LeO.get (v := v) (r := r) ?_ h
  rcases bs with _ | ⟨b, t⟩
  · trivial
  · have ht : t.length ≤ (b :: t).length := Nat.le_succ _
    unfold int64R int64RC
    dsimp only
    repeat' (with_reducible refine LeO.ite ?_ ?_)
    all_goals first
      | exact LeO.none_
      | exact LeO.some_ ht
      | exact LeO.some_ (Nat.le_trans (by rw [List.length_drop]; omega) ht)
set_option maxRecDepth 100000 in
set_option maxHeartbeats 800000 in
theorem readInt64_nil (S : Nat → Prop) (A : Option Addr) (c : Nat) (w : World) (hE : ErrAt w) :
    Calls Tryd.prog 65 #[.slice A 0 c] w (ReadN (Value.int .i64) S none w) := by
  obtain ⟨te, ve, hce⟩ := hE
  go_enter Tryd.func65, Tryd.ntmps65
  go_wp2
  go_region
  go_wp2
  go_ret3
  exact .err (Below.refl _ _).drew
set_option maxRecDepth 100000 in
set_option maxHeartbeats 1600000 in
theorem readInt64_lo (S : Nat → Prop) (A : Option Addr) (b : UInt8) (r : List UInt8) (c : Nat) (w : World) (hr : RB w S A (b :: r)) (hc : r.length + 1 ≤ c) (hcm : c ≤ 9223372036854775807) (hS : Old w S) (h1 : b.toNat < 128) :
    Calls Tryd.prog 65 #[.slice A (r.length + 1) c] w (ReadN (Value.int .i64) S (some ((b.toNat : Int), r)) w) := by
  obtain ⟨ad, rfl, hb, hc0⟩ := hr.at_ (k := 0) (by simp)
  simp only [u8, add_zero_, List.getElem_cons_zero] at hc0
  have hlt := hS _ hb
  have hcut := hr.cut (k := 1) (cap := c) (by simp) (by simpa using hc)
  simp only [List.drop_succ_cons, List.drop_zero] at hcut
  generalize b.toNat = x at *
  have HC := hide hcut
  clear hcut hr
  go_enter Tryd.func65, Tryd.ntmps65
  go_wp2_with (first
    | (go_at_call 82; refine (isfixint_yes x h1 _).mono ?_; rintro e w1 ⟨rfl, rfl⟩)
    | (go_at_call 83; refine (rfixint_any x _).mono ?_; rintro e w1 ⟨rfl, rfl⟩))
  go_ret3
  exact .ok (Below.refl _ _) rfl (by omega) (by unfold maxLen; omega) (unhide HC)
set_option maxRecDepth 100000 in
set_option maxHeartbeats 1600000 in
theorem readInt64_hi (S : Nat → Prop) (A : Option Addr) (b : UInt8) (r : List UInt8) (c : Nat) (w : World) (hr : RB w S A (b :: r)) (hc : r.length + 1 ≤ c) (hcm : c ≤ 9223372036854775807) (hS : Old w S) (h1 : 224 ≤ b.toNat) :
    Calls Tryd.prog 65 #[.slice A (r.length + 1) c] w (ReadN (Value.int .i64) S (some ((b.toNat : Int) - 256, r)) w) := by
  obtain ⟨ad, rfl, hb, hc0⟩ := hr.at_ (k := 0) (by simp)
  simp only [u8, add_zero_, List.getElem_cons_zero] at hc0
  have hlt := hS _ hb
  have hcut := hr.cut (k := 1) (cap := c) (by simp) (by simpa using hc)
  simp only [List.drop_succ_cons, List.drop_zero] at hcut
  have hv := b.toNat_lt
  generalize b.toNat = x at *
  have HC := hide hcut
  clear hcut hr
  go_enter Tryd.func65, Tryd.ntmps65
  go_wp2_with (first
    | (go_at_call 82; refine (isfixint_no x (by omega) hv _).mono ?_; rintro e w1 ⟨rfl, rfl⟩)
    | (go_at_call 84; refine (isnfixint_yes x h1 hv _).mono ?_; rintro e w1 ⟨rfl, rfl⟩)
    | (go_at_call 85; refine (rnfixint_any x h1 hv _).mono ?_; rintro e w1 ⟨rfl, rfl⟩))
  go_ret3
  exact .ok (Below.refl _ _) rfl (by omega) (by unfold maxLen; omega) (unhide HC)
set_option maxRecDepth 100000 in
set_option maxHeartbeats 1600000 in
theorem readInt64_208s (S : Nat → Prop) (A : Option Addr) (b : UInt8) (r : List UInt8) (c : Nat) (w : World) (hE : ErrAt w) (hr : RB w S A (b :: r)) (hc : r.length + 1 ≤ c) (hcm : c ≤ 9223372036854775807) (hS : Old w S) (h1 : b.toNat = 208) (h2 : r.length < 1) :
    Calls Tryd.prog 65 #[.slice A (r.length + 1) c] w (ReadN (Value.int .i64) S none w) := by
  obtain ⟨te, ve, hce⟩ := hE
  obtain ⟨ad, rfl, hb, hc0⟩ := hr.at_ (k := 0) (by simp)
  simp only [u8, add_zero_, List.getElem_cons_zero] at hc0
  have hlt := hS _ hb
  have hcut := hr.cut (k := 1) (cap := c) (by simp) (by simpa using hc)
  simp only [List.drop_succ_cons, List.drop_zero] at hcut
  rw [h1] at hc0
  simp only [Int.cast_ofNat_Int] at hc0
  have h3 : (r.length : Int) < 1 := by omega
  clear hcut hr h1
  go_enter Tryd.func65, Tryd.ntmps65
  go_wp2_with (first
    | (go_at_call 82; refine (isfixint_no 208 (by omega) (by omega) _).mono ?_; rintro e w1 ⟨rfl, rfl⟩)
    | (go_at_call 84; refine (isnfixint_no 208 (by omega) _).mono ?_; rintro e w1 ⟨rfl, rfl⟩))
  go_ret3
  exact .err (Below.refl _ _)
set_option maxRecDepth 100000 in
set_option maxHeartbeats 3200000 in
theorem readInt64_208k (S : Nat → Prop) (A : Option Addr) (b : UInt8) (r : List UInt8) (c : Nat) (w : World) (hr : RB w S A (b :: r)) (hc : r.length + 1 ≤ c) (hcm : c ≤ 9223372036854775807) (hS : Old w S) (h1 : b.toNat = 208) (h2 : 1 ≤ r.length) :
    Calls Tryd.prog 65 #[.slice A (r.length + 1) c] w (ReadN (Value.int .i64) S (some (sgn 1 (bigU (r.take 1)), r.drop 1)) w) := by
  obtain ⟨ad, rfl, hb, hc0⟩ := hr.at_ (k := 0) (by simp)
  simp only [u8, add_zero_, List.getElem_cons_zero] at hc0
  have hlt := hS _ hb
  have hcut := hr.cut (k := 1) (cap := c) (by simp) (by simpa using hc)
  simp only [List.drop_succ_cons, List.drop_zero] at hcut
  rw [h1] at hc0
  simp only [Int.cast_ofNat_Int] at hc0
  have h3 : ¬ (r.length : Int) < 1 := by omega
  have hcut2 := hcut.cut (k := 1) (cap := c - 1) h2 (by omega)
  have hlq : bigU (r.take 1) < 256 := by
    have := bigU_lt (r.take 1)
    rw [List.length_take, Nat.min_eq_left h2] at this
    simpa using this
  obtain ⟨b1, r1, hbr⟩ : ∃ b1 r1, r = b1 :: r1 := by
    rcases r with _ | ⟨b1, r1⟩
    · simp at h2
    · exact ⟨b1, r1, rfl⟩
  obtain ⟨ad2, had2, hSb2, hcc⟩ := hcut.at_ (k := 0) (by omega)
  have hq1 : bigU (r.take 1) = r[0].toNat := by subst hbr; simp [bigU]
  rw [hq1] at hlq ⊢
  simp only [Go.Proofs.YtlnpiigdjjadiaaDoor.u8, add_zero_] at hcc
  have hcca : cutA (some ad) c 1 1 = some ad2 := had2
  rw [hcca] at hcut2
  generalize r[0].toNat = q at *
  have hsg := sgn1 q hlq
  have hsl := sgn_lo1 q hlq
  generalize sgn 1 q = v at *
  have HC := hide hcut2
  clear hcut hr h1 hcut2 hbr hq1
  go_enter Tryd.func65, Tryd.ntmps65
  go_wp2_with (first
    | (go_at_call 82; refine (isfixint_no 208 (by omega) (by omega) _).mono ?_; rintro e w1 ⟨rfl, rfl⟩)
    | (go_at_call 84; refine (isnfixint_no 208 (by omega) _).mono ?_; rintro e w1 ⟨rfl, rfl⟩))
  go_ret3
  exact .ok (Below.refl _ _) (by simp) (by omega) (by unfold maxLen; omega) (unhide HC)
set_option maxRecDepth 100000 in
set_option maxHeartbeats 1600000 in
theorem readInt64_204s (S : Nat → Prop) (A : Option Addr) (b : UInt8) (r : List UInt8) (c : Nat) (w : World) (hE : ErrAt w) (hr : RB w S A (b :: r)) (hc : r.length + 1 ≤ c) (hcm : c ≤ 9223372036854775807) (hS : Old w S) (h1 : b.toNat = 204) (h2 : r.length < 1) :
    Calls Tryd.prog 65 #[.slice A (r.length + 1) c] w (ReadN (Value.int .i64) S none w) := by
  obtain ⟨te, ve, hce⟩ := hE
  obtain ⟨ad, rfl, hb, hc0⟩ := hr.at_ (k := 0) (by simp)
  simp only [u8, add_zero_, List.getElem_cons_zero] at hc0
  have hlt := hS _ hb
  have hcut := hr.cut (k := 1) (cap := c) (by simp) (by simpa using hc)
  simp only [List.drop_succ_cons, List.drop_zero] at hcut
  rw [h1] at hc0
  simp only [Int.cast_ofNat_Int] at hc0
  have h3 : (r.length : Int) < 1 := by omega
  clear hcut hr h1
  go_enter Tryd.func65, Tryd.ntmps65
  go_wp2_with (first
    | (go_at_call 82; refine (isfixint_no 204 (by omega) (by omega) _).mono ?_; rintro e w1 ⟨rfl, rfl⟩)
    | (go_at_call 84; refine (isnfixint_no 204 (by omega) _).mono ?_; rintro e w1 ⟨rfl, rfl⟩))
  go_ret3
  exact .err (Below.refl _ _)
set_option maxRecDepth 100000 in
set_option maxHeartbeats 3200000 in
theorem readInt64_204k (S : Nat → Prop) (A : Option Addr) (b : UInt8) (r : List UInt8) (c : Nat) (w : World) (hr : RB w S A (b :: r)) (hc : r.length + 1 ≤ c) (hcm : c ≤ 9223372036854775807) (hS : Old w S) (h1 : b.toNat = 204) (h2 : 1 ≤ r.length) :
    Calls Tryd.prog 65 #[.slice A (r.length + 1) c] w (ReadN (Value.int .i64) S (some ((bigU (r.take 1) : Int), r.drop 1)) w) := by
  obtain ⟨ad, rfl, hb, hc0⟩ := hr.at_ (k := 0) (by simp)
  simp only [u8, add_zero_, List.getElem_cons_zero] at hc0
  have hlt := hS _ hb
  have hcut := hr.cut (k := 1) (cap := c) (by simp) (by simpa using hc)
  simp only [List.drop_succ_cons, List.drop_zero] at hcut
  rw [h1] at hc0
  simp only [Int.cast_ofNat_Int] at hc0
  have h3 : ¬ (r.length : Int) < 1 := by omega
  have hcut2 := hcut.cut (k := 1) (cap := c - 1) h2 (by omega)
  have hlq : bigU (r.take 1) < 256 := by
    have := bigU_lt (r.take 1)
    rw [List.length_take, Nat.min_eq_left h2] at this
    simpa using this
  obtain ⟨b1, r1, hbr⟩ : ∃ b1 r1, r = b1 :: r1 := by
    rcases r with _ | ⟨b1, r1⟩
    · simp at h2
    · exact ⟨b1, r1, rfl⟩
  obtain ⟨ad2, had2, hSb2, hcc⟩ := hcut.at_ (k := 0) (by omega)
  have hq1 : bigU (r.take 1) = r[0].toNat := by subst hbr; simp [bigU]
  rw [hq1] at hlq ⊢
  simp only [Go.Proofs.YtlnpiigdjjadiaaDoor.u8, add_zero_] at hcc
  have hcca : cutA (some ad) c 1 1 = some ad2 := had2
  rw [hcca] at hcut2
  generalize r[0].toNat = q at *
  have HC := hide hcut2
  clear hcut hr h1 hcut2 hbr hq1
  go_enter Tryd.func65, Tryd.ntmps65
  go_wp2_with (first
    | (go_at_call 82; refine (isfixint_no 204 (by omega) (by omega) _).mono ?_; rintro e w1 ⟨rfl, rfl⟩)
    | (go_at_call 84; refine (isnfixint_no 204 (by omega) _).mono ?_; rintro e w1 ⟨rfl, rfl⟩))
  go_ret3
  exact .ok (Below.refl _ _) (by simp) (by omega) (by unfold maxLen; omega) (unhide HC)
set_option maxRecDepth 100000 in
set_option maxHeartbeats 1600000 in
theorem readInt64_209s (S : Nat → Prop) (A : Option Addr) (b : UInt8) (r : List UInt8) (c : Nat) (w : World) (hE : ErrAt w) (hr : RB w S A (b :: r)) (hc : r.length + 1 ≤ c) (hcm : c ≤ 9223372036854775807) (hS : Old w S) (h1 : b.toNat = 209) (h2 : r.length < 2) :
    Calls Tryd.prog 65 #[.slice A (r.length + 1) c] w (ReadN (Value.int .i64) S none w) := by
  obtain ⟨te, ve, hce⟩ := hE
  obtain ⟨ad, rfl, hb, hc0⟩ := hr.at_ (k := 0) (by simp)
  simp only [u8, add_zero_, List.getElem_cons_zero] at hc0
  have hlt := hS _ hb
  have hcut := hr.cut (k := 1) (cap := c) (by simp) (by simpa using hc)
  simp only [List.drop_succ_cons, List.drop_zero] at hcut
  rw [h1] at hc0
  simp only [Int.cast_ofNat_Int] at hc0
  have h3 : (r.length : Int) < 2 := by omega
  clear hcut hr h1
  go_enter Tryd.func65, Tryd.ntmps65
  go_wp2_with (first
    | (go_at_call 82; refine (isfixint_no 209 (by omega) (by omega) _).mono ?_; rintro e w1 ⟨rfl, rfl⟩)
    | (go_at_call 84; refine (isnfixint_no 209 (by omega) _).mono ?_; rintro e w1 ⟨rfl, rfl⟩))
  go_ret3
  exact .err (Below.refl _ _)
set_option maxRecDepth 100000 in
set_option maxHeartbeats 3200000 in
theorem readInt64_209k (S : Nat → Prop) (A : Option Addr) (b : UInt8) (r : List UInt8) (c : Nat) (w : World) (hr : RB w S A (b :: r)) (hc : r.length + 1 ≤ c) (hcm : c ≤ 9223372036854775807) (hS : Old w S) (h1 : b.toNat = 209) (h2 : 2 ≤ r.length) :
    Calls Tryd.prog 65 #[.slice A (r.length + 1) c] w (ReadN (Value.int .i64) S (some (sgn 2 (bigU (r.take 2)), r.drop 2)) w) := by
  obtain ⟨ad, rfl, hb, hc0⟩ := hr.at_ (k := 0) (by simp)
  simp only [u8, add_zero_, List.getElem_cons_zero] at hc0
  have hlt := hS _ hb
  have hcut := hr.cut (k := 1) (cap := c) (by simp) (by simpa using hc)
  simp only [List.drop_succ_cons, List.drop_zero] at hcut
  rw [h1] at hc0
  simp only [Int.cast_ofNat_Int] at hc0
  have h3 : ¬ (r.length : Int) < 2 := by omega
  have hcut2 := hcut.cut (k := 2) (cap := c - 1) h2 (by omega)
  have hlq : bigU (r.take 2) < 65536 := by
    have := bigU_lt (r.take 2)
    rw [List.length_take, Nat.min_eq_left h2] at this
    simpa using this
  have hBE := beu16_any S (cutA (some ad) c 1 1) r r.length (c - 1) w rfl h2 hcut hS
  generalize bigU (r.take 2) = q at *
  have hsg := sgn2 q hlq
  have hsl := sgn_lo2 q hlq
  generalize sgn 2 q = v at *
  have HC := hide hcut2
  have HB := hide hBE
  clear hcut hr h1 hcut2 hBE
  go_enter Tryd.func65, Tryd.ntmps65
  go_wp2_with (first
    | (go_at_call 82; refine (isfixint_no 209 (by omega) (by omega) _).mono ?_; rintro e w1 ⟨rfl, rfl⟩)
    | (go_at_call 84; refine (isnfixint_no 209 (by omega) _).mono ?_; rintro e w1 ⟨rfl, rfl⟩)
    | (go_at_call 62; refine (unhide HB).mono ?_; rintro e w1 ⟨rfl, hb1⟩))
  go_ret3
  exact .ok hb1 (by simp) (by omega) (by unfold maxLen; omega) ((unhide HC).keep (stays_below (Stays.refl _ _) hb1 hS))
set_option maxRecDepth 100000 in
set_option maxHeartbeats 1600000 in
theorem readInt64_205s (S : Nat → Prop) (A : Option Addr) (b : UInt8) (r : List UInt8) (c : Nat) (w : World) (hE : ErrAt w) (hr : RB w S A (b :: r)) (hc : r.length + 1 ≤ c) (hcm : c ≤ 9223372036854775807) (hS : Old w S) (h1 : b.toNat = 205) (h2 : r.length < 2) :
    Calls Tryd.prog 65 #[.slice A (r.length + 1) c] w (ReadN (Value.int .i64) S none w) := by
  obtain ⟨te, ve, hce⟩ := hE
  obtain ⟨ad, rfl, hb, hc0⟩ := hr.at_ (k := 0) (by simp)
  simp only [u8, add_zero_, List.getElem_cons_zero] at hc0
  have hlt := hS _ hb
  have hcut := hr.cut (k := 1) (cap := c) (by simp) (by simpa using hc)
  simp only [List.drop_succ_cons, List.drop_zero] at hcut
  rw [h1] at hc0
  simp only [Int.cast_ofNat_Int] at hc0
  have h3 : (r.length : Int) < 2 := by omega
  clear hcut hr h1
  go_enter Tryd.func65, Tryd.ntmps65
  go_wp2_with (first
    | (go_at_call 82; refine (isfixint_no 205 (by omega) (by omega) _).mono ?_; rintro e w1 ⟨rfl, rfl⟩)
    | (go_at_call 84; refine (isnfixint_no 205 (by omega) _).mono ?_; rintro e w1 ⟨rfl, rfl⟩))
  go_ret3
  exact .err (Below.refl _ _)
set_option maxRecDepth 100000 in
set_option maxHeartbeats 3200000 in
theorem readInt64_205k (S : Nat → Prop) (A : Option Addr) (b : UInt8) (r : List UInt8) (c : Nat) (w : World) (hr : RB w S A (b :: r)) (hc : r.length + 1 ≤ c) (hcm : c ≤ 9223372036854775807) (hS : Old w S) (h1 : b.toNat = 205) (h2 : 2 ≤ r.length) :
    Calls Tryd.prog 65 #[.slice A (r.length + 1) c] w (ReadN (Value.int .i64) S (some ((bigU (r.take 2) : Int), r.drop 2)) w) := by
  obtain ⟨ad, rfl, hb, hc0⟩ := hr.at_ (k := 0) (by simp)
  simp only [u8, add_zero_, List.getElem_cons_zero] at hc0
  have hlt := hS _ hb
  have hcut := hr.cut (k := 1) (cap := c) (by simp) (by simpa using hc)
  simp only [List.drop_succ_cons, List.drop_zero] at hcut
  rw [h1] at hc0
  simp only [Int.cast_ofNat_Int] at hc0
  have h3 : ¬ (r.length : Int) < 2 := by omega
  have hcut2 := hcut.cut (k := 2) (cap := c - 1) h2 (by omega)
  have hlq : bigU (r.take 2) < 65536 := by
    have := bigU_lt (r.take 2)
    rw [List.length_take, Nat.min_eq_left h2] at this
    simpa using this
  have hBE := beu16_any S (cutA (some ad) c 1 1) r r.length (c - 1) w rfl h2 hcut hS
  generalize bigU (r.take 2) = q at *
  have HC := hide hcut2
  have HB := hide hBE
  clear hcut hr h1 hcut2 hBE
  go_enter Tryd.func65, Tryd.ntmps65
  go_wp2_with (first
    | (go_at_call 82; refine (isfixint_no 205 (by omega) (by omega) _).mono ?_; rintro e w1 ⟨rfl, rfl⟩)
    | (go_at_call 84; refine (isnfixint_no 205 (by omega) _).mono ?_; rintro e w1 ⟨rfl, rfl⟩)
    | (go_at_call 62; refine (unhide HB).mono ?_; rintro e w1 ⟨rfl, hb1⟩))
  go_ret3
  exact .ok hb1 (by simp) (by omega) (by unfold maxLen; omega) ((unhide HC).keep (stays_below (Stays.refl _ _) hb1 hS))
set_option maxRecDepth 100000 in
set_option maxHeartbeats 1600000 in
theorem readInt64_210s (S : Nat → Prop) (A : Option Addr) (b : UInt8) (r : List UInt8) (c : Nat) (w : World) (hE : ErrAt w) (hr : RB w S A (b :: r)) (hc : r.length + 1 ≤ c) (hcm : c ≤ 9223372036854775807) (hS : Old w S) (h1 : b.toNat = 210) (h2 : r.length < 4) :
    Calls Tryd.prog 65 #[.slice A (r.length + 1) c] w (ReadN (Value.int .i64) S none w) := by
  obtain ⟨te, ve, hce⟩ := hE
  obtain ⟨ad, rfl, hb, hc0⟩ := hr.at_ (k := 0) (by simp)
  simp only [u8, add_zero_, List.getElem_cons_zero] at hc0
  have hlt := hS _ hb
  have hcut := hr.cut (k := 1) (cap := c) (by simp) (by simpa using hc)
  simp only [List.drop_succ_cons, List.drop_zero] at hcut
  rw [h1] at hc0
  simp only [Int.cast_ofNat_Int] at hc0
  have h3 : (r.length : Int) < 4 := by omega
  clear hcut hr h1
  go_enter Tryd.func65, Tryd.ntmps65
  go_wp2_with (first
    | (go_at_call 82; refine (isfixint_no 210 (by omega) (by omega) _).mono ?_; rintro e w1 ⟨rfl, rfl⟩)
    | (go_at_call 84; refine (isnfixint_no 210 (by omega) _).mono ?_; rintro e w1 ⟨rfl, rfl⟩))
  go_ret3
  exact .err (Below.refl _ _)
set_option maxRecDepth 100000 in
set_option maxHeartbeats 3200000 in
theorem readInt64_210k (S : Nat → Prop) (A : Option Addr) (b : UInt8) (r : List UInt8) (c : Nat) (w : World) (hr : RB w S A (b :: r)) (hc : r.length + 1 ≤ c) (hcm : c ≤ 9223372036854775807) (hS : Old w S) (h1 : b.toNat = 210) (h2 : 4 ≤ r.length) :
    Calls Tryd.prog 65 #[.slice A (r.length + 1) c] w (ReadN (Value.int .i64) S (some (sgn 4 (bigU (r.take 4)), r.drop 4)) w) := by
  obtain ⟨ad, rfl, hb, hc0⟩ := hr.at_ (k := 0) (by simp)
  simp only [u8, add_zero_, List.getElem_cons_zero] at hc0
  have hlt := hS _ hb
  have hcut := hr.cut (k := 1) (cap := c) (by simp) (by simpa using hc)
  simp only [List.drop_succ_cons, List.drop_zero] at hcut
  rw [h1] at hc0
  simp only [Int.cast_ofNat_Int] at hc0
  have h3 : ¬ (r.length : Int) < 4 := by omega
  have hcut2 := hcut.cut (k := 4) (cap := c - 1) h2 (by omega)
  have hlq : bigU (r.take 4) < 4294967296 := by
    have := bigU_lt (r.take 4)
    rw [List.length_take, Nat.min_eq_left h2] at this
    simpa using this
  have hBE := beu32_any S (cutA (some ad) c 1 1) r r.length (c - 1) w rfl h2 hcut hS
  generalize bigU (r.take 4) = q at *
  have hsg := sgn4 q hlq
  have hsl := sgn_lo4 q hlq
  generalize sgn 4 q = v at *
  have HC := hide hcut2
  have HB := hide hBE
  clear hcut hr h1 hcut2 hBE
  go_enter Tryd.func65, Tryd.ntmps65
  go_wp2_with (first
    | (go_at_call 82; refine (isfixint_no 210 (by omega) (by omega) _).mono ?_; rintro e w1 ⟨rfl, rfl⟩)
    | (go_at_call 84; refine (isnfixint_no 210 (by omega) _).mono ?_; rintro e w1 ⟨rfl, rfl⟩)
    | (go_at_call 63; refine (unhide HB).mono ?_; rintro e w1 ⟨rfl, hb1⟩))
  go_ret3
  exact .ok hb1 (by simp) (by omega) (by unfold maxLen; omega) ((unhide HC).keep (stays_below (Stays.refl _ _) hb1 hS))
set_option maxRecDepth 100000 in
set_option maxHeartbeats 1600000 in
theorem readInt64_206s (S : Nat → Prop) (A : Option Addr) (b : UInt8) (r : List UInt8) (c : Nat) (w : World) (hE : ErrAt w) (hr : RB w S A (b :: r)) (hc : r.length + 1 ≤ c) (hcm : c ≤ 9223372036854775807) (hS : Old w S) (h1 : b.toNat = 206) (h2 : r.length < 4) :
    Calls Tryd.prog 65 #[.slice A (r.length + 1) c] w (ReadN (Value.int .i64) S none w) := by
  obtain ⟨te, ve, hce⟩ := hE
  obtain ⟨ad, rfl, hb, hc0⟩ := hr.at_ (k := 0) (by simp)
  simp only [u8, add_zero_, List.getElem_cons_zero] at hc0
  have hlt := hS _ hb
  have hcut := hr.cut (k := 1) (cap := c) (by simp) (by simpa using hc)
  simp only [List.drop_succ_cons, List.drop_zero] at hcut
  rw [h1] at hc0
  simp only [Int.cast_ofNat_Int] at hc0
  have h3 : (r.length : Int) < 4 := by omega
  clear hcut hr h1
  go_enter Tryd.func65, Tryd.ntmps65
  go_wp2_with (first
    | (go_at_call 82; refine (isfixint_no 206 (by omega) (by omega) _).mono ?_; rintro e w1 ⟨rfl, rfl⟩)
    | (go_at_call 84; refine (isnfixint_no 206 (by omega) _).mono ?_; rintro e w1 ⟨rfl, rfl⟩))
  go_ret3
  exact .err (Below.refl _ _)
set_option maxRecDepth 100000 in
set_option maxHeartbeats 3200000 in
theorem readInt64_206k (S : Nat → Prop) (A : Option Addr) (b : UInt8) (r : List UInt8) (c : Nat) (w : World) (hr : RB w S A (b :: r)) (hc : r.length + 1 ≤ c) (hcm : c ≤ 9223372036854775807) (hS : Old w S) (h1 : b.toNat = 206) (h2 : 4 ≤ r.length) :
    Calls Tryd.prog 65 #[.slice A (r.length + 1) c] w (ReadN (Value.int .i64) S (some ((bigU (r.take 4) : Int), r.drop 4)) w) := by
  obtain ⟨ad, rfl, hb, hc0⟩ := hr.at_ (k := 0) (by simp)
  simp only [u8, add_zero_, List.getElem_cons_zero] at hc0
  have hlt := hS _ hb
  have hcut := hr.cut (k := 1) (cap := c) (by simp) (by simpa using hc)
  simp only [List.drop_succ_cons, List.drop_zero] at hcut
  rw [h1] at hc0
  simp only [Int.cast_ofNat_Int] at hc0
  have h3 : ¬ (r.length : Int) < 4 := by omega
  have hcut2 := hcut.cut (k := 4) (cap := c - 1) h2 (by omega)
  have hlq : bigU (r.take 4) < 4294967296 := by
    have := bigU_lt (r.take 4)
    rw [List.length_take, Nat.min_eq_left h2] at this
    simpa using this
  have hBE := beu32_any S (cutA (some ad) c 1 1) r r.length (c - 1) w rfl h2 hcut hS
  generalize bigU (r.take 4) = q at *
  have HC := hide hcut2
  have HB := hide hBE
  clear hcut hr h1 hcut2 hBE
  go_enter Tryd.func65, Tryd.ntmps65
  go_wp2_with (first
    | (go_at_call 82; refine (isfixint_no 206 (by omega) (by omega) _).mono ?_; rintro e w1 ⟨rfl, rfl⟩)
    | (go_at_call 84; refine (isnfixint_no 206 (by omega) _).mono ?_; rintro e w1 ⟨rfl, rfl⟩)
    | (go_at_call 63; refine (unhide HB).mono ?_; rintro e w1 ⟨rfl, hb1⟩))
  go_ret3
  exact .ok hb1 (by simp) (by omega) (by unfold maxLen; omega) ((unhide HC).keep (stays_below (Stays.refl _ _) hb1 hS))
set_option maxRecDepth 100000 in
set_option maxHeartbeats 1600000 in
theorem readInt64_211s (S : Nat → Prop) (A : Option Addr) (b : UInt8) (r : List UInt8) (c : Nat) (w : World) (hE : ErrAt w) (hr : RB w S A (b :: r)) (hc : r.length + 1 ≤ c) (hcm : c ≤ 9223372036854775807) (hS : Old w S) (h1 : b.toNat = 211) (h2 : r.length < 8) :
    Calls Tryd.prog 65 #[.slice A (r.length + 1) c] w (ReadN (Value.int .i64) S none w) := by
  obtain ⟨te, ve, hce⟩ := hE
  obtain ⟨ad, rfl, hb, hc0⟩ := hr.at_ (k := 0) (by simp)
  simp only [u8, add_zero_, List.getElem_cons_zero] at hc0
  have hlt := hS _ hb
  have hcut := hr.cut (k := 1) (cap := c) (by simp) (by simpa using hc)
  simp only [List.drop_succ_cons, List.drop_zero] at hcut
  rw [h1] at hc0
  simp only [Int.cast_ofNat_Int] at hc0
  have h3 : (r.length : Int) < 8 := by omega
  clear hcut hr h1
  go_enter Tryd.func65, Tryd.ntmps65
  go_wp2_with (first
    | (go_at_call 82; refine (isfixint_no 211 (by omega) (by omega) _).mono ?_; rintro e w1 ⟨rfl, rfl⟩)
    | (go_at_call 84; refine (isnfixint_no 211 (by omega) _).mono ?_; rintro e w1 ⟨rfl, rfl⟩))
  go_ret3
  exact .err (Below.refl _ _)
set_option maxRecDepth 100000 in
set_option maxHeartbeats 3200000 in
theorem readInt64_211k (S : Nat → Prop) (A : Option Addr) (b : UInt8) (r : List UInt8) (c : Nat) (w : World) (hr : RB w S A (b :: r)) (hc : r.length + 1 ≤ c) (hcm : c ≤ 9223372036854775807) (hS : Old w S) (h1 : b.toNat = 211) (h2 : 8 ≤ r.length) :
    Calls Tryd.prog 65 #[.slice A (r.length + 1) c] w (ReadN (Value.int .i64) S (some (sgn 8 (bigU (r.take 8)), r.drop 8)) w) := by
  obtain ⟨ad, rfl, hb, hc0⟩ := hr.at_ (k := 0) (by simp)
  simp only [u8, add_zero_, List.getElem_cons_zero] at hc0
  have hlt := hS _ hb
  have hcut := hr.cut (k := 1) (cap := c) (by simp) (by simpa using hc)
  simp only [List.drop_succ_cons, List.drop_zero] at hcut
  rw [h1] at hc0
  simp only [Int.cast_ofNat_Int] at hc0
  have h3 : ¬ (r.length : Int) < 8 := by omega
  have hcut2 := hcut.cut (k := 8) (cap := c - 1) h2 (by omega)
  have hlq : bigU (r.take 8) < 18446744073709551616 := by
    have := bigU_lt (r.take 8)
    rw [List.length_take, Nat.min_eq_left h2] at this
    simpa using this
  have hBE := beu64_any S (cutA (some ad) c 1 1) r r.length (c - 1) w rfl h2 hcut hS
  generalize bigU (r.take 8) = q at *
  have hsg := sgn8 q hlq
  have hsl := sgn_lo 8 q (by omega) hlq
  generalize sgn 8 q = v at *
  have HC := hide hcut2
  have HB := hide hBE
  clear hcut hr h1 hcut2 hBE
  go_enter Tryd.func65, Tryd.ntmps65
  go_wp2_with (first
    | (go_at_call 82; refine (isfixint_no 211 (by omega) (by omega) _).mono ?_; rintro e w1 ⟨rfl, rfl⟩)
    | (go_at_call 84; refine (isnfixint_no 211 (by omega) _).mono ?_; rintro e w1 ⟨rfl, rfl⟩)
    | (go_at_call 86; refine (unhide HB).mono ?_; rintro e w1 ⟨rfl, hb1⟩))
  go_ret3
  rw [← hsg]
  exact .ok hb1 (by simp) (by omega) (by unfold maxLen; omega) ((unhide HC).keep (stays_below (Stays.refl _ _) hb1 hS))
set_option maxRecDepth 100000 in
set_option maxHeartbeats 1600000 in
theorem readInt64_207s (S : Nat → Prop) (A : Option Addr) (b : UInt8) (r : List UInt8) (c : Nat) (w : World) (hE : ErrAt w) (hr : RB w S A (b :: r)) (hc : r.length + 1 ≤ c) (hcm : c ≤ 9223372036854775807) (hS : Old w S) (h1 : b.toNat = 207) (h2 : r.length < 8) :
    Calls Tryd.prog 65 #[.slice A (r.length + 1) c] w (ReadN (Value.int .i64) S none w) := by
  obtain ⟨te, ve, hce⟩ := hE
  obtain ⟨ad, rfl, hb, hc0⟩ := hr.at_ (k := 0) (by simp)
  simp only [u8, add_zero_, List.getElem_cons_zero] at hc0
  have hlt := hS _ hb
  have hcut := hr.cut (k := 1) (cap := c) (by simp) (by simpa using hc)
  simp only [List.drop_succ_cons, List.drop_zero] at hcut
  rw [h1] at hc0
  simp only [Int.cast_ofNat_Int] at hc0
  have h3 : (r.length : Int) < 8 := by omega
  clear hcut hr h1
  go_enter Tryd.func65, Tryd.ntmps65
  go_wp2_with (first
    | (go_at_call 82; refine (isfixint_no 207 (by omega) (by omega) _).mono ?_; rintro e w1 ⟨rfl, rfl⟩)
    | (go_at_call 84; refine (isnfixint_no 207 (by omega) _).mono ?_; rintro e w1 ⟨rfl, rfl⟩))
  go_ret3
  exact .err (Below.refl _ _)
set_option maxRecDepth 100000 in
set_option maxHeartbeats 3200000 in
theorem readInt64_207o (S : Nat → Prop) (A : Option Addr) (b : UInt8) (r : List UInt8) (c : Nat) (w : World) (hr : RB w S A (b :: r)) (hc : r.length + 1 ≤ c) (hcm : c ≤ 9223372036854775807) (hS : Old w S) (h1 : b.toNat = 207) (h2 : 8 ≤ r.length) (h5 : 9223372036854775807 < bigU (r.take 8)) :
    Calls Tryd.prog 65 #[.slice A (r.length + 1) c] w (ReadN (Value.int .i64) S (none) w) := by
  obtain ⟨ad, rfl, hb, hc0⟩ := hr.at_ (k := 0) (by simp)
  simp only [u8, add_zero_, List.getElem_cons_zero] at hc0
  have hlt := hS _ hb
  have hcut := hr.cut (k := 1) (cap := c) (by simp) (by simpa using hc)
  simp only [List.drop_succ_cons, List.drop_zero] at hcut
  rw [h1] at hc0
  simp only [Int.cast_ofNat_Int] at hc0
  have h3 : ¬ (r.length : Int) < 8 := by omega
  have hcut2 := hcut.cut (k := 8) (cap := c - 1) h2 (by omega)
  have hlq : bigU (r.take 8) < 18446744073709551616 := by
    have := bigU_lt (r.take 8)
    rw [List.length_take, Nat.min_eq_left h2] at this
    simpa using this
  have hBE := beu64_any S (cutA (some ad) c 1 1) r r.length (c - 1) w rfl h2 hcut hS
  generalize bigU (r.take 8) = q at *
  have HC := hide hcut2
  have HB := hide hBE
  clear hcut hr h1 hcut2 hBE
  go_enter Tryd.func65, Tryd.ntmps65
  go_wp2_with (first
    | (go_at_call 82; refine (isfixint_no 207 (by omega) (by omega) _).mono ?_; rintro e w1 ⟨rfl, rfl⟩)
    | (go_at_call 84; refine (isnfixint_no 207 (by omega) _).mono ?_; rintro e w1 ⟨rfl, rfl⟩)
    | (go_at_call 86; refine (unhide HB).mono ?_; rintro e w1 ⟨rfl, hb1⟩))
  go_ret3
  exact .err hb1
set_option maxRecDepth 100000 in
set_option maxHeartbeats 3200000 in
theorem readInt64_207k (S : Nat → Prop) (A : Option Addr) (b : UInt8) (r : List UInt8) (c : Nat) (w : World) (hr : RB w S A (b :: r)) (hc : r.length + 1 ≤ c) (hcm : c ≤ 9223372036854775807) (hS : Old w S) (h1 : b.toNat = 207) (h2 : 8 ≤ r.length) (h5 : bigU (r.take 8) ≤ 9223372036854775807) :
    Calls Tryd.prog 65 #[.slice A (r.length + 1) c] w (ReadN (Value.int .i64) S (some ((bigU (r.take 8) : Int), r.drop 8)) w) := by
  obtain ⟨ad, rfl, hb, hc0⟩ := hr.at_ (k := 0) (by simp)
  simp only [u8, add_zero_, List.getElem_cons_zero] at hc0
  have hlt := hS _ hb
  have hcut := hr.cut (k := 1) (cap := c) (by simp) (by simpa using hc)
  simp only [List.drop_succ_cons, List.drop_zero] at hcut
  rw [h1] at hc0
  simp only [Int.cast_ofNat_Int] at hc0
  have h3 : ¬ (r.length : Int) < 8 := by omega
  have hcut2 := hcut.cut (k := 8) (cap := c - 1) h2 (by omega)
  have hlq : bigU (r.take 8) < 18446744073709551616 := by
    have := bigU_lt (r.take 8)
    rw [List.length_take, Nat.min_eq_left h2] at this
    simpa using this
  have hBE := beu64_any S (cutA (some ad) c 1 1) r r.length (c - 1) w rfl h2 hcut hS
  generalize bigU (r.take 8) = q at *
  have HC := hide hcut2
  have HB := hide hBE
  clear hcut hr h1 hcut2 hBE
  go_enter Tryd.func65, Tryd.ntmps65
  go_wp2_with (first
    | (go_at_call 82; refine (isfixint_no 207 (by omega) (by omega) _).mono ?_; rintro e w1 ⟨rfl, rfl⟩)
    | (go_at_call 84; refine (isnfixint_no 207 (by omega) _).mono ?_; rintro e w1 ⟨rfl, rfl⟩)
    | (go_at_call 86; refine (unhide HB).mono ?_; rintro e w1 ⟨rfl, hb1⟩))
  go_ret3
  exact .ok hb1 (by simp) (by omega) (by unfold maxLen; omega) ((unhide HC).keep (stays_below (Stays.refl _ _) hb1 hS))
set_option maxRecDepth 100000 in
set_option maxHeartbeats 1600000 in
theorem readInt64_bad (S : Nat → Prop) (A : Option Addr) (b : UInt8) (r : List UInt8) (c : Nat) (w : World) (hr : RB w S A (b :: r)) (hc : r.length + 1 ≤ c) (hcm : c ≤ 9223372036854775807) (hS : Old w S) (hlo : ¬ b.toNat < 128) (hhi : ¬ 224 ≤ b.toNat) (h208 : b.toNat ≠ 208) (h204 : b.toNat ≠ 204) (h209 : b.toNat ≠ 209) (h205 : b.toNat ≠ 205) (h210 : b.toNat ≠ 210) (h206 : b.toNat ≠ 206) (h211 : b.toNat ≠ 211) (h207 : b.toNat ≠ 207) :
    Calls Tryd.prog 65 #[.slice A (r.length + 1) c] w (ReadN (Value.int .i64) S none w) := by
  obtain ⟨ad, rfl, hb, hc0⟩ := hr.at_ (k := 0) (by simp)
  simp only [u8, add_zero_, List.getElem_cons_zero] at hc0
  have hlt := hS _ hb
  have hcut := hr.cut (k := 1) (cap := c) (by simp) (by simpa using hc)
  simp only [List.drop_succ_cons, List.drop_zero] at hcut
  have hv := b.toNat_lt
  generalize b.toNat = x at *
  have e208 : ((x : Int) == 208) = false := by simp; omega
  have e204 : ((x : Int) == 204) = false := by simp; omega
  have e209 : ((x : Int) == 209) = false := by simp; omega
  have e205 : ((x : Int) == 205) = false := by simp; omega
  have e210 : ((x : Int) == 210) = false := by simp; omega
  have e206 : ((x : Int) == 206) = false := by simp; omega
  have e211 : ((x : Int) == 211) = false := by simp; omega
  have e207 : ((x : Int) == 207) = false := by simp; omega
  clear hcut hr h208 h204 h209 h205 h210 h206 h211 h207
  go_enter Tryd.func65, Tryd.ntmps65
  go_wp2_with (first
    | (go_at_call 82; refine (isfixint_no x (by omega) hv _).mono ?_; rintro e w1 ⟨rfl, rfl⟩)
    | (go_at_call 84; refine (isnfixint_no x (by omega) _).mono ?_; rintro e w1 ⟨rfl, rfl⟩)
    | (go_at_call 64; refine (badPrefix_any _ x hv _).mono ?_; rintro e w1 ⟨te, ve, rfl, hb1⟩))
  go_ret3
  exact .err hb1
theorem readInt64_any (S : Nat → Prop) (A : Option Addr) (bs : List UInt8) (n c : Nat) (w : World) (hE : ErrAt w) (hn : n = bs.length) (hr : RB w S A bs) (hc : n ≤ c) (hcm : c ≤ 9223372036854775807) (hS : Old w S) :
    Calls Tryd.prog 65 #[.slice A n c] w (ReadN (Value.int .i64) S (int64R bs) w) := by
  subst hn
  rcases bs with _ | ⟨b, r⟩
  · exact readInt64_nil S A c w hE
  simp only [List.length_cons] at hc ⊢
  simp only [int64R]
  by_cases hlo : b.toNat < 128
  · rw [if_pos hlo]
    exact readInt64_lo S A b r c w hr hc hcm hS hlo
  rw [if_neg hlo]
  by_cases hhi : 224 ≤ b.toNat
  · rw [if_pos hhi]
    exact readInt64_hi S A b r c w hr hc hcm hS hhi
  rw [if_neg hhi]
  unfold int64RC
  by_cases h208 : b.toNat = 208
  · rw [if_pos h208]
    by_cases hs : r.length < 1
    · rw [if_pos hs]
      exact readInt64_208s S A b r c w hE hr hc hcm hS h208 hs
    · rw [if_neg hs]
      exact readInt64_208k S A b r c w hr hc hcm hS h208 (by omega)
  rw [if_neg h208]
  by_cases h204 : b.toNat = 204
  · rw [if_pos h204]
    by_cases hs : r.length < 1
    · rw [if_pos hs]
      exact readInt64_204s S A b r c w hE hr hc hcm hS h204 hs
    · rw [if_neg hs]
      exact readInt64_204k S A b r c w hr hc hcm hS h204 (by omega)
  rw [if_neg h204]
  by_cases h209 : b.toNat = 209
  · rw [if_pos h209]
    by_cases hs : r.length < 2
    · rw [if_pos hs]
      exact readInt64_209s S A b r c w hE hr hc hcm hS h209 hs
    · rw [if_neg hs]
      exact readInt64_209k S A b r c w hr hc hcm hS h209 (by omega)
  rw [if_neg h209]
  by_cases h205 : b.toNat = 205
  · rw [if_pos h205]
    by_cases hs : r.length < 2
    · rw [if_pos hs]
      exact readInt64_205s S A b r c w hE hr hc hcm hS h205 hs
    · rw [if_neg hs]
      exact readInt64_205k S A b r c w hr hc hcm hS h205 (by omega)
  rw [if_neg h205]
  by_cases h210 : b.toNat = 210
  · rw [if_pos h210]
    by_cases hs : r.length < 4
    · rw [if_pos hs]
      exact readInt64_210s S A b r c w hE hr hc hcm hS h210 hs
    · rw [if_neg hs]
      exact readInt64_210k S A b r c w hr hc hcm hS h210 (by omega)
  rw [if_neg h210]
  by_cases h206 : b.toNat = 206
  · rw [if_pos h206]
    by_cases hs : r.length < 4
    · rw [if_pos hs]
      exact readInt64_206s S A b r c w hE hr hc hcm hS h206 hs
    · rw [if_neg hs]
      exact readInt64_206k S A b r c w hr hc hcm hS h206 (by omega)
  rw [if_neg h206]
  by_cases h211 : b.toNat = 211
  · rw [if_pos h211]
    by_cases hs : r.length < 8
    · rw [if_pos hs]
      exact readInt64_211s S A b r c w hE hr hc hcm hS h211 hs
    · rw [if_neg hs]
      exact readInt64_211k S A b r c w hr hc hcm hS h211 (by omega)
  rw [if_neg h211]
  by_cases h207 : b.toNat = 207
  · rw [if_pos h207]
    by_cases hs : r.length < 8
    · rw [if_pos hs]
      exact readInt64_207s S A b r c w hE hr hc hcm hS h207 hs
    · rw [if_neg hs]
      by_cases ho : 9223372036854775807 < bigU (r.take 8)
      · rw [if_pos ho]
        exact readInt64_207o S A b r c w hr hc hcm hS h207 (by omega) ho
      · rw [if_neg ho]
        exact readInt64_207k S A b r c w hr hc hcm hS h207 (by omega) (by omega)
  rw [if_neg h207]
  exact readInt64_bad S A b r c w hr hc hcm hS hlo hhi h208 h204 h209 h205 h210 h206 h211 h207
end Go.Proofs.YtlnpiigdjjadiaaDoor

/-
  msgp.ReadInt32Bytes, impl.GetInt32. Conditions: msgp.ErrShortBytes is not nil.
-/
namespace Go.Proofs.YtlnpiigdjjadiaaDoor
set_option linter.unusedSimpArgs false
set_option linter.unusedVariables false
open Go.RowKit
def int32V (bs : List UInt8) : Option (Value × List UInt8) :=
  match int64R bs with
  | none => none
  | some (i, r) => if 2147483647 < i ∨ i < -2147483648 then none else some (.int .i32 i, r)
theorem int32V_le (bs : List UInt8) : ∀ v r, int32V bs = some (v, r) → r.length ≤ bs.length := by
  intro v r h
  unfold int32V at h
  have hl := int64R_le bs
  generalize int64R bs = q at *
  rcases q with _ | ⟨i, s⟩
  · cases h
  · dsimp only at h
    split at h
    · cases h
    · obtain ⟨_, rfl⟩ := Prod.mk.inj (Option.some.inj h)
      exact hl _ _ rfl
set_option maxRecDepth 100000 in
set_option maxHeartbeats 1600000 in
theorem readInt32_any (S : Nat → Prop) (A : Option Addr) (bs : List UInt8) (n c : Nat) (w : World) (hE : ErrAt w) (hn : n = bs.length) (hr : RB w S A bs) (hc : n ≤ c) (hcm : c ≤ 9223372036854775807) (hS : Old w S) :
    Calls Tryd.prog 41 #[.slice A n c] w (ReadV S (int32V bs) w) := by
  have hR := readInt64_any S A bs n c w hE hn hr hc hcm hS
  unfold int32V
  clear hn hr
  generalize int64R bs = q at *
  rcases q with _ | ⟨i, s⟩
  · have HR := hide hR
    clear hR
    dsimp only
    go_enter Tryd.func41, Tryd.ntmps41
    go_wp2_with fail
    refine (unhide HR).mono ?_
    rintro e w1 ⟨hb1, A1, n1, c1, te, ve, rfl⟩
    go_wp2
    go_ret3
    exact .err hb1
  · have HR := hide hR
    clear hR
    dsimp only
    by_cases hi : 2147483647 < i
    · rw [if_pos (.inl hi)]
      go_enter Tryd.func41, Tryd.ntmps41
      go_wp2_with fail
      refine (unhide HR).mono ?_
      rintro e w1 ⟨hb1, A1, n1, c1, rfl, hn1, hc1, hm1, hr1⟩
      have HR1 := hide hr1
      have HN1 := hide hn1
      clear hr1 hn1
      go_wp2
      go_ret3
      exact .err hb1
    by_cases hl : i < -2147483648
    · rw [if_pos (.inr hl)]
      go_enter Tryd.func41, Tryd.ntmps41
      go_wp2_with fail
      refine (unhide HR).mono ?_
      rintro e w1 ⟨hb1, A1, n1, c1, rfl, hn1, hc1, hm1, hr1⟩
      have HR1 := hide hr1
      have HN1 := hide hn1
      clear hr1 hn1
      go_wp2
      go_ret3
      exact .err hb1
    · rw [if_neg (by omega)]
      go_enter Tryd.func41, Tryd.ntmps41
      go_wp2_with fail
      refine (unhide HR).mono ?_
      rintro e w1 ⟨hb1, A1, n1, c1, rfl, hn1, hc1, hm1, hr1⟩
      have HR1 := hide hr1
      have HN1 := hide hn1
      clear hr1 hn1
      go_wp2
      go_ret3
      exact .ok hb1 (unhide HN1) hc1 hm1 (unhide HR1)
end Go.Proofs.YtlnpiigdjjadiaaDoor

/-
  msgp.ReadUint32Bytes, impl.GetUint32. Conditions: msgp.ErrShortBytes is not nil.
-/
namespace Go.Proofs.YtlnpiigdjjadiaaDoor
set_option linter.unusedSimpArgs false
set_option linter.unusedVariables false
open Go.RowKit
def uint32V (bs : List UInt8) : Option (Value × List UInt8) :=
  match uint64R bs with
  | none => none
  | some (i, r) => if 4294967295 < i then none else some (.int .u32 i, r)
theorem uint32V_le (bs : List UInt8) : ∀ v r, uint32V bs = some (v, r) → r.length ≤ bs.length := by
  intro v r h
  unfold uint32V at h
  have hl := uint64R_le bs
  generalize uint64R bs = q at *
  rcases q with _ | ⟨i, s⟩
  · cases h
  · dsimp only at h
    split at h
    · cases h
    · obtain ⟨_, rfl⟩ := Prod.mk.inj (Option.some.inj h)
      exact hl _ _ rfl
end Go.Proofs.YtlnpiigdjjadiaaDoor
