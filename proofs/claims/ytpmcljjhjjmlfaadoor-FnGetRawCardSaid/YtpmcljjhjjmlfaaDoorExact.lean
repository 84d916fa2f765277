/-
  msgp.ReadExactBytes, into a row that is known whole. Conditions: msgp.ErrShortBytes is not nil; what is read is not cut off.
-/
import Derived.Test.YtpmcljjhjjmlfaaDoorGetV
import Derived.Laws.CopyOwn
namespace Go.Proofs.YtpmcljjhjjmlfaaDoor
set_option linter.unusedSimpArgs false
set_option linter.unusedVariables false
set_option linter.unusedVariables false
open Go.RowKit
/-- What ReadExactBytes answers: what lies in block g then, what stands behind; or an error. -/
def ReadX (S : Nat → Prop) (B g : Nat) (ty : TypeId) (r : Option (List UInt8 × List UInt8)) (w : World) (e : Ending) (w' : World) : Prop :=
  Below B w w' ∧ match r with
  | none => ∃ A n c t u, e = .returned (.tuple #[.slice A n c, .iface t u])
  | some (s, bs) => ∃ A n c, e = .returned (.tuple #[.slice A n c, .nilIface]) ∧ n = bs.length ∧ n ≤ c ∧ c ≤ maxLen ∧ RB w' S A bs ∧ Hid (w'.heap[g]? = some (.cells (s.map u8).toArray ty (0, 0)))
theorem ReadX.err {S : Nat → Prop} {B g : Nat} {ty : TypeId} {w w' : World} {A : Option Addr} {n c : Nat} {t : TypeId} {u : Value} (hb : Below B w w') : ReadX S B g ty none w (.returned (.tuple #[.slice A n c, .iface t u])) w' := ⟨hb, _, _, _, _, _, rfl⟩
theorem ReadX.ok {S : Nat → Prop} {B g : Nat} {ty : TypeId} {w w' : World} {s : List UInt8} {A : Option Addr} {n c : Nat} {bs : List UInt8} (hb : Below B w w') (hn : n = bs.length) (hc : n ≤ c) (hm : c ≤ maxLen) (hr : RB w' S A bs) (hg : Hid (w'.heap[g]? = some (.cells (s.map u8).toArray ty (0, 0)))) : ReadX S B g ty (some (s, bs)) w (.returned (.tuple #[.slice A n c, .nilIface])) w' := ⟨hb, _, _, _, rfl, hn, hc, hm, hr, hg⟩
def cutX (n q : Nat) (r : List UInt8) : Option (List UInt8 × List UInt8) := if q = n then some (r.take n, r.drop n) else none
def exactR (n : Nat) : List UInt8 → Option (List UInt8 × List UInt8)
  | [] => none
  | b :: r => if b.toNat = 196 then (if r.length < 1 then none else cutX n (bigU (r.take 1)) (r.drop 1)) else
    if b.toNat = 197 then (if r.length < 2 then none else cutX n (bigU (r.take 2)) (r.drop 2)) else
    if b.toNat = 198 then (if r.length < 4 then none else cutX n (bigU (r.take 4)) (r.drop 4)) else none
theorem copy_src {w : World} {S : Nat → Prop} {A : Option Addr} {R : List UInt8} (h : RB w S A R) (n : Nat) (hn : n ≤ R.length) {X : List Value} (hX : X = (R.take n).map u8) : 0 < X.length → ∃ ad, A = some ad ∧ ∀ (j : Nat) (v : Value), X[j]? = some v → w.cell? (ad.add j) = some v := by
  intro hp
  subst hX
  obtain ⟨ad, e, _, hc⟩ := (h.take hn).2 (by simpa using hp)
  exact ⟨ad, e, fun j v hv => hc j v hv⟩
theorem splice_all {L X : List Value} (h : X.length = L.length) : splice L 0 X = X := by
  unfold splice
  rw [List.take_zero, List.nil_append, Nat.zero_add, h, List.drop_length, List.append_nil]
theorem one_cells {R : List UInt8} {X : List Value} (hX : X = R.map u8) : ∀ v ∈ X, v.oneCell' = true := by
  subst hX
  intro v hv
  obtain ⟨b, _, rfl⟩ := List.mem_map.mp hv
  rfl
theorem size5 : (Tryd.prog.info? 5).map (·.size) = some 1 := by
  obtain ⟨i0, hi0, hz0, hz1, hz2⟩ := info_parts infoB
  rw [hi0, Option.map_some, hz1]
set_option maxRecDepth 100000 in
set_option maxHeartbeats 800000 in
theorem readExact_nil (S : Nat → Prop) (B g : Nat) (ty : TypeId) (m : Nat) (A : Option Addr) (c : Nat) (w : World) (hE : ErrAt w) :
    Calls Tryd.prog 32 #[.slice A 0 c, .slice (some ⟨g, 0, none⟩) m m] w (ReadX S B g ty none w) := by
  obtain ⟨te, ve, hce⟩ := hE
  go_enter Tryd.func32, Tryd.ntmps32
  go_wp2
  go_ret2
  exact .err (Below.refl _ _)
set_option maxRecDepth 100000 in
set_option maxHeartbeats 1600000 in
theorem readExact_196s (S : Nat → Prop) (B g : Nat) (ty : TypeId) (m : Nat) (A : Option Addr) (b : UInt8) (r : List UInt8) (c : Nat) (w : World) (hE : ErrAt w) (hr : RB w S A (b :: r)) (hc : r.length + 1 ≤ c) (hcm : c ≤ 9223372036854775807) (hS : Old w S) (h1 : b.toNat = 196) (h2 : r.length < 1) :
    Calls Tryd.prog 32 #[.slice A (r.length + 1) c, .slice (some ⟨g, 0, none⟩) m m] w (ReadX S B g ty none w) := by
  obtain ⟨te, ve, hce⟩ := hE
  obtain ⟨ad, rfl, hb, hc0⟩ := hr.at_ (k := 0) (by simp)
  simp only [u8, add_zero_, List.getElem_cons_zero] at hc0
  have hlt := hS _ hb
  have hcut := hr.cut (k := 1) (cap := c) (by simp) (by simpa using hc)
  simp only [List.drop_succ_cons, List.drop_zero] at hcut
  rw [h1] at hc0
  simp only [Int.cast_ofNat_Int] at hc0
  have h3 : (r.length : Int) < 1 := by omega
  clear hcut hr h1
  go_enter Tryd.func32, Tryd.ntmps32
  go_wp2
  go_ret2
  exact .err (Below.refl _ _)
set_option maxRecDepth 100000 in
set_option maxHeartbeats 3200000 in
theorem readExact_196h (S : Nat → Prop) (B g : Nat) (ty : TypeId) (m : Nat) (A : Option Addr) (b : UInt8) (r : List UInt8) (c : Nat) (w : World) (hr : RB w S A (b :: r)) (hc : r.length + 1 ≤ c) (hcm : c ≤ 9223372036854775807) (hS : Old w S) (hm : m ≤ 1048576) (hBw : B ≤ w.heap.size) (h1 : b.toNat = 196) (h2 : 1 ≤ r.length) (h5 : bigU (r.take 1) ≠ m) :
    Calls Tryd.prog 32 #[.slice A (r.length + 1) c, .slice (some ⟨g, 0, none⟩) m m] w (ReadX S B g ty none w) := by
  obtain ⟨ad, rfl, hb, hc0⟩ := hr.at_ (k := 0) (by simp)
  simp only [u8, add_zero_, List.getElem_cons_zero] at hc0
  have hlt := hS _ hb
  have hcut := hr.cut (k := 1) (cap := c) (by simp) (by simpa using hc)
  simp only [List.drop_succ_cons, List.drop_zero] at hcut
  rw [h1] at hc0
  simp only [Int.cast_ofNat_Int] at hc0
  have h3 : ¬ (r.length : Int) < 1 := by omega
  have hcut2 := hcut.cut (k := 1) (cap := c - 1) h2 (by omega)
  have hlq : bigU (r.take 1) < 256 := by
    have := bigU_lt (r.take 1)
    rw [List.length_take, Nat.min_eq_left h2] at this
    simpa using this
  obtain ⟨b1, r1, hbr⟩ : ∃ b1 r1, r = b1 :: r1 := by
    rcases r with _ | ⟨b1, r1⟩
    · simp at h2
    · exact ⟨b1, r1, rfl⟩
  obtain ⟨ad2, had2, hSb2, hcc⟩ := hcut.at_ (k := 0) (by omega)
  have hq1 : bigU (r.take 1) = r[0].toNat := by subst hbr; simp [bigU]
  rw [hq1] at hlq h5
  simp only [Go.Proofs.YtpmcljjhjjmlfaaDoor.u8, add_zero_] at hcc
  have hcca : cutA (some ad) c 1 1 = some ad2 := had2
  rw [hcca] at hcut2
  generalize r[0].toNat = q at *
  have h6 : ((q : Int) == (m : Int)) = false := by simp; omega
  clear hcut hr h1 hcut2 hbr hq1 h5
  go_enter Tryd.func32, Tryd.ntmps32
  go_wp2
  go_ret2
  exact .err (Below.refl _ _)
set_option maxRecDepth 100000 in
set_option maxHeartbeats 3200000 in
theorem readExact_196k (S : Nat → Prop) (B g : Nat) (ty : TypeId) (m : Nat) (A : Option Addr) (b : UInt8) (r : List UInt8) (c : Nat) (w : World) (hr : RB w S A (b :: r)) (hc : r.length + 1 ≤ c) (hcm : c ≤ 9223372036854775807) (hS : Old w S) (cur : List Value) (hg : w.heap[g]? = some (.cells cur.toArray ty (0, 0))) (hcl : cur.length = m) (hm : m ≤ 1048576) (hB : B ≤ g) (hBw : B ≤ w.heap.size) (hSB : ∀ b, S b → b < B) (h1 : b.toNat = 196) (h2 : 1 ≤ r.length) (h5 : bigU (r.take 1) = m) (h7 : m ≤ r.length - 1) :
    Calls Tryd.prog 32 #[.slice A (r.length + 1) c, .slice (some ⟨g, 0, none⟩) m m] w (ReadX S B g ty (some ((r.drop 1).take m, (r.drop 1).drop m)) w) := by
  have hgl : g < w.heap.size := by
    rcases Nat.lt_or_ge g w.heap.size with h | h
    · exact h
    · rw [Array.getElem?_eq_none h] at hg
      cases hg
  obtain ⟨ad, rfl, hb, hc0⟩ := hr.at_ (k := 0) (by simp)
  simp only [u8, add_zero_, List.getElem_cons_zero] at hc0
  have hlt := hS _ hb
  have hcut := hr.cut (k := 1) (cap := c) (by simp) (by simpa using hc)
  simp only [List.drop_succ_cons, List.drop_zero] at hcut
  rw [h1] at hc0
  simp only [Int.cast_ofNat_Int] at hc0
  have h3 : ¬ (r.length : Int) < 1 := by omega
  have hcut2 := hcut.cut (k := 1) (cap := c - 1) h2 (by omega)
  have hlq : bigU (r.take 1) < 256 := by
    have := bigU_lt (r.take 1)
    rw [List.length_take, Nat.min_eq_left h2] at this
    simpa using this
  obtain ⟨b1, r1, hbr⟩ : ∃ b1 r1, r = b1 :: r1 := by
    rcases r with _ | ⟨b1, r1⟩
    · simp at h2
    · exact ⟨b1, r1, rfl⟩
  obtain ⟨ad2, had2, hSb2, hcc⟩ := hcut.at_ (k := 0) (by omega)
  have hq1 : bigU (r.take 1) = r[0].toNat := by subst hbr; simp [bigU]
  rw [hq1] at hlq h5
  simp only [Go.Proofs.YtpmcljjhjjmlfaaDoor.u8, add_zero_] at hcc
  have hcca : cutA (some ad) c 1 1 = some ad2 := had2
  rw [hcca] at hcut2
  generalize r[0].toNat = q at *
  subst h5
  obtain ⟨Y, hY⟩ : ∃ Y, Y = (r.drop 1).take q := ⟨_, rfl⟩
  obtain ⟨Z, hZ⟩ : ∃ Z, Z = (r.drop 1).drop q := ⟨_, rfl⟩
  have hC := hcut2.cut (k := q) (cap := c - 1 - 1) (by rw [List.length_drop]; exact h7) (by rw [List.length_drop]; omega)
  rw [← hY, ← hZ]
  rw [← hZ] at hC
  have hZl : Z.length = r.length - 1 - q := by rw [hZ, List.length_drop, List.length_drop]
  obtain ⟨X, hX⟩ : ∃ X, X = ((r.drop 1).take q).map u8 := ⟨_, rfl⟩
  have hXl : X.length = q := by rw [hX, List.length_map, List.length_take, List.length_drop]; omega
  have hXY : X = Y.map u8 := by rw [hX, hY]
  have HX := hide hX
  have HXY := hide hXY
  have HG0 := hide hg
  have HGL := hide hgl
  have HCL := hide hcl
  have HV := hide hcut2
  have HC := hide hC
  clear hcut hr h1 hcut2 hX hg hcl hY hZ hC hXY hbr hq1
  go_enter Tryd.func32, Tryd.ntmps32
  go_wp2_with (first
    | (refine wpList_copy_splice rfl (.tmp 67) (.tmp 68) _ _ rfl 5 Tryd.underlying26 size5 (some ⟨g, 0, none⟩) (cutA (some ad2) (c - 1) 1 1) q q (r.length - 1) (c - 1 - 1) rfl rfl g 0 cur ty (unhide HG0) X (by rw [hXl]; exact (Nat.min_eq_right h7).symm) (fun hp => ⟨rfl, copy_src (unhide HV) q (by rw [List.length_drop]; exact h7) (unhide HX) hp⟩) (by rw [hXl, unhide HCL, Nat.zero_add]; exact Nat.le_refl _) (one_cells (unhide HX)) B w (Below.refl _ _) hB ?_; intro w2 HG2 hb2))
  go_ret2
  refine .ok hb2 (by omega) (by omega) (by unfold maxLen; omega) ((unhide HC).keep (fun b hb => hb2.block b (hSB b hb))) ?_
  rw [splice_all (hXl.trans (unhide HCL).symm), unhide HXY] at HG2
  exact HG2
set_option maxRecDepth 100000 in
set_option maxHeartbeats 1600000 in
theorem readExact_197s (S : Nat → Prop) (B g : Nat) (ty : TypeId) (m : Nat) (A : Option Addr) (b : UInt8) (r : List UInt8) (c : Nat) (w : World) (hE : ErrAt w) (hr : RB w S A (b :: r)) (hc : r.length + 1 ≤ c) (hcm : c ≤ 9223372036854775807) (hS : Old w S) (h1 : b.toNat = 197) (h2 : r.length < 2) :
    Calls Tryd.prog 32 #[.slice A (r.length + 1) c, .slice (some ⟨g, 0, none⟩) m m] w (ReadX S B g ty none w) := by
  obtain ⟨te, ve, hce⟩ := hE
  obtain ⟨ad, rfl, hb, hc0⟩ := hr.at_ (k := 0) (by simp)
  simp only [u8, add_zero_, List.getElem_cons_zero] at hc0
  have hlt := hS _ hb
  have hcut := hr.cut (k := 1) (cap := c) (by simp) (by simpa using hc)
  simp only [List.drop_succ_cons, List.drop_zero] at hcut
  rw [h1] at hc0
  simp only [Int.cast_ofNat_Int] at hc0
  have h3 : (r.length : Int) < 2 := by omega
  clear hcut hr h1
  go_enter Tryd.func32, Tryd.ntmps32
  go_wp2
  go_ret2
  exact .err (Below.refl _ _)
set_option maxRecDepth 100000 in
set_option maxHeartbeats 3200000 in
theorem readExact_197h (S : Nat → Prop) (B g : Nat) (ty : TypeId) (m : Nat) (A : Option Addr) (b : UInt8) (r : List UInt8) (c : Nat) (w : World) (hr : RB w S A (b :: r)) (hc : r.length + 1 ≤ c) (hcm : c ≤ 9223372036854775807) (hS : Old w S) (hm : m ≤ 1048576) (hBw : B ≤ w.heap.size) (h1 : b.toNat = 197) (h2 : 2 ≤ r.length) (h5 : bigU (r.take 2) ≠ m) :
    Calls Tryd.prog 32 #[.slice A (r.length + 1) c, .slice (some ⟨g, 0, none⟩) m m] w (ReadX S B g ty none w) := by
  obtain ⟨ad, rfl, hb, hc0⟩ := hr.at_ (k := 0) (by simp)
  simp only [u8, add_zero_, List.getElem_cons_zero] at hc0
  have hlt := hS _ hb
  have hcut := hr.cut (k := 1) (cap := c) (by simp) (by simpa using hc)
  simp only [List.drop_succ_cons, List.drop_zero] at hcut
  rw [h1] at hc0
  simp only [Int.cast_ofNat_Int] at hc0
  have h3 : ¬ (r.length : Int) < 2 := by omega
  have hcut2 := hcut.cut (k := 2) (cap := c - 1) h2 (by omega)
  have hlq : bigU (r.take 2) < 65536 := by
    have := bigU_lt (r.take 2)
    rw [List.length_take, Nat.min_eq_left h2] at this
    simpa using this
  have hBE := beu16_any S (cutA (some ad) c 1 1) r r.length (c - 1) w rfl h2 hcut hS
  generalize bigU (r.take 2) = q at *
  have HB := hide hBE
  have h6 : ((q : Int) == (m : Int)) = false := by simp; omega
  clear hcut hr h1 hcut2 hBE h5
  go_enter Tryd.func32, Tryd.ntmps32
  go_wp2_with (go_at_call 45; refine (unhide HB).mono ?_; rintro e w1 ⟨rfl, hb1⟩)
  go_ret2
  exact .err (hb1.mono hBw)
set_option maxRecDepth 100000 in
set_option maxHeartbeats 3200000 in
theorem readExact_197k (S : Nat → Prop) (B g : Nat) (ty : TypeId) (m : Nat) (A : Option Addr) (b : UInt8) (r : List UInt8) (c : Nat) (w : World) (hr : RB w S A (b :: r)) (hc : r.length + 1 ≤ c) (hcm : c ≤ 9223372036854775807) (hS : Old w S) (cur : List Value) (hg : w.heap[g]? = some (.cells cur.toArray ty (0, 0))) (hcl : cur.length = m) (hm : m ≤ 1048576) (hB : B ≤ g) (hBw : B ≤ w.heap.size) (hSB : ∀ b, S b → b < B) (h1 : b.toNat = 197) (h2 : 2 ≤ r.length) (h5 : bigU (r.take 2) = m) (h7 : m ≤ r.length - 2) :
    Calls Tryd.prog 32 #[.slice A (r.length + 1) c, .slice (some ⟨g, 0, none⟩) m m] w (ReadX S B g ty (some ((r.drop 2).take m, (r.drop 2).drop m)) w) := by
  have hgl : g < w.heap.size := by
    rcases Nat.lt_or_ge g w.heap.size with h | h
    · exact h
    · rw [Array.getElem?_eq_none h] at hg
      cases hg
  obtain ⟨ad, rfl, hb, hc0⟩ := hr.at_ (k := 0) (by simp)
  simp only [u8, add_zero_, List.getElem_cons_zero] at hc0
  have hlt := hS _ hb
  have hcut := hr.cut (k := 1) (cap := c) (by simp) (by simpa using hc)
  simp only [List.drop_succ_cons, List.drop_zero] at hcut
  rw [h1] at hc0
  simp only [Int.cast_ofNat_Int] at hc0
  have h3 : ¬ (r.length : Int) < 2 := by omega
  have hcut2 := hcut.cut (k := 2) (cap := c - 1) h2 (by omega)
  have hlq : bigU (r.take 2) < 65536 := by
    have := bigU_lt (r.take 2)
    rw [List.length_take, Nat.min_eq_left h2] at this
    simpa using this
  have hBE := beu16_any S (cutA (some ad) c 1 1) r r.length (c - 1) w rfl h2 hcut hS
  generalize bigU (r.take 2) = q at *
  subst h5
  have HB := hide hBE
  obtain ⟨Y, hY⟩ : ∃ Y, Y = (r.drop 2).take q := ⟨_, rfl⟩
  obtain ⟨Z, hZ⟩ : ∃ Z, Z = (r.drop 2).drop q := ⟨_, rfl⟩
  have hC := hcut2.cut (k := q) (cap := c - 1 - 2) (by rw [List.length_drop]; exact h7) (by rw [List.length_drop]; omega)
  rw [← hY, ← hZ]
  rw [← hZ] at hC
  have hZl : Z.length = r.length - 2 - q := by rw [hZ, List.length_drop, List.length_drop]
  obtain ⟨X, hX⟩ : ∃ X, X = ((r.drop 2).take q).map u8 := ⟨_, rfl⟩
  have hXl : X.length = q := by rw [hX, List.length_map, List.length_take, List.length_drop]; omega
  have hXY : X = Y.map u8 := by rw [hX, hY]
  have HX := hide hX
  have HXY := hide hXY
  have HG0 := hide hg
  have HGL := hide hgl
  have HCL := hide hcl
  have HV := hide hcut2
  have HC := hide hC
  clear hcut hr h1 hcut2 hX hg hcl hY hZ hC hXY hBE
  go_enter Tryd.func32, Tryd.ntmps32
  go_wp2_with (first
    | (go_at_call 45; refine (unhide HB).mono ?_; rintro e w1 ⟨rfl, hb1⟩)
    | (refine wpList_copy_splice rfl (.tmp 67) (.tmp 68) _ _ rfl 5 Tryd.underlying26 size5 (some ⟨g, 0, none⟩) (cutA (cutA (some ad) c 1 1) (c - 1) 2 1) q q (r.length - 2) (c - 1 - 2) rfl rfl g 0 cur ty ((hb1.block g (unhide HGL)).trans (unhide HG0)) X (by rw [hXl]; exact (Nat.min_eq_right h7).symm) (fun hp => ⟨rfl, copy_src ((unhide HV).keep (stays_below (Stays.refl _ _) hb1 hS)) q (by rw [List.length_drop]; exact h7) (unhide HX) hp⟩) (by rw [hXl, unhide HCL, Nat.zero_add]; exact Nat.le_refl _) (one_cells (unhide HX)) B w (hb1.mono hBw) hB ?_; intro w2 HG2 hb2))
  go_ret2
  refine .ok hb2 (by omega) (by omega) (by unfold maxLen; omega) ((unhide HC).keep (fun b hb => hb2.block b (hSB b hb))) ?_
  rw [splice_all (hXl.trans (unhide HCL).symm), unhide HXY] at HG2
  exact HG2
set_option maxRecDepth 100000 in
set_option maxHeartbeats 1600000 in
theorem readExact_198s (S : Nat → Prop) (B g : Nat) (ty : TypeId) (m : Nat) (A : Option Addr) (b : UInt8) (r : List UInt8) (c : Nat) (w : World) (hE : ErrAt w) (hr : RB w S A (b :: r)) (hc : r.length + 1 ≤ c) (hcm : c ≤ 9223372036854775807) (hS : Old w S) (h1 : b.toNat = 198) (h2 : r.length < 4) :
    Calls Tryd.prog 32 #[.slice A (r.length + 1) c, .slice (some ⟨g, 0, none⟩) m m] w (ReadX S B g ty none w) := by
  obtain ⟨te, ve, hce⟩ := hE
  obtain ⟨ad, rfl, hb, hc0⟩ := hr.at_ (k := 0) (by simp)
  simp only [u8, add_zero_, List.getElem_cons_zero] at hc0
  have hlt := hS _ hb
  have hcut := hr.cut (k := 1) (cap := c) (by simp) (by simpa using hc)
  simp only [List.drop_succ_cons, List.drop_zero] at hcut
  rw [h1] at hc0
  simp only [Int.cast_ofNat_Int] at hc0
  have h3 : (r.length : Int) < 4 := by omega
  clear hcut hr h1
  go_enter Tryd.func32, Tryd.ntmps32
  go_wp2
  go_ret2
  exact .err (Below.refl _ _)
set_option maxRecDepth 100000 in
set_option maxHeartbeats 3200000 in
theorem readExact_198h (S : Nat → Prop) (B g : Nat) (ty : TypeId) (m : Nat) (A : Option Addr) (b : UInt8) (r : List UInt8) (c : Nat) (w : World) (hr : RB w S A (b :: r)) (hc : r.length + 1 ≤ c) (hcm : c ≤ 9223372036854775807) (hS : Old w S) (hm : m ≤ 1048576) (hBw : B ≤ w.heap.size) (h1 : b.toNat = 198) (h2 : 4 ≤ r.length) (h5 : bigU (r.take 4) ≠ m) :
    Calls Tryd.prog 32 #[.slice A (r.length + 1) c, .slice (some ⟨g, 0, none⟩) m m] w (ReadX S B g ty none w) := by
  obtain ⟨ad, rfl, hb, hc0⟩ := hr.at_ (k := 0) (by simp)
  simp only [u8, add_zero_, List.getElem_cons_zero] at hc0
  have hlt := hS _ hb
  have hcut := hr.cut (k := 1) (cap := c) (by simp) (by simpa using hc)
  simp only [List.drop_succ_cons, List.drop_zero] at hcut
  rw [h1] at hc0
  simp only [Int.cast_ofNat_Int] at hc0
  have h3 : ¬ (r.length : Int) < 4 := by omega
  have hcut2 := hcut.cut (k := 4) (cap := c - 1) h2 (by omega)
  have hlq : bigU (r.take 4) < 4294967296 := by
    have := bigU_lt (r.take 4)
    rw [List.length_take, Nat.min_eq_left h2] at this
    simpa using this
  have hBE := beu32_any S (cutA (some ad) c 1 1) r r.length (c - 1) w rfl h2 hcut hS
  generalize bigU (r.take 4) = q at *
  have HB := hide hBE
  have h6 : ((q : Int) == (m : Int)) = false := by simp; omega
  clear hcut hr h1 hcut2 hBE h5
  go_enter Tryd.func32, Tryd.ntmps32
  go_wp2_with (go_at_call 46; refine (unhide HB).mono ?_; rintro e w1 ⟨rfl, hb1⟩)
  go_ret2
  exact .err (hb1.mono hBw)
set_option maxRecDepth 100000 in
set_option maxHeartbeats 3200000 in
theorem readExact_198k (S : Nat → Prop) (B g : Nat) (ty : TypeId) (m : Nat) (A : Option Addr) (b : UInt8) (r : List UInt8) (c : Nat) (w : World) (hr : RB w S A (b :: r)) (hc : r.length + 1 ≤ c) (hcm : c ≤ 9223372036854775807) (hS : Old w S) (cur : List Value) (hg : w.heap[g]? = some (.cells cur.toArray ty (0, 0))) (hcl : cur.length = m) (hm : m ≤ 1048576) (hB : B ≤ g) (hBw : B ≤ w.heap.size) (hSB : ∀ b, S b → b < B) (h1 : b.toNat = 198) (h2 : 4 ≤ r.length) (h5 : bigU (r.take 4) = m) (h7 : m ≤ r.length - 4) :
    Calls Tryd.prog 32 #[.slice A (r.length + 1) c, .slice (some ⟨g, 0, none⟩) m m] w (ReadX S B g ty (some ((r.drop 4).take m, (r.drop 4).drop m)) w) := by
  have hgl : g < w.heap.size := by
    rcases Nat.lt_or_ge g w.heap.size with h | h
    · exact h
    · rw [Array.getElem?_eq_none h] at hg
      cases hg
  obtain ⟨ad, rfl, hb, hc0⟩ := hr.at_ (k := 0) (by simp)
  simp only [u8, add_zero_, List.getElem_cons_zero] at hc0
  have hlt := hS _ hb
  have hcut := hr.cut (k := 1) (cap := c) (by simp) (by simpa using hc)
  simp only [List.drop_succ_cons, List.drop_zero] at hcut
  rw [h1] at hc0
  simp only [Int.cast_ofNat_Int] at hc0
  have h3 : ¬ (r.length : Int) < 4 := by omega
  have hcut2 := hcut.cut (k := 4) (cap := c - 1) h2 (by omega)
  have hlq : bigU (r.take 4) < 4294967296 := by
    have := bigU_lt (r.take 4)
    rw [List.length_take, Nat.min_eq_left h2] at this
    simpa using this
  have hBE := beu32_any S (cutA (some ad) c 1 1) r r.length (c - 1) w rfl h2 hcut hS
  generalize bigU (r.take 4) = q at *
  subst h5
  have HB := hide hBE
  obtain ⟨Y, hY⟩ : ∃ Y, Y = (r.drop 4).take q := ⟨_, rfl⟩
  obtain ⟨Z, hZ⟩ : ∃ Z, Z = (r.drop 4).drop q := ⟨_, rfl⟩
  have hC := hcut2.cut (k := q) (cap := c - 1 - 4) (by rw [List.length_drop]; exact h7) (by rw [List.length_drop]; omega)
  rw [← hY, ← hZ]
  rw [← hZ] at hC
  have hZl : Z.length = r.length - 4 - q := by rw [hZ, List.length_drop, List.length_drop]
  obtain ⟨X, hX⟩ : ∃ X, X = ((r.drop 4).take q).map u8 := ⟨_, rfl⟩
  have hXl : X.length = q := by rw [hX, List.length_map, List.length_take, List.length_drop]; omega
  have hXY : X = Y.map u8 := by rw [hX, hY]
  have HX := hide hX
  have HXY := hide hXY
  have HG0 := hide hg
  have HGL := hide hgl
  have HCL := hide hcl
  have HV := hide hcut2
  have HC := hide hC
  clear hcut hr h1 hcut2 hX hg hcl hY hZ hC hXY hBE
  go_enter Tryd.func32, Tryd.ntmps32
  go_wp2_with (first
    | (go_at_call 46; refine (unhide HB).mono ?_; rintro e w1 ⟨rfl, hb1⟩)
    | (refine wpList_copy_splice rfl (.tmp 67) (.tmp 68) _ _ rfl 5 Tryd.underlying26 size5 (some ⟨g, 0, none⟩) (cutA (cutA (some ad) c 1 1) (c - 1) 4 1) q q (r.length - 4) (c - 1 - 4) rfl rfl g 0 cur ty ((hb1.block g (unhide HGL)).trans (unhide HG0)) X (by rw [hXl]; exact (Nat.min_eq_right h7).symm) (fun hp => ⟨rfl, copy_src ((unhide HV).keep (stays_below (Stays.refl _ _) hb1 hS)) q (by rw [List.length_drop]; exact h7) (unhide HX) hp⟩) (by rw [hXl, unhide HCL, Nat.zero_add]; exact Nat.le_refl _) (one_cells (unhide HX)) B w (hb1.mono hBw) hB ?_; intro w2 HG2 hb2))
  go_ret2
  refine .ok hb2 (by omega) (by omega) (by unfold maxLen; omega) ((unhide HC).keep (fun b hb => hb2.block b (hSB b hb))) ?_
  rw [splice_all (hXl.trans (unhide HCL).symm), unhide HXY] at HG2
  exact HG2
set_option maxRecDepth 100000 in
set_option maxHeartbeats 1600000 in
theorem readExact_bad (S : Nat → Prop) (B g : Nat) (ty : TypeId) (m : Nat) (A : Option Addr) (b : UInt8) (r : List UInt8) (c : Nat) (w : World) (hr : RB w S A (b :: r)) (hc : r.length + 1 ≤ c) (hcm : c ≤ 9223372036854775807) (hS : Old w S) (hBw : B ≤ w.heap.size) (h196 : b.toNat ≠ 196) (h197 : b.toNat ≠ 197) (h198 : b.toNat ≠ 198) :
    Calls Tryd.prog 32 #[.slice A (r.length + 1) c, .slice (some ⟨g, 0, none⟩) m m] w (ReadX S B g ty none w) := by
  obtain ⟨ad, rfl, hb, hc0⟩ := hr.at_ (k := 0) (by simp)
  simp only [u8, add_zero_, List.getElem_cons_zero] at hc0
  have hlt := hS _ hb
  have hcut := hr.cut (k := 1) (cap := c) (by simp) (by simpa using hc)
  simp only [List.drop_succ_cons, List.drop_zero] at hcut
  have hv := b.toNat_lt
  generalize b.toNat = x at *
  have e196 : ((x : Int) == 196) = false := by simp; omega
  have e197 : ((x : Int) == 197) = false := by simp; omega
  have e198 : ((x : Int) == 198) = false := by simp; omega
  clear hcut hr h196 h197 h198
  go_enter Tryd.func32, Tryd.ntmps32
  go_wp2_with (go_at_call 37; refine (badPrefix_any _ x hv _).mono ?_; rintro e w1 ⟨te, ve, rfl, hb1⟩)
  go_ret2
  exact .err (hb1.mono hBw)
theorem readExact_any (S : Nat → Prop) (B g : Nat) (ty : TypeId) (m : Nat) (A : Option Addr) (bs : List UInt8) (n c : Nat) (w : World) (hE : ErrAt w) (hn : n = bs.length) (hr : RB w S A bs) (hc : n ≤ c) (hcm : c ≤ 9223372036854775807) (hS : Old w S) (cur : List Value) (hg : w.heap[g]? = some (.cells cur.toArray ty (0, 0))) (hcl : cur.length = m) (hm : m ≤ 1048576) (hB : B ≤ g) (hBw : B ≤ w.heap.size) (hSB : ∀ b, S b → b < B)
    (hfull : ∀ s x, exactR m bs = some (s, x) → s.length = m) :
    Calls Tryd.prog 32 #[.slice A n c, .slice (some ⟨g, 0, none⟩) m m] w (ReadX S B g ty (exactR m bs) w) := by
  subst hn
  rcases bs with _ | ⟨b, r⟩
  · exact readExact_nil S B g ty m A c w hE
  simp only [List.length_cons] at hc ⊢
  simp only [exactR] at hfull ⊢
  by_cases h196 : b.toNat = 196
  · rw [if_pos h196] at hfull ⊢
    by_cases hs : r.length < 1
    · rw [if_pos hs]
      exact readExact_196s S B g ty m A b r c w hE hr hc hcm hS h196 hs
    · rw [if_neg hs] at hfull ⊢
      unfold cutX at hfull ⊢
      by_cases h5 : bigU (r.take 1) = m
      · rw [if_pos h5] at hfull ⊢
        have h7 := hfull _ _ rfl
        rw [List.length_take, List.length_drop] at h7
        exact readExact_196k S B g ty m A b r c w hr hc hcm hS cur hg hcl hm hB hBw hSB h196 (by omega) h5 (by omega)
      · rw [if_neg h5]
        exact readExact_196h S B g ty m A b r c w hr hc hcm hS hm hBw h196 (by omega) h5
  rw [if_neg h196] at hfull ⊢
  by_cases h197 : b.toNat = 197
  · rw [if_pos h197] at hfull ⊢
    by_cases hs : r.length < 2
    · rw [if_pos hs]
      exact readExact_197s S B g ty m A b r c w hE hr hc hcm hS h197 hs
    · rw [if_neg hs] at hfull ⊢
      unfold cutX at hfull ⊢
      by_cases h5 : bigU (r.take 2) = m
      · rw [if_pos h5] at hfull ⊢
        have h7 := hfull _ _ rfl
        rw [List.length_take, List.length_drop] at h7
        exact readExact_197k S B g ty m A b r c w hr hc hcm hS cur hg hcl hm hB hBw hSB h197 (by omega) h5 (by omega)
      · rw [if_neg h5]
        exact readExact_197h S B g ty m A b r c w hr hc hcm hS hm hBw h197 (by omega) h5
  rw [if_neg h197] at hfull ⊢
  by_cases h198 : b.toNat = 198
  · rw [if_pos h198] at hfull ⊢
    by_cases hs : r.length < 4
    · rw [if_pos hs]
      exact readExact_198s S B g ty m A b r c w hE hr hc hcm hS h198 hs
    · rw [if_neg hs] at hfull ⊢
      unfold cutX at hfull ⊢
      by_cases h5 : bigU (r.take 4) = m
      · rw [if_pos h5] at hfull ⊢
        have h7 := hfull _ _ rfl
        rw [List.length_take, List.length_drop] at h7
        exact readExact_198k S B g ty m A b r c w hr hc hcm hS cur hg hcl hm hB hBw hSB h198 (by omega) h5 (by omega)
      · rw [if_neg h5]
        exact readExact_198h S B g ty m A b r c w hr hc hcm hS hm hBw h198 (by omega) h5
  rw [if_neg h198] at hfull ⊢
  exact readExact_bad S B g ty m A b r c w hr hc hcm hS hBw h196 h197 h198
end Go.Proofs.YtpmcljjhjjmlfaaDoor
