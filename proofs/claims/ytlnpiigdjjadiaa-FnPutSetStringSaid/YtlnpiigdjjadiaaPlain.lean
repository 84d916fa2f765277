/-
  Plain functions on bytes: MessagePack's values and the reference's reader of them (spec.TakePack), as functions on lists. No Go in it.
-/
import Init
namespace Go.Proofs.Ytlnpiigdjjadiaa
set_option linter.unusedSimpArgs false
set_option linter.unusedVariables false
/-- A number of so many bytes, the highest first. -/
def bigN (l : List UInt8) : Nat := l.foldl (fun u b => u * 256 + b.toNat) 0
theorem bigN_snoc (l : List UInt8) (b : UInt8) : bigN (l ++ [b]) = bigN l * 256 + b.toNat := by simp [bigN]
theorem foldl_lt (l : List UInt8) : ∀ (u n : Nat), u < 256 ^ n → l.foldl (fun u b => u * 256 + b.toNat) u < 256 ^ (n + l.length) := by
  induction l with
  | nil => intro u n h; simpa using h
  | cons b l ih =>
    intro u n h
    have hb := b.toNat_lt
    have := ih (u * 256 + b.toNat) (n + 1) (by rw [Nat.pow_succ]; omega)
    rw [List.foldl_cons, List.length_cons]
    rwa [show n + (l.length + 1) = n + 1 + l.length by omega]
theorem bigN_lt (l : List UInt8) : bigN l < 256 ^ l.length := by
  have := foldl_lt l 0 0 (by simp)
  simpa [bigN] using this
theorem bigN_lt7 (bs : List UInt8) (k : Nat) (h : k ≤ 7) : bigN (bs.take k) < 72057594037927936 := by
  have h1 := bigN_lt (bs.take k)
  have h2 : 256 ^ (bs.take k).length ≤ 256 ^ 7 := Nat.pow_le_pow_right (by omega) (by simp; omega)
  omega
theorem bigN_lt8 (bs : List UInt8) (k : Nat) (h : k ≤ 8) : bigN (bs.take k) < 18446744073709551616 := by
  have h1 := bigN_lt (bs.take k)
  have h2 : 256 ^ (bs.take k).length ≤ 256 ^ 8 := Nat.pow_le_pow_right (by omega) (by simp; omega)
  omega
theorem bigN_take_succ (bs : List UInt8) (k : Nat) (h : k < bs.length) : bigN (bs.take (k + 1)) = bigN (bs.take k) * 256 + bs[k].toNat := by
  rw [List.take_succ_eq_append_getElem h, bigN_snoc]

/-- A value of MessagePack, as impl.Pack has it. -/
inductive Pack where
  | mk (kind : Int) (num : Nat) (text : List UInt8) (ext : Int) (kids : List Pack)
def i8of (n : Nat) : Int := if n < 128 then n else (n : Int) - 256
def tText (kind : Int) (n : Nat) (bs : List UInt8) : Option (Pack × List UInt8) :=
  if bs.length < n then none else some (.mk kind 0 (bs.take n) 0 [], bs.drop n)
def tExt (n : Nat) : List UInt8 → Option (Pack × List UInt8)
  | [] => none
  | t :: r => if r.length < n then none else some (.mk 10 0 (r.take n) (i8of t.toNat) [], r.drop n)
def tKids (f : List UInt8 → Option (Pack × List UInt8)) : Nat → List UInt8 → Option (List Pack × List UInt8)
  | 0, bs => some ([], bs)
  | n + 1, bs => match f bs with
    | none => none
    | some (p, r) => match tKids f n r with
      | none => none
      | some (ps, r) => some (p :: ps, r)
def tList (f : List UInt8 → Option (Pack × List UInt8)) (kind : Int) (n : Nat) (bs : List UInt8) : Option (Pack × List UInt8) :=
  (tKids f n bs).map fun x => (.mk kind 0 [] 0 x.1, x.2)
/-- How many bytes of a number follow a code. -/
def codeSizes : List (Int × Int) :=
  [(196, 1), (197, 2), (198, 4), (199, 1), (200, 2), (201, 4), (202, 4), (203, 8), (204, 1), (205, 2), (206, 4), (207, 8), (208, 1), (209, 2), (210, 4), (211, 8),
   (217, 1), (218, 2), (219, 4), (220, 2), (221, 4), (222, 2), (223, 4)]
def codeSize (b : Nat) : Nat :=
  if b < 196 then 0 else if b < 212 then [1, 2, 4, 1, 2, 4, 4, 8, 1, 2, 4, 8, 1, 2, 4, 8].getD (b - 196) 0 else if b < 217 then 0 else [1, 2, 4, 2, 4, 2, 4].getD (b - 217) 0
/-- A number of s bytes with a sign. -/
def signed (s : Nat) (u : Nat) : Int := if u < 2 ^ (8 * s - 1) then (u : Int) else (u : Int) - 2 ^ (8 * s)
def tCoded (f : List UInt8 → Option (Pack × List UInt8)) (b : Nat) (bs : List UInt8) : Option (Pack × List UInt8) :=
  let s := codeSize b
  if bs.length < s ∨ b = 193 then none else
  let u := bigN (bs.take s)
  let r := bs.drop s
  if b = 192 then some (.mk 0 0 [] 0 [], r) else
  if b = 194 ∨ b = 195 then some (.mk 1 (b - 194) [] 0 [], r) else
  if b ≤ 198 then tText 7 u r else
  if b ≤ 201 then tExt u r else
  if b = 202 then some (.mk 4 u [] 0 [], r) else
  if b = 203 then some (.mk 5 u [] 0 [], r) else
  if b ≤ 207 then some (.mk 3 u [] 0 [], r) else
  if b ≤ 211 then
    if 0 ≤ signed s u then some (.mk 3 u [] 0 [], r) else some (.mk 2 (signed s u + 18446744073709551616).toNat [] 0 [], r)
  else
  if b ≤ 216 then tExt (2 ^ (b - 212)) r else
  if b ≤ 219 then tText 6 u r else
  if r.length < u then none else
  if b ≤ 221 then tList f 8 u r else
  if r.length < 2 * u then none else tList f 9 (2 * u) r
/-- spec.TakePack. -/
def tPack : Nat → List UInt8 → Option (Pack × List UInt8)
  | 0, _ => none
  | _ + 1, [] => none
  | lv + 1, c :: r =>
    let b := c.toNat
    if b < 128 then some (.mk 3 b [] 0 [], r) else
    if 224 ≤ b then some (.mk 2 (b + 18446744073709551360) [] 0 [], r) else
    if b < 144 then tList (tPack lv) 9 (2 * (b % 16)) r else
    if b < 160 then tList (tPack lv) 8 (b % 16) r else
    if b < 192 then tText 6 (b % 32) r else
    tCoded (tPack lv) b r
/-- What is left is no longer than what there was. -/
theorem tText_len {kind : Int} {n : Nat} {bs r : List UInt8} {p : Pack} (h : tText kind n bs = some (p, r)) : r.length ≤ bs.length := by
  unfold tText at h
  split at h
  · cases h
  · simp only [Option.some.injEq, Prod.mk.injEq] at h
    rw [← h.2, List.length_drop]
    omega
theorem tExt_len {n : Nat} {bs r : List UInt8} {p : Pack} (h : tExt n bs = some (p, r)) : r.length ≤ bs.length := by
  rcases bs with _ | ⟨t, bs⟩
  · cases h
  · simp only [tExt] at h
    by_cases hn : bs.length < n
    · rw [if_pos hn] at h
      cases h
    · rw [if_neg hn] at h
      injection h with h
      injection h with _ h
      rw [← h, List.length_drop, List.length_cons]
      omega
theorem tKids_len {f : List UInt8 → Option (Pack × List UInt8)} (hf : ∀ bs p r, f bs = some (p, r) → r.length < bs.length) : ∀ (n : Nat) (bs : List UInt8) (ps : List Pack) (r : List UInt8), tKids f n bs = some (ps, r) → r.length + n ≤ bs.length ∧ ps.length = n
  | 0, bs, ps, r, h => by
    simp only [tKids, Option.some.injEq, Prod.mk.injEq] at h
    rw [← h.1, ← h.2]
    simp
  | n + 1, bs, ps, r, h => by
    simp only [tKids] at h
    split at h
    · cases h
    · rename_i p r1 h1
      split at h
      · cases h
      · rename_i qs r2 h2
        simp only [Option.some.injEq, Prod.mk.injEq] at h
        have e1 := hf _ _ _ h1
        have e2 := tKids_len hf n _ _ _ h2
        rw [← h.1, ← h.2]
        simp
        omega
theorem tList_len {f : List UInt8 → Option (Pack × List UInt8)} (hf : ∀ bs p r, f bs = some (p, r) → r.length < bs.length) {kind : Int} {n : Nat} {bs r : List UInt8} {p : Pack} (h : tList f kind n bs = some (p, r)) : r.length ≤ bs.length := by
  unfold tList at h
  rcases hk : tKids f n bs with _ | ⟨ps, r1⟩
  · rw [hk] at h
    cases h
  · rw [hk] at h
    simp only [Option.map_some, Option.some.injEq, Prod.mk.injEq] at h
    have := tKids_len hf n bs ps r1 hk
    rw [← h.2]
    omega
/-- What is left is at most n long. -/
def LeN (n : Nat) : Option (Pack × List UInt8) → Prop
  | none => True
  | some x => x.2.length ≤ n
theorem LeN.ite {n : Nat} {c : Prop} [Decidable c] {a b : Option (Pack × List UInt8)} (ha : LeN n a) (hb : LeN n b) : LeN n (if c then a else b) := by
  split <;> assumption
theorem LeN.none_ {n : Nat} : LeN n none := trivial
theorem LeN.some_ {n : Nat} {p : Pack} {r : List UInt8} (h : r.length ≤ n) : LeN n (some (p, r)) := h
theorem LeN.of {n : Nat} {o : Option (Pack × List UInt8)} (h : ∀ p r, o = some (p, r) → r.length ≤ n) : LeN n o := by
  rcases o with _ | ⟨p, r⟩
  · trivial
  · exact h p r rfl
theorem LeN.get {n : Nat} {o : Option (Pack × List UInt8)} (h : LeN n o) {p : Pack} {r : List UInt8} (e : o = some (p, r)) : r.length ≤ n := by
  subst e
  exact h
theorem tCoded_le {f : List UInt8 → Option (Pack × List UInt8)} (hf : ∀ bs p r, f bs = some (p, r) → r.length < bs.length) (b : Nat) (bs : List UInt8) : LeN bs.length (tCoded f b bs) := by
  have hd : (bs.drop (codeSize b)).length ≤ bs.length := by simp
  unfold tCoded
  simp only
  repeat' (with_reducible refine LeN.ite ?_ ?_)
  all_goals first
    | exact LeN.none_
    | exact LeN.some_ hd
    | exact LeN.of fun _ _ h => Nat.le_trans (tText_len h) hd
    | exact LeN.of fun _ _ h => Nat.le_trans (tExt_len h) hd
    | exact LeN.of fun _ _ h => Nat.le_trans (tList_len hf h) hd
theorem tPack_le : ∀ (lv : Nat) (bs : List UInt8) (p : Pack) (r : List UInt8), tPack lv bs = some (p, r) → r.length < bs.length
  | 0, _, _, _, h => by cases h
  | _ + 1, [], _, _, h => by cases h
  | lv + 1, c :: bs, p, r, h => by
    have hf := tPack_le lv
    have hl : LeN bs.length (tPack (lv + 1) (c :: bs)) := by
      unfold tPack
      simp only
      repeat' (with_reducible refine LeN.ite ?_ ?_)
      all_goals first
        | exact LeN.some_ (Nat.le_refl _)
        | exact LeN.of fun _ _ h => tText_len h
        | exact LeN.of fun _ _ h => tList_len hf h
        | exact tCoded_le hf _ _
    exact Nat.lt_succ_of_le (hl.get h)
theorem tPack_len (lv : Nat) (bs : List UInt8) (p : Pack) (r : List UInt8) (h : tPack lv bs = some (p, r)) : r.length < bs.length := tPack_le lv bs p r h
end Go.Proofs.Ytlnpiigdjjadiaa
