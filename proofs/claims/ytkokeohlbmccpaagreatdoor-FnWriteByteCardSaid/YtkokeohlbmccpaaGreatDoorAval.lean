/-
  Values of AMQP: the plain functions that the reference computes (spec.TakeValue and its kin), and what it means that cells hold such a value. No condition.
-/
import Derived.Test.YtkokeohlbmccpaaGreatDoorWords
import Derived.Lib.ValidU
namespace Go.Proofs.YtkokeohlbmccpaaGreatDoor
set_option linter.unusedSimpArgs false
set_option linter.unusedVariables false
open Go.RowKit
/-- A value of AMQP: kind, number, text, values, the kind of an empty array, descriptor. -/
inductive AV where
  | mk (kind : Int) (num : Nat) (text : List UInt8) (kids : List AV) (of : Int) (desc : List AV)
/-- A number, the highest byte first. -/
def bigA (bs : List UInt8) : Nat := bs.foldl (fun a b => a * 256 + b.toNat) 0
theorem bigA_snoc (bs : List UInt8) (b : UInt8) : bigA (bs ++ [b]) = bigA bs * 256 + b.toNat := by simp [bigA]
theorem bigA_take (bs : List UInt8) (k : Nat) (h : k < bs.length) : bigA (bs.take (k + 1)) = bigA (bs.take k) * 256 + bs[k].toNat := by
  rw [List.take_succ_eq_append_getElem h, bigA_snoc]
theorem bigA_lt_take (bs : List UInt8) : ∀ k, bigA (bs.take k) < 256 ^ k := by
  intro k
  induction k with
  | zero => simp [bigA]
  | succ k ih =>
    rcases Nat.lt_or_ge k bs.length with h | h
    · rw [bigA_take bs k h, Nat.pow_succ]
      have := bs[k].toNat_lt
      omega
    · rw [List.take_of_length_le (by omega)] at ih ⊢
      rw [Nat.pow_succ]
      have := Nat.pow_pos (n := k) (show 0 < 256 by omega)
      omega
theorem bigA_lt7 (bs : List UInt8) (k : Nat) (h : k ≤ 7) : bigA (bs.take k) < 72057594037927936 := by
  have h1 := bigA_lt_take bs k
  have h2 : 256 ^ k ≤ 256 ^ 7 := Nat.pow_le_pow_right (by omega) h
  have : (256 : Nat) ^ 7 = 72057594037927936 := rfl
  omega
theorem bigA_lt8 (bs : List UInt8) (k : Nat) (h : k ≤ 8) : bigA (bs.take k) < 18446744073709551616 := by
  have h1 := bigA_lt_take bs k
  have h2 : 256 ^ k ≤ 256 ^ 8 := Nat.pow_le_pow_right (by omega) h
  have : (256 : Nat) ^ 8 = 18446744073709551616 := rfl
  omega
/-- Where the reference's table of codes is built (slot, code, kind, size). -/
def kindTab : List (Nat × Int × Int × Int) := [(8, 64, 0, 0), (9, 65, 1, 0), (10, 66, 1, 0), (11, 67, 4, 0), (12, 68, 5, 0), (13, 69, 21, 0), (14, 80, 2, 1), (15, 81, 6, 1), (16, 82, 4, 1), (17, 83, 5, 1), (18, 84, 8, 1), (19, 85, 9, 1), (20, 86, 1, 1), (21, 96, 3, 2), (22, 97, 7, 2), (23, 112, 4, 4), (24, 113, 8, 4), (25, 114, 10, 4), (26, 115, 15, 4), (27, 116, 12, 4), (28, 128, 5, 8), (29, 129, 9, 8), (30, 130, 11, 8), (31, 131, 16, 8), (32, 132, 13, 8), (33, 148, 14, 16), (34, 152, 17, 16), (35, 160, 18, 1), (36, 176, 18, 4), (37, 161, 19, 1), (38, 177, 19, 4), (39, 163, 20, 1), (40, 179, 20, 4), (41, 192, 21, 1), (42, 208, 21, 4), (43, 193, 22, 1), (44, 209, 22, 4), (45, 224, 23, 1), (46, 240, 23, 4)]
/-- Kind and size of a code. -/
def kOf : Nat → Option (Nat × Nat)
  | 64 => some (0, 0)
  | 65 => some (1, 0)
  | 66 => some (1, 0)
  | 67 => some (4, 0)
  | 68 => some (5, 0)
  | 69 => some (21, 0)
  | 80 => some (2, 1)
  | 81 => some (6, 1)
  | 82 => some (4, 1)
  | 83 => some (5, 1)
  | 84 => some (8, 1)
  | 85 => some (9, 1)
  | 86 => some (1, 1)
  | 96 => some (3, 2)
  | 97 => some (7, 2)
  | 112 => some (4, 4)
  | 113 => some (8, 4)
  | 114 => some (10, 4)
  | 115 => some (15, 4)
  | 116 => some (12, 4)
  | 128 => some (5, 8)
  | 129 => some (9, 8)
  | 130 => some (11, 8)
  | 131 => some (16, 8)
  | 132 => some (13, 8)
  | 148 => some (14, 16)
  | 152 => some (17, 16)
  | 160 => some (18, 1)
  | 176 => some (18, 4)
  | 161 => some (19, 1)
  | 177 => some (19, 4)
  | 163 => some (20, 1)
  | 179 => some (20, 4)
  | 192 => some (21, 1)
  | 208 => some (21, 4)
  | 193 => some (22, 1)
  | 209 => some (22, 4)
  | 224 => some (23, 1)
  | 240 => some (23, 4)
  | _ => none
theorem kOf_bd (c k s : Nat) (h : kOf c = some (k, s)) : k ≤ 23 ∧ s ≤ 16 ∧ (s ≤ 8 ∨ s = 16) ∧ (s = 16 → k = 14 ∨ k = 17) ∧ (18 ≤ k → c ≠ 69 → 1 ≤ s ∧ s ≤ 4) ∧ (6 ≤ k → k ≤ 9 → s = 1 ∨ s = 2 ∨ s = 4 ∨ s = 8) ∧ (k = 1 → s ≤ 1 ∧ (s = 0 → 65 ≤ c ∧ c ≤ 66)) ∧ (k = 0 → s = 0) ∧ (c = 69 → k = 21 ∧ s = 0) := by
  unfold kOf at h
  split at h <;> first | (cases h; omega) | cases h
def asciiB (l : List UInt8) : Bool := l.all fun c => decide (c.toNat < 128)
/-- A number with a sign, of so many bytes, as 64 bits. -/
def sgn (size u : Nat) : Nat := if 2 * u < 256 ^ size then u else u + (18446744073709551616 - 256 ^ size)
abbrev VRes := Option (AV × List UInt8)
abbrev CRes := Option (List AV × Nat × List UInt8)
abbrev LRes := Option (List AV × List UInt8)
/-- So many values, one behind the other. (The outer 'none', here and below: a string or a symbol was met: of such data nothing is said.) -/
def loopA (f : List UInt8 → Option VRes) : Nat → List UInt8 → Option LRes
  | 0, bs => some (some ([], bs))
  | n + 1, bs => match f bs with
    | none => none
    | some none => some none
    | some (some (v, r)) => match loopA f n r with
      | none => none
      | some none => some none
      | some (some (l, r')) => some (some (v :: l, r'))
def consW (val : List UInt8 → Option VRes) (bs : List UInt8) : Option CRes :=
  match bs with
  | [] => some none
  | b :: r => if b ≠ 0 then some (some ([], b.toNat, r)) else
    match val r with
    | none => none
    | some none => some none
    | some (some (_, [])) => some none
    | some (some (d, c :: r')) => if c = 0 then some none else some (some ([d], c.toNat, r'))
def listW (kind : Nat) (desc : List AV) (rest : List UInt8) : Option LRes → Option VRes
  | none => none
  | some (some (l, [])) => some (some (.mk kind 0 [] l 0 desc, rest))
  | some _ => some none
def withinW (cons : List UInt8 → Option CRes) (val : List UInt8 → Option VRes) (take : List AV → Nat → List UInt8 → Option VRes) (desc : List AV) (kind u size : Nat) (rest : List UInt8) : Option VRes :=
  if rest.length < u ∨ u < size then some none else
  let count := bigA ((rest.take u).take size)
  let body := (rest.take u).drop size
  if (kind = 22 ∧ count % 2 = 1) ∨ 1048576 < count then some none else
  if kind = 23 then
    match cons body with
    | none => none
    | some none => some none
    | some (some (d, c, b2)) =>
      if count = 0 then some (match kOf c with
        | none => none
        | some (k, _) => if b2 = [] then some (.mk kind 0 [] [] k desc, rest.drop u) else none)
      else listW kind desc (rest.drop u) (loopA (take d c) count b2)
  else listW kind desc (rest.drop u) (loopA val count body)
def takeW (cons : List UInt8 → Option CRes) (val : List UInt8 → Option VRes) (take : List AV → Nat → List UInt8 → Option VRes) (desc : List AV) (code : Nat) (bs : List UInt8) : Option VRes :=
  match kOf code with
  | none => some none
  | some (kind, size) =>
    if size = 16 then some (if bs.length < 16 then none else some (.mk kind 0 (bs.take 16) [] 0 desc, bs.drop 16)) else
    if bs.length < size then some none else
    let u := bigA (bs.take size)
    let rest := bs.drop size
    if kind = 0 ∨ code = 69 then some (some (.mk kind 0 [] [] 0 desc, rest)) else
    if kind = 1 then
      let b := if size = 0 then 66 - code else u
      some (if b ≤ 1 then some (.mk kind b [] [] 0 desc, rest) else none) else
    if 21 ≤ kind then withinW cons val take desc kind u size rest else
    if 18 ≤ kind then
      if rest.length < u then some none else
      if kind = 18 then some (some (.mk kind 0 (rest.take u) [] 0 desc, rest.drop u)) else none else
    some (some (.mk kind (if 6 ≤ kind ∧ kind ≤ 9 then sgn size u else u) [] [] 0 desc, rest))
structure Lvl where
  cons : List UInt8 → Option CRes
  val : List UInt8 → Option VRes
  take : List AV → Nat → List UInt8 → Option VRes
def lvl : Nat → Lvl
  | 0 => ⟨fun _ => some none, fun _ => some none, fun _ _ _ => none⟩
  | n + 1 =>
    let p := lvl n
    ⟨consW p.val, fun bs => match consW p.val bs with
      | none => none
      | some none => some none
      | some (some (d, c, r)) => takeW p.cons p.val p.take d c r, takeW p.cons p.val p.take⟩
theorem loopA_len {f : List UInt8 → Option VRes} (hf : ∀ bs v r, f bs = some (some (v, r)) → r.length ≤ bs.length) : ∀ (n : Nat) (bs : List UInt8) (l : List AV) (r : List UInt8), loopA f n bs = some (some (l, r)) → r.length ≤ bs.length
  | 0, bs, l, r, h => by
    simp only [loopA, Option.some.injEq, Prod.mk.injEq] at h
    rw [h.2]
    exact Nat.le_refl _
  | n + 1, bs, l, r, h => by
    simp only [loopA] at h
    split at h
    · cases h
    · cases h
    · rename_i hx
      split at h
      · cases h
      · cases h
      · rename_i hy
        simp only [Option.some.injEq, Prod.mk.injEq] at h
        have h1 := hf _ _ _ hx
        have h2 := loopA_len hf n _ _ _ hy
        rw [← h.2]
        omega
theorem listW_len {kind : Nat} {desc : List AV} {rest : List UInt8} {x : Option LRes} {v : AV} {r : List UInt8} (h : listW kind desc rest x = some (some (v, r))) : r = rest := by
  unfold listW at h
  split at h
  · cases h
  · simp only [Option.some.injEq, Prod.mk.injEq] at h
    exact h.2.symm
  · cases h
theorem consW_len {val : List UInt8 → Option VRes} (hv : ∀ bs v r, val bs = some (some (v, r)) → r.length ≤ bs.length) {bs : List UInt8} {d : List AV} {c : Nat} {r : List UInt8} (h : consW val bs = some (some (d, c, r))) : r.length ≤ bs.length := by
  unfold consW at h
  split at h
  · cases h
  · split at h
    · cases h; simp
    · split at h
      · cases h
      · cases h
      · cases h
      · rename_i hx
        split at h
        · cases h
        · cases h
          have := hv _ _ _ hx
          simp at this ⊢
          omega
theorem withinW_len {cons : List UInt8 → Option CRes} {val : List UInt8 → Option VRes} {take : List AV → Nat → List UInt8 → Option VRes} {desc : List AV} {kind u size : Nat} {rest : List UInt8} {v : AV} {r : List UInt8} (h : withinW cons val take desc kind u size rest = some (some (v, r))) : r.length ≤ rest.length := by
  unfold withinW at h
  have hd : (rest.drop u).length ≤ rest.length := by simp
  split at h
  · cases h
  · simp only at h
    split at h
    · cases h
    · split at h
      · split at h
        · cases h
        · cases h
        · split at h
          · simp only [Option.some.injEq] at h
            split at h
            · cases h
            · split at h
              · simp only [Option.some.injEq, Prod.mk.injEq] at h
                rw [← h.2]; exact hd
              · cases h
          · rw [listW_len h]; exact hd
      · rw [listW_len h]; exact hd
theorem takeW_len {cons : List UInt8 → Option CRes} {val : List UInt8 → Option VRes} {take : List AV → Nat → List UInt8 → Option VRes} {desc : List AV} {code : Nat} {bs : List UInt8} {v : AV} {r : List UInt8} (h : takeW cons val take desc code bs = some (some (v, r))) : r.length ≤ bs.length := by
  unfold takeW at h
  simp only at h
  repeat' split at h
  all_goals first
    | (cases h; done)
    | (cases h; simp; done)
    | (cases h; simp; omega)
    | (have := withinW_len h; simp at this; omega)
    | (split at h <;> first | (cases h; done) | (cases h; simp; done))
theorem lvl_len : ∀ (n : Nat) (bs : List UInt8) (v : AV) (r : List UInt8), (lvl n).val bs = some (some (v, r)) → r.length ≤ bs.length
  | 0, bs, v, r, h => by simp [lvl] at h
  | n + 1, bs, v, r, h => by
    simp only [lvl] at h
    split at h
    · cases h
    · cases h
    · rename_i hx
      have h1 := consW_len (lvl_len n) hx
      have h2 := takeW_len h
      omega
theorem lvl_take_len (n : Nat) (desc : List AV) (code : Nat) (bs : List UInt8) (v : AV) (r : List UInt8) (h : (lvl n).take desc code bs = some (some (v, r))) : r.length ≤ bs.length := by
  cases n with
  | zero => simp [lvl] at h
  | succ n => exact takeW_len h
mutual
/-- Six cells that are a value of AMQP; what it leads to lies in blocks that S takes. -/
def AVC (w : World) (S : Nat → Prop) : AV → List Value → Prop
  | .mk kind num text kids of desc, cs => ∃ A cap xs D dcap ys, cs = [.int .i64 kind, .int .u64 num, .string ⟨text.toArray⟩, .slice A kids.length cap, .int .i64 of, .slice D desc.length dcap] ∧
      kids.length ≤ cap ∧ cap ≤ maxLen ∧ Reads w S 6 A kids.length xs ∧ AVsC w S kids xs ∧ desc.length ≤ dcap ∧ dcap ≤ maxLen ∧ Reads w S 6 D desc.length ys ∧ AVsC w S desc ys
def AVsC (w : World) (S : Nat → Prop) : List AV → List Value → Prop
  | [], xs => xs = []
  | p :: ps, xs => ∃ c r, xs = c ++ r ∧ c.length = 6 ∧ AVC w S p c ∧ AVsC w S ps r
end
mutual
theorem AVC.map {w w' : World} {S T : Nat → Prop} (hk : ∀ {size n A xs}, Reads w S size A n xs → Reads w' T size A n xs) : ∀ (p : AV) (cs : List Value), AVC w S p cs → AVC w' T p cs
  | .mk kind num text kids of desc, cs, h => by
    unfold AVC at h ⊢
    obtain ⟨A, cap, xs, D, dcap, ys, h1, h2, h3, h4, h5, h6, h7, h8, h9⟩ := h
    exact ⟨A, cap, xs, D, dcap, ys, h1, h2, h3, hk h4, AVsC.map hk kids xs h5, h6, h7, hk h8, AVsC.map hk desc ys h9⟩
theorem AVsC.map {w w' : World} {S T : Nat → Prop} (hk : ∀ {size n A xs}, Reads w S size A n xs → Reads w' T size A n xs) : ∀ (ps : List AV) (cs : List Value), AVsC w S ps cs → AVsC w' T ps cs
  | [], cs, h => h
  | p :: ps, cs, h => by
    unfold AVsC at h ⊢
    obtain ⟨c, r, h1, h2, h3, h4⟩ := h
    exact ⟨c, r, h1, h2, AVC.map hk p c h3, AVsC.map hk ps r h4⟩
end
theorem AVC.keep {w w' : World} {S : Nat → Prop} {p : AV} {cs : List Value} (h : AVC w S p cs) (hk : Stays S w w') : AVC w' S p cs := AVC.map (fun h => h.keep hk) p cs h
theorem AVC.sub {w : World} {S T : Nat → Prop} {p : AV} {cs : List Value} (h : AVC w S p cs) (hk : ∀ b, S b → T b) : AVC w T p cs := AVC.map (fun h => h.sub hk) p cs h
theorem AVsC.keep {w w' : World} {S : Nat → Prop} {p : List AV} {cs : List Value} (h : AVsC w S p cs) (hk : Stays S w w') : AVsC w' S p cs := AVsC.map (fun h => h.keep hk) p cs h
theorem AVsC.sub {w : World} {S T : Nat → Prop} {p : List AV} {cs : List Value} (h : AVsC w S p cs) (hk : ∀ b, S b → T b) : AVsC w T p cs := AVsC.map (fun h => h.sub hk) p cs h
theorem AVsC.len {w : World} {S : Nat → Prop} : ∀ (ps : List AV) (cs : List Value), AVsC w S ps cs → cs.length = ps.length * 6
  | [], cs, h => by unfold AVsC at h; subst h; rfl
  | p :: ps, cs, h => by
    unfold AVsC at h
    obtain ⟨c, r, rfl, h2, _, h4⟩ := h
    have := AVsC.len ps r h4
    rw [List.length_append, h2, this, List.length_cons]
    omega
theorem AVsC.append {w : World} {S : Nat → Prop} : ∀ (ps qs : List AV) (xs ys : List Value), AVsC w S ps xs → AVsC w S qs ys → AVsC w S (ps ++ qs) (xs ++ ys)
  | [], qs, xs, ys, h, k => by unfold AVsC at h; subst h; exact k
  | p :: ps, qs, xs, ys, h, k => by
    unfold AVsC at h
    obtain ⟨c, r, rfl, h2, h3, h4⟩ := h
    rw [List.cons_append]
    unfold AVsC
    exact ⟨c, r ++ ys, by rw [List.append_assoc], h2, h3, AVsC.append ps qs r ys h4 k⟩
theorem AVsC.one {w : World} {S : Nat → Prop} {p : AV} {cs : List Value} (h : AVC w S p cs) (hl : cs.length = 6) : AVsC w S [p] cs := by
  unfold AVsC
  exact ⟨cs, [], by simp, hl, h, by unfold AVsC; rfl⟩
theorem AVC.len {w : World} {S : Nat → Prop} : ∀ {p : AV} {cs : List Value}, AVC w S p cs → cs.length = 6
  | .mk _ _ _ _ _ _, cs, h => by
    unfold AVC at h
    obtain ⟨A, cap, xs, D, dcap, ys, rfl, _⟩ := h
    rfl
/-- The cells of value k of a list. -/
theorem AVsC.get {w : World} {S : Nat → Prop} : ∀ (ps : List AV) (cs : List Value), AVsC w S ps cs → ∀ k (h : k < ps.length), AVC w S ps[k] ((cs.drop (k * 6)).take 6)
  | [], _, _, k, h => absurd h (by simp)
  | p :: ps, cs, h, k, hk => by
    unfold AVsC at h
    obtain ⟨c, r, rfl, h2, h3, h4⟩ := h
    rcases k with _ | k
    · simp only [Nat.zero_mul, List.drop_zero, List.getElem_cons_zero]
      rw [← h2, List.take_left]
      exact h3
    · have := AVsC.get ps r h4 k (by simpa using hk)
      rw [List.getElem_cons_succ, List.drop_append, List.drop_eq_nil_of_le (by omega), List.nil_append, show (k + 1) * 6 - c.length = k * 6 from by omega]
      exact this
theorem AVC.flat (w : World) (S : Nat → Prop) (kind : Int) (num : Nat) (text : List UInt8) (of : Int) {desc : List AV} {D : Option Addr} {dcap : Nat} {ys : List Value} (h1 : desc.length ≤ dcap) (h2 : dcap ≤ maxLen) (h3 : Reads w S 6 D desc.length ys) (h4 : AVsC w S desc ys) :
    AVC w S (.mk kind num text [] of desc) [.int .i64 kind, .int .u64 num, .string ⟨text.toArray⟩, .slice none 0 0, .int .i64 of, .slice D desc.length dcap] := by
  unfold AVC
  exact ⟨none, 0, [], D, dcap, ys, rfl, Nat.le_refl _, Nat.zero_le _, Reads.none_, by unfold AVsC; rfl, h1, h2, h3, h4⟩
theorem AVC.plain (w : World) (S : Nat → Prop) (kind : Int) (num : Nat) (text : List UInt8) (of : Int) :
    AVC w S (.mk kind num text [] of []) [.int .i64 kind, .int .u64 num, .string ⟨text.toArray⟩, .slice none 0 0, .int .i64 of, .slice none 0 0] :=
  AVC.flat w S kind num text of (Nat.le_refl _) (Nat.zero_le _) Reads.none_ (by unfold AVsC; rfl)
end Go.Proofs.YtkokeohlbmccpaaGreatDoor
