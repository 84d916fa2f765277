/-
  msgp's isfixint, rfixint, isnfixint, rnfixint; words for readers of integers. Conditions: bytes.
-/
import Derived.Test.YtpmcljjhjjmlfaaDoorGetV
namespace Go.Proofs.YtpmcljjhjjmlfaaDoor
set_option linter.unusedSimpArgs false
set_option linter.unusedVariables false
open Go.RowKit
theorem isfixint_yes (b : Nat) (h : b < 128) (w : World) : Calls Tryd.prog 59 #[.int .u8 b] w fun e w' => e = .returned (.bool true) ∧ w = w' := by
  have h2 : (b : Int) < 128 := by omega
  have h3 : (((b : Int) / 128) == 0) = true := by simp; omega
  clear h
  go_enter Tryd.func59, Tryd.ntmps59
  go_wp2
  go_ret
  exact ⟨rfl, rfl⟩
theorem isfixint_no (b : Nat) (h : 128 ≤ b) (hb : b < 256) (w : World) : Calls Tryd.prog 59 #[.int .u8 b] w fun e w' => e = .returned (.bool false) ∧ w = w' := by
  have h2 : (b : Int) < 256 := by omega
  have h3 : (((b : Int) / 128) == 0) = false := by simp; omega
  clear h
  go_enter Tryd.func59, Tryd.ntmps59
  go_wp2
  go_ret
  exact ⟨rfl, rfl⟩
theorem rfixint_any (b : Nat) (w : World) : Calls Tryd.prog 60 #[.int .u8 b] w fun e w' => e = .returned (.int .u8 b) ∧ w = w' := by
  go_enter Tryd.func60, Tryd.ntmps60
  go_wp2
  go_ret
  exact ⟨rfl, rfl⟩
theorem isnfixint_yes (b : Nat) (h : 224 ≤ b) (hb : b < 256) (w : World) : Calls Tryd.prog 61 #[.int .u8 b] w fun e w' => e = .returned (.bool true) ∧ w = w' := by
  refine (isnfixint_any b hb w).mono ?_
  rintro e w' ⟨rfl, rfl⟩
  exact ⟨by rw [decide_eq_true h], rfl⟩
theorem isnfixint_no (b : Nat) (h : b < 224) (w : World) : Calls Tryd.prog 61 #[.int .u8 b] w fun e w' => e = .returned (.bool false) ∧ w = w' := by
  refine (isnfixint_any b (by omega) w).mono ?_
  rintro e w' ⟨rfl, rfl⟩
  exact ⟨by rw [decide_eq_false (by omega)], rfl⟩
theorem rnfixint_any (b : Nat) (h : 224 ≤ b) (hb : b < 256) (w : World) : Calls Tryd.prog 62 #[.int .u8 b] w fun e w' => e = .returned (.int .i8 ((b : Int) - 256)) ∧ w = w' := by
  have h2 : IntKind.i8.wrap (b : Int) = (b : Int) - 256 := by simp [IntKind.wrap, IntKind.bits, IntKind.signed]; omega
  generalize (b : Int) - 256 = s at *
  clear h hb
  go_enter Tryd.func62, Tryd.ntmps62
  go_wp2
  go_ret
  exact ⟨rfl, rfl⟩
/-- What is left is at most n long. -/
def LeO (n : Nat) : Option (Int × List UInt8) → Prop
  | none => True
  | some x => x.2.length ≤ n
theorem LeO.ite {n : Nat} {c : Prop} [Decidable c] {a b : Option (Int × List UInt8)} (ha : LeO n a) (hb : LeO n b) : LeO n (if c then a else b) := by
  split <;> assumption
theorem LeO.none_ {n : Nat} : LeO n none := trivial
theorem LeO.some_ {n : Nat} {p : Int} {r : List UInt8} (h : r.length ≤ n) : LeO n (some (p, r)) := h
theorem LeO.get {n : Nat} {o : Option (Int × List UInt8)} {v : Int} {r : List UInt8} (h : LeO n o) (e : o = some (v, r)) : r.length ≤ n := by
  subst e
  exact h
/-- The number is not below 0. -/
def NnO : Option (Int × List UInt8) → Prop
  | none => True
  | some x => 0 ≤ x.1
theorem NnO.ite {c : Prop} [Decidable c] {a b : Option (Int × List UInt8)} (ha : c → NnO a) (hb : ¬ c → NnO b) : NnO (if c then a else b) := by
  split
  · exact ha ‹_›
  · exact hb ‹_›
theorem NnO.none_ : NnO none := trivial
theorem NnO.some_ {p : Int} {r : List UInt8} (h : 0 ≤ p) : NnO (some (p, r)) := h
theorem NnO.get {o : Option (Int × List UInt8)} {v : Int} {r : List UInt8} (h : NnO o) (e : o = some (v, r)) : 0 ≤ v := by
  subst e
  exact h
/-- A number of so many bytes, as one with a sign. -/
def sgn (s u : Nat) : Int := if u < 2 ^ (8 * s - 1) then (u : Int) else (u : Int) - 2 ^ (8 * s)
theorem sgn1 (u : Nat) (h : u < 256) : IntKind.i8.wrap (u : Int) = sgn 1 u := by simp [IntKind.wrap, IntKind.bits, IntKind.signed, sgn]; split <;> omega
theorem sgn2 (u : Nat) (h : u < 65536) : IntKind.i16.wrap (u : Int) = sgn 2 u := by simp [IntKind.wrap, IntKind.bits, IntKind.signed, sgn]; split <;> omega
theorem sgn4 (u : Nat) (h : u < 4294967296) : IntKind.i32.wrap (u : Int) = sgn 4 u := by simp [IntKind.wrap, IntKind.bits, IntKind.signed, sgn]; split <;> omega
theorem sgn8 (u : Nat) (h : u < 18446744073709551616) : wrap64 (u : Int) = sgn 8 u := by unfold wrap64; simp [sgn]; split <;> omega
theorem sgn_lo (s u : Nat) (hs : s = 1 ∨ s = 2 ∨ s = 4 ∨ s = 8) (h : u < 256 ^ s) : -9223372036854775808 ≤ sgn s u ∧ sgn s u ≤ 9223372036854775807 := by
  rcases hs with rfl | rfl | rfl | rfl <;> simp [sgn] at h ⊢ <;> split <;> omega
theorem sgn_lo1 (u : Nat) (h : u < 256) : -128 ≤ sgn 1 u ∧ sgn 1 u ≤ 127 := by simp [sgn]; split <;> omega
theorem sgn_lo2 (u : Nat) (h : u < 65536) : -32768 ≤ sgn 2 u ∧ sgn 2 u ≤ 32767 := by simp [sgn]; split <;> omega
theorem sgn_lo4 (u : Nat) (h : u < 4294967296) : -2147483648 ≤ sgn 4 u ∧ sgn 4 u ≤ 2147483647 := by simp [sgn]; split <;> omega
theorem or16 (a b : Nat) (ha : a < 256) (hb : b < 256) : bits BinOp.or IntKind.i16 (IntKind.i16.wrap ((a : Int) * 256)) (b : Int) = sgn 2 (a * 256 + b) := by
  show IntKind.i16.wrap ((BitVec.ofInt 16 (IntKind.i16.wrap ((a : Int) * 256)) ||| BitVec.ofInt 16 (b : Int)).toNat : Int) = _
  have e1 : (BitVec.ofInt 16 (IntKind.i16.wrap ((a : Int) * 256))).toNat = a * 256 := by
    rw [BitVec.toNat_ofInt]
    simp [IntKind.wrap, IntKind.bits, IntKind.signed]
    omega
  have e2 : (BitVec.ofInt 16 (b : Int)).toNat = b := by
    rw [BitVec.toNat_ofInt]
    simp
    omega
  have e3 := or_shift b a 8 (by omega)
  simp only [Nat.reducePow] at e3
  rw [BitVec.toNat_or, e1, e2, Nat.or_comm, e3]
  exact sgn2 _ (by omega)
/-- What a reader of numbers answers: r, the bytes behind it; or an error, beside z. -/
def ReadN (z : Int → Value) (S : Nat → Prop) (r : Option (Int × List UInt8)) (w : World) (e : Ending) (w' : World) : Prop :=
  Below w.heap.size w w' ∧ match r with
  | none => ∃ A n c t u, e = .returned (.tuple #[z 0, .slice A n c, .iface t u])
  | some (v, bs) => ∃ A n c, e = .returned (.tuple #[z v, .slice A n c, .nilIface]) ∧ n = bs.length ∧ n ≤ c ∧ c ≤ maxLen ∧ RB w' S A bs
theorem ReadN.err {z : Int → Value} {S : Nat → Prop} {w w' : World} {A : Option Addr} {n c : Nat} {t : TypeId} {u : Value} (hb : Below w.heap.size w w') : ReadN z S none w (.returned (.tuple #[z 0, .slice A n c, .iface t u])) w' := ⟨hb, _, _, _, _, _, rfl⟩
theorem ReadN.ok {z : Int → Value} {S : Nat → Prop} {w w' : World} {v : Int} {A : Option Addr} {n c : Nat} {bs : List UInt8} (hb : Below w.heap.size w w') (hn : n = bs.length) (hc : n ≤ c) (hm : c ≤ maxLen) (hr : RB w' S A bs) : ReadN z S (some (v, bs)) w (.returned (.tuple #[z v, .slice A n c, .nilIface])) w' := ⟨hb, _, _, _, rfl, hn, hc, hm, hr⟩
end Go.Proofs.YtpmcljjhjjmlfaaDoor
