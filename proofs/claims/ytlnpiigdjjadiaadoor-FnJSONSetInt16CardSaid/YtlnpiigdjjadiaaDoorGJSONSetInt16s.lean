/-
  The reference's reader of MessagePack (spec.TakePack and what it calls) computes the plain function tPack; conditions: the data read as bytes.
-/
import Derived.Test.YtlnpiigdjjadiaaDoorProg
import Derived.Test.YtlnpiigdjjadiaaDoorGJSONSetInt16a
import Derived.Test.YtlnpiigdjjadiaaDoorPlain
import Derived.Test.YtlnpiigdjjadiaaDoorGJSONSetInt16r
import Derived.BigQuiet
import Derived.Deep.QuietTactic
import Derived.StillTailTactics
namespace Go.Proofs.YtlnpiigdjjadiaaDoor
set_option linter.unusedSimpArgs false
set_option linter.unusedVariables false
open Go.RowKit
/-- What the parts of a reader's answer are. -/
def TookR (S : Nat → Prop) (w w' : World) (r : Option (Pack × List UInt8)) (kind : Int) (num : Nat) (text : List UInt8) (ext : Int) (K : Option Addr) (kl kc : Nat) (A : Option Addr) (n cap : Nat) (b : Bool) : Prop :=
  match r with
  | none => kind = 0 ∧ num = 0 ∧ text = [] ∧ ext = 0 ∧ K = none ∧ kl = 0 ∧ kc = 0 ∧ A = none ∧ n = 0 ∧ cap = 0 ∧ b = false
  | some (p, bs) => b = true ∧ n = bs.length ∧ RB w' S A bs ∧ bs.length ≤ cap ∧ cap ≤ maxLen ∧
      PackC w' (fun b => w.heap.size ≤ b ∧ b < w'.heap.size) p [.int .i64 kind, .int .u64 num, .string ⟨text.toArray⟩, .int .i64 ext, .slice K kl kc]
/-- What a reader answers: a value (its kids in new blocks) and the rest of the data, or nothing; nothing that was there has turned. -/
def Took (S : Nat → Prop) (w : World) (r : Option (Pack × List UInt8)) (e : Ending) (w' : World) : Prop :=
  ∃ kind num text ext K kl kc A n cap b, e = .returned (.tuple #[packV kind num text ext K kl kc, .slice A n cap, .bool b]) ∧ Below w.heap.size w w' ∧ TookR S w w' r kind num text ext K kl kc A n cap b
theorem took_flat {S : Nat → Prop} {w w' : World} {kind : Int} {num : Nat} {text : List UInt8} {ext : Int} {A : Option Addr} {n cap : Nat} {bs : List UInt8} (hn : n = bs.length) (hb : Below w.heap.size w w')
    (hr : RB w' S A bs) (hc : bs.length ≤ cap) (hm : cap ≤ maxLen) :
    Took S w (some (.mk kind num text ext [], bs)) (.returned (.tuple #[packV kind num text ext none 0 0, .slice A n cap, .bool true])) w' := by
  subst hn
  exact ⟨_, _, _, _, _, _, _, _, _, _, _, rfl, hb, rfl, rfl, hr, hc, hm, PackC.flat _ _ _ _ _ _⟩
theorem took_none {S : Nat → Prop} {w w' : World} (hb : Below w.heap.size w w') : Took S w none (.returned (.tuple #[packV 0 0 [] 0 none 0 0, .slice none 0 0, .bool false])) w' :=
  ⟨_, _, _, _, _, _, _, _, _, _, _, rfl, hb, rfl, rfl, rfl, rfl, rfl, rfl, rfl, rfl, rfl, rfl, rfl⟩
/-- The answer of a callee, handed on. -/
theorem tookR_later {S : Nat → Prop} {w w1 w2 w3 : World} {r : Option (Pack × List UInt8)} {kind : Int} {num : Nat} {text : List UInt8} {ext : Int} {K : Option Addr} {kl kc : Nat} {A : Option Addr} {n cap : Nat} {b : Bool}
    (h : TookR S w1 w2 r kind num text ext K kl kc A n cap b) (hsz : w.heap.size ≤ w1.heap.size) (hk : Stays (fun b => w1.heap.size ≤ b ∧ b < w2.heap.size) w2 w3) (hS : Stays S w2 w3) (hz : w2.heap.size ≤ w3.heap.size) :
    TookR S w w3 r kind num text ext K kl kc A n cap b := by
  unfold TookR at h ⊢
  rcases r with _ | ⟨p, bs⟩
  · exact h
  · obtain ⟨h1, h2, h3, h4, h5, h6⟩ := h
    exact ⟨h1, h2, h3.keep hS, h4, h5, PackC.sub (fun b ⟨x, y⟩ => ⟨by omega, by omega⟩) _ _ (PackC.keep hk _ _ h6)⟩
theorem or_byte (a b : Nat) (ha : a < 72057594037927936) (hb : b < 256) : bits BinOp.or IntKind.u64 ((a : Int) * 256) (b : Int) = ((a * 256 + b : Nat) : Int) := by
  have h := u64_or_nat (a * 256) b (by omega) (by omega)
  have e : ((a * 256 : Nat) : Int) = (a : Int) * 256 := by omega
  rw [e] at h
  rw [h, Nat.mul_comm, show (256 : Nat) = 2 ^ 8 from rfl, Nat.two_pow_add_eq_or_of_lt (i := 8) (by omega)]
theorem i8of_nat : ∀ n : Nat, n < 256 → IntKind.i8.wrap (n : Int) = i8of n := by decide +kernel
theorem i8of_bd (b : UInt8) : -128 ≤ i8of b.toNat ∧ i8of b.toNat ≤ 127 := by
  have := b.toNat_lt
  unfold i8of
  split <;> omega
theorem i8of_eq (b : UInt8) : IntKind.i8.wrap (b.toNat : Int) = i8of b.toNat := i8of_nat _ b.toNat_lt
end Go.Proofs.YtlnpiigdjjadiaaDoor
