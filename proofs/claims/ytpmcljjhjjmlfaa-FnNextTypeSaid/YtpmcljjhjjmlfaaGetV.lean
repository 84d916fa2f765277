/-
  Words for readers of one value: what msgp's Read..Bytes and impl's Get.. answer.
-/
import Derived.Test.YtpmcljjhjjmlfaaArrHead
namespace Go.Proofs.Ytpmcljjhjjmlfaa
set_option linter.unusedSimpArgs false
set_option linter.unusedVariables false
open Go.RowKit
/-- What a reader of msgp answers: r, the bytes behind it; or an error. -/
def ReadV (S : Nat → Prop) (r : Option (Value × List UInt8)) (w : World) (e : Ending) (w' : World) : Prop :=
  Below w.heap.size w w' ∧ match r with
  | none => ∃ v A n c t u, e = .returned (.tuple #[v, .slice A n c, .iface t u])
  | some (v, bs) => ∃ A n c, e = .returned (.tuple #[v, .slice A n c, .nilIface]) ∧ n = bs.length ∧ n ≤ c ∧ c ≤ maxLen ∧ RB w' S A bs
/-- What impl's Get.. answers. -/
def GotV (z : Value) (r : Option (Value × List UInt8)) (w : World) (e : Ending) (w' : World) : Prop :=
  Below w.heap.size w w' ∧ match r with
  | none => e = .returned (.tuple #[z, .slice none 0 0, .bool false])
  | some (v, bs) => ∃ A n c, e = .returned (.tuple #[v, .slice A n c, .bool true]) ∧ n = bs.length ∧ n ≤ c ∧ c ≤ maxLen ∧ RB w' (Made w w') A bs
theorem ReadV.err {S : Nat → Prop} {w w' : World} {v : Value} {A : Option Addr} {n c : Nat} {t : TypeId} {u : Value} (hb : Below w.heap.size w w') : ReadV S none w (.returned (.tuple #[v, .slice A n c, .iface t u])) w' := ⟨hb, _, _, _, _, _, _, rfl⟩
theorem ReadV.ok {S : Nat → Prop} {w w' : World} {v : Value} {A : Option Addr} {n c : Nat} {bs : List UInt8} (hb : Below w.heap.size w w') (hn : n = bs.length) (hc : n ≤ c) (hm : c ≤ maxLen) (hr : RB w' S A bs) : ReadV S (some (v, bs)) w (.returned (.tuple #[v, .slice A n c, .nilIface])) w' := ⟨hb, _, _, _, rfl, hn, hc, hm, hr⟩
end Go.Proofs.Ytpmcljjhjjmlfaa
