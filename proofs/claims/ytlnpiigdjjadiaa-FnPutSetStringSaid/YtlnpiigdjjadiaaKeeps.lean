/-
  Worlds in which all but some blocks are as they were; a row whose first cells are a copy. Conditions: none.
-/
import Derived.Test.YtlnpiigdjjadiaaOwn
import Derived.Laws.CopyOwn
namespace Go.Proofs.Ytlnpiigdjjadiaa
set_option linter.unusedSimpArgs false
set_option linter.unusedVariables false
set_option linter.unusedVariables false
open Go.RowKit
/-- Nothing has turned but new blocks and the blocks that K takes. -/
def Keeps (K : Nat → Prop) (w w' : World) : Prop := Below 0 w w' ∧ ∀ b, b < w.heap.size → ¬ K b → w'.heap[b]? = w.heap[b]?
theorem Keeps.refl (K : Nat → Prop) (w : World) : Keeps K w w := ⟨Below.refl _ _, fun _ _ _ => rfl⟩
theorem Keeps.size {K : Nat → Prop} {w w' : World} (h : Keeps K w w') : w.heap.size ≤ w'.heap.size := h.1.size
theorem Keeps.trans {K L : Nat → Prop} {a b c : World} (h : Keeps K a b) (k : Keeps L b c) (hl : ∀ x, x < a.heap.size → L x → K x) : Keeps K a c :=
  ⟨h.1.trans k.1, fun x hx hn => (k.2 x (Nat.lt_of_lt_of_le hx h.size) (fun e => hn (hl x hx e))).trans (h.2 x hx hn)⟩
theorem Keeps.weak {K L : Nat → Prop} {a b : World} (h : Keeps K a b) (hl : ∀ x, x < a.heap.size → K x → L x) : Keeps L a b := ⟨h.1, fun x hx hn => h.2 x hx (fun e => hn (hl x hx e))⟩
theorem Keeps.alloc {K : Nat → Prop} {a b : World} (h : Keeps K a b) (o : Obj) : Keeps K a (b.alloc o) :=
  ⟨h.1.alloc (Nat.zero_le _) o, fun x hx hn => (Below.heap_alloc b o x (Nat.lt_of_lt_of_le hx h.size)).trans (h.2 x hx hn)⟩
theorem Keeps.drew {K : Nat → Prop} {a b : World} (h : Keeps K a b) : Keeps K a b.drew := ⟨h.1.drew, h.2⟩
theorem Keeps.undrew {K : Nat → Prop} {a b : World} (h : Keeps K a.drew b) : Keeps K a b := ⟨⟨h.1.os, h.1.tape, h.1.output, h.1.size, h.1.block⟩, h.2⟩
theorem Keeps.setCell {K : Nat → Prop} {a b : World} (h : Keeps K a b) (p : Addr) (hp : K p.block) (v : Value) : Keeps K a (b.setCell p v) :=
  ⟨h.1.setCell (Nat.zero_le _) v, fun x hx hn => (Below.heap_setCell b p v x (fun e => hn (e ▸ hp))).trans (h.2 x hx hn)⟩
theorem Keeps.below {K : Nat → Prop} {a b : World} {B : Nat} (h : Keeps K a b) (hB : B ≤ a.heap.size) (hK : ∀ x, x < B → ¬ K x) : Below B a b :=
  ⟨h.1.os, h.1.tape, h.1.output, h.1.size, fun x hx => h.2 x (Nat.lt_of_lt_of_le hx hB) (hK x hx)⟩
theorem Keeps.of_below {K : Nat → Prop} {a b c : World} {g : Nat} (h : Keeps K a b) (hb : Below g b c) (hK : ∀ x, x < a.heap.size → g ≤ x → K x) : Keeps K a c :=
  ⟨h.1.trans (hb.mono (Nat.zero_le _)), fun x hx hn => by
    rcases Nat.lt_or_ge x g with hlt | hge
    · exact (hb.block x hlt).trans (h.2 x hx hn)
    · exact absurd (hK x hx hge) hn⟩
theorem Keeps.blk {K : Nat → Prop} {a b : World} {g : Nat} {t : TypeId} {cs : Array Value} (h : Keeps K a b) (hb : Blk a g t cs) (hg : ¬ K g) : Blk b g t cs := (h.2 g hb.lt hg).trans hb
theorem Keeps.own {K : Nat → Prop} {w w' : World} {w0 : Nat} {e : TypeId} {size n : Nat} {u : Value} {xs : List Value} (h : Keeps K w w') (ho : w.ownsRow w0 e size u n xs) (hn : ∀ g, u.ownBlock = some g → ¬ K g) : w'.ownsRow w0 e size u n xs := by
  refine ⟨ho.1, ?_⟩
  rcases ho.2 with h1 | ⟨g, cap, cur, rfl, hb, hgg, rest⟩
  · exact .inl h1
  · refine .inr ⟨g, cap, cur, rfl, hb, ?_, rest⟩
    rw [h.2 g (Array.getElem?_eq_some_iff.1 hgg).1 (hn g rfl)]
    exact hgg
theorem Keeps.stays {K S : Nat → Prop} {w w' : World} (h : Keeps K w w') (hS : ∀ b, S b → b < w.heap.size ∧ ¬ K b) : Stays S w w' := fun b hb => h.2 b (hS b hb).1 (hS b hb).2
/-- A row whose first cells are a copy of its own. -/
theorem Row.spliced {w w' : World} {t : TypeId} {g cap : Nat} {cur : Array Value} {off : Nat} {xs cs : List Value} (hcs : cur.size = cap) (hl : xs.length = off) (ht : cur.toList.take off = xs) (hfit : off + cs.length ≤ cap) (h : w'.heap[g]? = some (.cells (splice cur.toList off cs).toArray t (0, 0))) : Row w' t g cap (xs ++ cs) := by
  have hsz : (splice cur.toList off cs).length = cap := by
    unfold splice
    simp
    omega
  refine ⟨(splice cur.toList off cs).toArray, h, by simpa using hsz, by simp; omega, ?_⟩
  have e : (splice cur.toList off cs) = (xs ++ cs) ++ cur.toList.drop (off + cs.length) := by
    unfold splice
    rw [ht, List.append_assoc]
  rw [List.toList_toArray, e, List.take_left]
end Go.Proofs.Ytlnpiigdjjadiaa
