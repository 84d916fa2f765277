/-
  A msgp.Reader over impl.drops: what lies in its room and what is still to come; what its methods leave alone. Conditions: none.
-/
import Derived.Test.YtpadbpmnejgckaaDoorOwn
import Derived.Laws.CopyOwn
namespace Go.Proofs.YtpadbpmnejgckaaDoor
set_option linter.unusedSimpArgs false
set_option linter.unusedVariables false
set_option linter.unusedVariables false
open Go.RowKit
/-- Nothing has turned but new blocks and the blocks that K takes. -/
def Keeps (K : Nat → Prop) (w w' : World) : Prop := Below 0 w w' ∧ ∀ b, b < w.heap.size → ¬ K b → w'.heap[b]? = w.heap[b]?
theorem Keeps.refl (K : Nat → Prop) (w : World) : Keeps K w w := ⟨Below.refl _ _, fun _ _ _ => rfl⟩
theorem Keeps.size {K : Nat → Prop} {w w' : World} (h : Keeps K w w') : w.heap.size ≤ w'.heap.size := h.1.size
theorem Keeps.trans {K L : Nat → Prop} {a b c : World} (h : Keeps K a b) (k : Keeps L b c) (hl : ∀ x, x < a.heap.size → L x → K x) : Keeps K a c :=
  ⟨h.1.trans k.1, fun x hx hn => (k.2 x (Nat.lt_of_lt_of_le hx h.size) (fun e => hn (hl x hx e))).trans (h.2 x hx hn)⟩
theorem Keeps.weak {K L : Nat → Prop} {a b : World} (h : Keeps K a b) (hl : ∀ x, x < a.heap.size → K x → L x) : Keeps L a b := ⟨h.1, fun x hx hn => h.2 x hx (fun e => hn (hl x hx e))⟩
theorem Keeps.alloc {K : Nat → Prop} {a b : World} (h : Keeps K a b) (o : Obj) : Keeps K a (b.alloc o) :=
  ⟨h.1.alloc (Nat.zero_le _) o, fun x hx hn => (Below.heap_alloc b o x (Nat.lt_of_lt_of_le hx h.size)).trans (h.2 x hx hn)⟩
theorem Keeps.drew {K : Nat → Prop} {a b : World} (h : Keeps K a b) : Keeps K a b.drew := ⟨h.1.drew, h.2⟩
theorem Keeps.undrew {K : Nat → Prop} {a b : World} (h : Keeps K a.drew b) : Keeps K a b := ⟨⟨h.1.os, h.1.tape, h.1.output, h.1.size, h.1.block⟩, h.2⟩
theorem Keeps.setCell {K : Nat → Prop} {a b : World} (h : Keeps K a b) (p : Addr) (hp : K p.block) (v : Value) : Keeps K a (b.setCell p v) :=
  ⟨h.1.setCell (Nat.zero_le _) v, fun x hx hn => (Below.heap_setCell b p v x (fun e => hn (e ▸ hp))).trans (h.2 x hx hn)⟩
theorem Keeps.below {K : Nat → Prop} {a b : World} {B : Nat} (h : Keeps K a b) (hB : B ≤ a.heap.size) (hK : ∀ x, x < B → ¬ K x) : Below B a b :=
  ⟨h.1.os, h.1.tape, h.1.output, h.1.size, fun x hx => h.2 x (Nat.lt_of_lt_of_le hx hB) (hK x hx)⟩
theorem Keeps.of_below {K : Nat → Prop} {a b c : World} {g : Nat} (h : Keeps K a b) (hb : Below g b c) (hK : ∀ x, x < a.heap.size → g ≤ x → K x) : Keeps K a c :=
  ⟨h.1.trans (hb.mono (Nat.zero_le _)), fun x hx hn => by
    rcases Nat.lt_or_ge x g with hlt | hge
    · exact (hb.block x hlt).trans (h.2 x hx hn)
    · exact absurd (hK x hx hge) hn⟩
theorem Keeps.blk {K : Nat → Prop} {a b : World} {g : Nat} {t : TypeId} {cs : Array Value} (h : Keeps K a b) (hb : Blk a g t cs) (hg : ¬ K g) : Blk b g t cs := (h.2 g hb.lt hg).trans hb
theorem Keeps.own {K : Nat → Prop} {w w' : World} {w0 : Nat} {e : TypeId} {size n : Nat} {u : Value} {xs : List Value} (h : Keeps K w w') (ho : w.ownsRow w0 e size u n xs) (hn : ∀ g, u.ownBlock = some g → ¬ K g) : w'.ownsRow w0 e size u n xs := by
  refine ⟨ho.1, ?_⟩
  rcases ho.2 with h1 | ⟨g, cap, cur, rfl, hb, hgg, rest⟩
  · exact .inl h1
  · refine .inr ⟨g, cap, cur, rfl, hb, ?_, rest⟩
    rw [h.2 g (Array.getElem?_eq_some_iff.1 hgg).1 (hn g rfl)]
    exact hgg
theorem Keeps.stays {K S : Nat → Prop} {w w' : World} (h : Keeps K w w') (hS : ∀ b, S b → b < w.heap.size ∧ ¬ K b) : Stays S w w' := fun b hb => h.2 b (hS b hb).1 (hS b hb).2
/-- A row whose first cells are a copy of its own. -/
theorem Row.spliced {w w' : World} {t : TypeId} {g cap : Nat} {cur : Array Value} {off : Nat} {xs cs : List Value} (hcs : cur.size = cap) (hl : xs.length = off) (ht : cur.toList.take off = xs) (hfit : off + cs.length ≤ cap) (h : w'.heap[g]? = some (.cells (splice cur.toList off cs).toArray t (0, 0))) : Row w' t g cap (xs ++ cs) := by
  have hsz : (splice cur.toList off cs).length = cap := by
    unfold splice
    simp
    omega
  refine ⟨(splice cur.toList off cs).toArray, h, by simpa using hsz, by simp; omega, ?_⟩
  have e : (splice cur.toList off cs) = (xs ++ cs) ++ cur.toList.drop (off + cs.length) := by
    unfold splice
    rw [ht, List.append_assoc]
  rw [List.toList_toArray, e, List.take_left]
/-- The room of a source: nil, or a row; at: how many of its bytes are taken. -/
def RoomIs (w : World) (m : Nat) (V : Value) (cap at_ : Nat) (pend : List UInt8) : Prop :=
  (V = .slice none 0 0 ∧ cap = 0 ∧ at_ = 0 ∧ pend = []) ∨ ∃ (g : Nat) (pre : List UInt8), V = .slice (some ⟨g, 0, none⟩) (at_ + pend.length) cap ∧ m < g ∧ pre.length = at_ ∧ Row w 5 g cap ((pre ++ pend).map u8)
/-- What reading may write: the drops, the source, the room. -/
def RdK (d s : Nat) (V : Value) (b : Nat) : Prop := b = d ∨ b = s ∨ V.ownBlock = some b
structure RdSt (w : World) (d s m z : Nat) (ck dep : Int) (DA : Option Addr) (dc : Nat) (V : Value) (cap at_ : Nat) (pend rest : List UInt8) : Prop where
  D : Blk w d 197 #[.slice DA rest.length dc, .int .i64 ck]
  data : RB w (fun b => b < m ∧ b ≠ d ∧ b ≠ s) DA rest
  S : Blk w s 234 #[.iface 195 (.pointer (some ⟨d, 0, none⟩)), V, .int .i64 at_, .int .i64 z, .nilIface]
  M : Blk w m 173 #[.pointer (some ⟨s, 0, none⟩), .slice none 0 0, .int .i64 dep, .int .i64 0, .int .u32 1048576, .int .u64 1048576]
  room : RoomIs w m V cap at_ pend
  ds : d < s
  sm : s < m
  z1 : 16 ≤ z
  z2 : z ≤ 65536
  dcle : rest.length ≤ dc
  dcm : dc ≤ maxLen
  capm : cap ≤ 1000000
/-- The reader has bs to give. -/
def RdAny (w : World) (d s m z : Nat) (ck dep : Int) (V : Value) (bs : List UInt8) : Prop := ∃ DA dc cap at_ pend rest, pend ++ rest = bs ∧ RdSt w d s m z ck dep DA dc V cap at_ pend rest
/-- What a method of the reader leaves: bs is still to come. -/
def RdLeft (d s m z : Nat) (ck dep : Int) (V0 : Value) (bs : List UInt8) (w w' : World) : Prop := ∃ V, RdAny w' d s m z ck dep V bs ∧ Keeps (RdK d s V0) w w' ∧ (V.ownBlock = V0.ownBlock ∨ ∃ g, V.ownBlock = some g ∧ w.heap.size ≤ g)
theorem RoomIs.len_le {w : World} {m : Nat} {V : Value} {cap at_ : Nat} {pend : List UInt8} (h : RoomIs w m V cap at_ pend) : at_ + pend.length ≤ cap := by
  rcases h with ⟨_, rfl, rfl, rfl⟩ | ⟨g, pre, _, _, hl, hr⟩
  · simp
  · have := hr.le_
    simp at this
    omega
theorem RoomIs.form {w : World} {m : Nat} {V : Value} {cap at_ : Nat} {pend : List UInt8} (h : RoomIs w m V cap at_ pend) : ∃ A, V = .slice A (at_ + pend.length) cap := by
  rcases h with ⟨rfl, rfl, rfl, rfl⟩ | ⟨g, pre, rfl, _, hl, hr⟩
  · exact ⟨none, rfl⟩
  · exact ⟨_, rfl⟩
theorem RoomIs.lt {w : World} {m : Nat} {V : Value} {cap at_ : Nat} {pend : List UInt8} (h : RoomIs w m V cap at_ pend) {g : Nat} (hg : V.ownBlock = some g) : m < g ∧ g < w.heap.size := by
  rcases h with ⟨rfl, _⟩ | ⟨g', pre, rfl, hm, hl, hr⟩
  · simp [Value.ownBlock] at hg
  · simp [Value.ownBlock] at hg
    subst hg
    exact ⟨hm, hr.lt⟩
theorem RoomIs.keep {w w' : World} {m : Nat} {V : Value} {cap at_ : Nat} {pend : List UInt8} (h : RoomIs w m V cap at_ pend) (hk : ∀ g, V.ownBlock = some g → w'.heap[g]? = w.heap[g]?) : RoomIs w' m V cap at_ pend := by
  rcases h with h | ⟨g, pre, rfl, hm, hl, hr⟩
  · exact .inl h
  · exact .inr ⟨g, pre, rfl, hm, hl, hr.keep (hk g rfl)⟩
/-- The bytes that lie there. -/
theorem RoomIs.reads {w : World} {m : Nat} {V : Value} {cap at_ : Nat} {pend : List UInt8} (h : RoomIs w m V cap at_ pend) : ∃ A, V = .slice A (at_ + pend.length) cap ∧ RB w (fun b => V.ownBlock = some b) (cutA A cap at_ 1) pend := by
  rcases h with ⟨rfl, rfl, rfl, rfl⟩ | ⟨g, pre, rfl, hm, rfl, hr⟩
  · exact ⟨none, rfl, RB.none_⟩
  · refine ⟨_, rfl, ?_⟩
    have h1 : RB w (fun b => b = g) (some ⟨g, 0, none⟩) (pre ++ pend) := by
      refine ⟨by simp, fun _ => ⟨_, rfl, rfl, fun j u hu => ?_⟩⟩
      have e : (⟨g, 0, none⟩ : Addr).add j = ⟨g, j, none⟩ := by unfold Addr.add; split <;> simp_all
      rw [e]
      exact hr.at_ hu
    have h2 := h1.cut (k := pre.length) (cap := cap) (by simp) (by have := hr.le_; simpa using this)
    rw [List.drop_left] at h2
    exact h2.sub fun b hb => by rw [hb]; rfl
theorem RdK.trans {d s : Nat} {V0 V1 : Value} {a : World} (h : V1.ownBlock = V0.ownBlock ∨ ∃ g, V1.ownBlock = some g ∧ a.heap.size ≤ g) : ∀ x, x < a.heap.size → RdK d s V1 x → RdK d s V0 x := by
  intro x hx hk
  rcases hk with rfl | rfl | hk
  · exact .inl rfl
  · exact .inr (.inl rfl)
  · rcases h with h | ⟨g, hg, hge⟩
    · exact .inr (.inr (by rw [← h, hk]))
    · rw [hg] at hk
      injection hk with hk
      omega
theorem own_or_new {V0 V1 V2 : Value} {a b : World} (hs : a.heap.size ≤ b.heap.size) (h : V1.ownBlock = V0.ownBlock ∨ ∃ g, V1.ownBlock = some g ∧ a.heap.size ≤ g) (k : V2.ownBlock = V1.ownBlock ∨ ∃ g, V2.ownBlock = some g ∧ b.heap.size ≤ g) : V2.ownBlock = V0.ownBlock ∨ ∃ g, V2.ownBlock = some g ∧ a.heap.size ≤ g := by
  rcases k with k | ⟨g, hg, hge⟩
  · rcases h with h | ⟨g, hg, hge⟩
    · exact .inl (k.trans h)
    · exact .inr ⟨g, k.trans hg, hge⟩
  · exact .inr ⟨g, hg, Nat.le_trans hs hge⟩
theorem RdAny.toLeft {w : World} {d s m z : Nat} {ck dep : Int} {V : Value} {bs : List UInt8} (h : RdAny w d s m z ck dep V bs) : RdLeft d s m z ck dep V bs w w := ⟨V, h, Keeps.refl _ _, .inl rfl⟩
end Go.Proofs.YtpadbpmnejgckaaDoor
