/-
  Lemmas, 5 texts in one: Words, Own, AppAt, Maps, Row. Each says its conditions.
-/
import Derived.Below
import Derived.Laws.OwnMore
import Derived.Deep.AppendLies
import Derived.Deep.Draws
import Derived.Laws.Rows
import Derived.Maps.AppendAt
import Derived.RegionTactic
import Derived.OwnWalk
import Derived.Laws.CopyOwn
import Derived.WalkKit
import Derived.WalkSpells
import Derived.WalkLawsBesides

/-
  Words for memory that this seat's proofs share: a slice that reads as a list of cells, a block known whole, appends onto a row of the call's own, bytes as cells.
  Turned out of the kit's pages of words to copy (howto/extra-words.md); conditions: none.
-/
namespace Go.Proofs.YtlnpiigdjjadiaaDoor
set_option linter.unusedSimpArgs false
set_option linter.unusedVariables false
open Go.RowKit
theorem hide {p : Prop} (h : p) : Hid p := h
theorem unhide {p : Prop} (h : Hid p) : p := h

theorem block_of_add (a : Addr) (n : Nat) : (a.add n).block = a.block := by unfold Addr.add; split <;> rfl
theorem add_of_add (a : Addr) (i j : Nat) : (a.add i).add j = a.add (i + j) := by
  unfold Addr.add
  by_cases hi : i = 0 <;> by_cases hj : j = 0 <;> simp [hi, hj, Nat.add_assoc]
theorem add_zero_ (a : Addr) : a.add 0 = a := rfl

/-- The slice value '.slice A n c' holds the cells xs ('size' cells an element), in a block that S takes. -/
def Reads (w : World) (S : Nat → Prop) (size : Nat) (A : Option Addr) (n : Nat) (xs : List Value) : Prop :=
  xs.length = n * size ∧ (0 < n → ∃ ad, A = some ad ∧ S ad.block ∧ ∀ j u, xs[j]? = some u → w.cell? (ad.add j) = some u)
/-- All blocks below B. -/
def Lt (B : Nat) : Nat → Prop := fun b => b < B
/-- What S takes reads in w' as in w. -/
def Stays (S : Nat → Prop) (w w' : World) : Prop := ∀ b, S b → w'.heap[b]? = w.heap[b]?
theorem Stays.refl (S : Nat → Prop) (w : World) : Stays S w w := fun _ _ => rfl
theorem Stays.trans {S : Nat → Prop} {a b c : World} (h : Stays S a b) (k : Stays S b c) : Stays S a c := fun x hx => (k x hx).trans (h x hx)
theorem Stays.of_below {B : Nat} {w w' : World} (h : Below B w w') : Stays (Lt B) w w' := fun b hb => h.block b hb
theorem Stays.sub {S T : Nat → Prop} {w w' : World} (h : Stays T w w') (hs : ∀ b, S b → T b) : Stays S w w' := fun b hb => h b (hs b hb)

/-- All blocks that S takes lie in w. -/
def Old (w : World) (S : Nat → Prop) : Prop := ∀ b, S b → b < w.heap.size
theorem Old.lt (w : World) : Old w (Lt w.heap.size) := fun _ h => h
theorem old_drew (w : World) (S : Nat → Prop) : Old w.drew S = Old w S := propext ⟨fun h => h, fun h => h⟩
theorem old_drewN (w : World) (S : Nat → Prop) (n : Nat) : Old (w.drewN n) S = Old w S := propext ⟨fun h => h, fun h => h⟩
theorem old_alloc {w : World} {S : Nat → Prop} (h : Old w S) (o : Obj) : Old (w.alloc o) S := fun b hb => by have := h b hb; simp; omega
theorem old_setCell (w : World) (S : Nat → Prop) (p : Addr) (v : Value) : Old (w.setCell p v) S = Old w S := by unfold Old; simp [World.setCell]
theorem old_below {B : Nat} {w w' : World} {S : Nat → Prop} (hb : Below B w w') (h : Old w S) : Old w' S := fun b hS => Nat.lt_of_lt_of_le (h b hS) hb.size
theorem stays_drew (S : Nat → Prop) (w W : World) : Stays S w W.drew = Stays S w W := propext ⟨fun h => h, fun h => h⟩
theorem stays_drewN (S : Nat → Prop) (w W : World) (n : Nat) : Stays S w (W.drewN n) = Stays S w W := propext ⟨fun h => h, fun h => h⟩
theorem stays_alloc {S : Nat → Prop} {w W : World} (ho : Old W S) (h : Stays S w W) (o : Obj) : Stays S w (W.alloc o) := fun b hb => (Below.heap_alloc W o b (ho b hb)).trans (h b hb)
theorem stays_setCell {S : Nat → Prop} {w W : World} {p : Addr} (hp : ¬ S p.block) (h : Stays S w W) (v : Value) : Stays S w (W.setCell p v) :=
  fun b hb => (Below.heap_setCell W p v b (fun e => hp (e ▸ hb))).trans (h b hb)
theorem stays_below {S : Nat → Prop} {w W W' : World} (h : Stays S w W) (hb : Below W.heap.size W W') (ho : Old W S) : Stays S w W' := h.trans fun b hS => hb.block b (ho b hS)
theorem stays_alloc2 {S : Nat → Prop} {w W : World} (ho : Old W S) (h : Stays S w W) (o0 o1 : Obj) : Stays S w ((W.alloc o0).alloc o1) := (stays_alloc (old_alloc ho o0) (stays_alloc ho h o0) o1)
theorem old_alloc2 {W : World} {S : Nat → Prop} (ho : Old W S) (o0 o1 : Obj) : Old ((W.alloc o0).alloc o1) S := (old_alloc (old_alloc ho o0) o1)
theorem stays_alloc3 {S : Nat → Prop} {w W : World} (ho : Old W S) (h : Stays S w W) (o0 o1 o2 : Obj) : Stays S w (((W.alloc o0).alloc o1).alloc o2) := (stays_alloc (old_alloc (old_alloc ho o0) o1) (stays_alloc (old_alloc ho o0) (stays_alloc ho h o0) o1) o2)
theorem old_alloc3 {W : World} {S : Nat → Prop} (ho : Old W S) (o0 o1 o2 : Obj) : Old (((W.alloc o0).alloc o1).alloc o2) S := (old_alloc (old_alloc (old_alloc ho o0) o1) o2)
theorem stays_alloc4 {S : Nat → Prop} {w W : World} (ho : Old W S) (h : Stays S w W) (o0 o1 o2 o3 : Obj) : Stays S w ((((W.alloc o0).alloc o1).alloc o2).alloc o3) := (stays_alloc (old_alloc (old_alloc (old_alloc ho o0) o1) o2) (stays_alloc (old_alloc (old_alloc ho o0) o1) (stays_alloc (old_alloc ho o0) (stays_alloc ho h o0) o1) o2) o3)
theorem old_alloc4 {W : World} {S : Nat → Prop} (ho : Old W S) (o0 o1 o2 o3 : Obj) : Old ((((W.alloc o0).alloc o1).alloc o2).alloc o3) S := (old_alloc (old_alloc (old_alloc (old_alloc ho o0) o1) o2) o3)
theorem stays_alloc5 {S : Nat → Prop} {w W : World} (ho : Old W S) (h : Stays S w W) (o0 o1 o2 o3 o4 : Obj) : Stays S w (((((W.alloc o0).alloc o1).alloc o2).alloc o3).alloc o4) := (stays_alloc (old_alloc (old_alloc (old_alloc (old_alloc ho o0) o1) o2) o3) (stays_alloc (old_alloc (old_alloc (old_alloc ho o0) o1) o2) (stays_alloc (old_alloc (old_alloc ho o0) o1) (stays_alloc (old_alloc ho o0) (stays_alloc ho h o0) o1) o2) o3) o4)
theorem old_alloc5 {W : World} {S : Nat → Prop} (ho : Old W S) (o0 o1 o2 o3 o4 : Obj) : Old (((((W.alloc o0).alloc o1).alloc o2).alloc o3).alloc o4) S := (old_alloc (old_alloc (old_alloc (old_alloc (old_alloc ho o0) o1) o2) o3) o4)
theorem stays_alloc6 {S : Nat → Prop} {w W : World} (ho : Old W S) (h : Stays S w W) (o0 o1 o2 o3 o4 o5 : Obj) : Stays S w ((((((W.alloc o0).alloc o1).alloc o2).alloc o3).alloc o4).alloc o5) := (stays_alloc (old_alloc (old_alloc (old_alloc (old_alloc (old_alloc ho o0) o1) o2) o3) o4) (stays_alloc (old_alloc (old_alloc (old_alloc (old_alloc ho o0) o1) o2) o3) (stays_alloc (old_alloc (old_alloc (old_alloc ho o0) o1) o2) (stays_alloc (old_alloc (old_alloc ho o0) o1) (stays_alloc (old_alloc ho o0) (stays_alloc ho h o0) o1) o2) o3) o4) o5)
theorem old_alloc6 {W : World} {S : Nat → Prop} (ho : Old W S) (o0 o1 o2 o3 o4 o5 : Obj) : Old ((((((W.alloc o0).alloc o1).alloc o2).alloc o3).alloc o4).alloc o5) S := (old_alloc (old_alloc (old_alloc (old_alloc (old_alloc (old_alloc ho o0) o1) o2) o3) o4) o5)
theorem stays_alloc7 {S : Nat → Prop} {w W : World} (ho : Old W S) (h : Stays S w W) (o0 o1 o2 o3 o4 o5 o6 : Obj) : Stays S w (((((((W.alloc o0).alloc o1).alloc o2).alloc o3).alloc o4).alloc o5).alloc o6) := (stays_alloc (old_alloc (old_alloc (old_alloc (old_alloc (old_alloc (old_alloc ho o0) o1) o2) o3) o4) o5) (stays_alloc (old_alloc (old_alloc (old_alloc (old_alloc (old_alloc ho o0) o1) o2) o3) o4) (stays_alloc (old_alloc (old_alloc (old_alloc (old_alloc ho o0) o1) o2) o3) (stays_alloc (old_alloc (old_alloc (old_alloc ho o0) o1) o2) (stays_alloc (old_alloc (old_alloc ho o0) o1) (stays_alloc (old_alloc ho o0) (stays_alloc ho h o0) o1) o2) o3) o4) o5) o6)
theorem old_alloc7 {W : World} {S : Nat → Prop} (ho : Old W S) (o0 o1 o2 o3 o4 o5 o6 : Obj) : Old (((((((W.alloc o0).alloc o1).alloc o2).alloc o3).alloc o4).alloc o5).alloc o6) S := (old_alloc (old_alloc (old_alloc (old_alloc (old_alloc (old_alloc (old_alloc ho o0) o1) o2) o3) o4) o5) o6)
theorem stays_alloc8 {S : Nat → Prop} {w W : World} (ho : Old W S) (h : Stays S w W) (o0 o1 o2 o3 o4 o5 o6 o7 : Obj) : Stays S w ((((((((W.alloc o0).alloc o1).alloc o2).alloc o3).alloc o4).alloc o5).alloc o6).alloc o7) := (stays_alloc (old_alloc (old_alloc (old_alloc (old_alloc (old_alloc (old_alloc (old_alloc ho o0) o1) o2) o3) o4) o5) o6) (stays_alloc (old_alloc (old_alloc (old_alloc (old_alloc (old_alloc (old_alloc ho o0) o1) o2) o3) o4) o5) (stays_alloc (old_alloc (old_alloc (old_alloc (old_alloc (old_alloc ho o0) o1) o2) o3) o4) (stays_alloc (old_alloc (old_alloc (old_alloc (old_alloc ho o0) o1) o2) o3) (stays_alloc (old_alloc (old_alloc (old_alloc ho o0) o1) o2) (stays_alloc (old_alloc (old_alloc ho o0) o1) (stays_alloc (old_alloc ho o0) (stays_alloc ho h o0) o1) o2) o3) o4) o5) o6) o7)
theorem old_alloc8 {W : World} {S : Nat → Prop} (ho : Old W S) (o0 o1 o2 o3 o4 o5 o6 o7 : Obj) : Old ((((((((W.alloc o0).alloc o1).alloc o2).alloc o3).alloc o4).alloc o5).alloc o6).alloc o7) S := (old_alloc (old_alloc (old_alloc (old_alloc (old_alloc (old_alloc (old_alloc (old_alloc ho o0) o1) o2) o3) o4) o5) o6) o7)
attribute [go_sem] old_drew old_drewN old_alloc old_setCell stays_drew stays_drewN stays_alloc stays_setCell Stays.refl stays_alloc2 old_alloc2 stays_alloc3 old_alloc3 stays_alloc4 old_alloc4 stays_alloc5 old_alloc5 stays_alloc6 old_alloc6 stays_alloc7 old_alloc7 stays_alloc8 old_alloc8

theorem bcell {W w1 : World} (hb : Below W.heap.size W w1) : (∀ b o, b < W.heap.size → w1.cell? ⟨b, o, none⟩ = W.cell? ⟨b, o, none⟩) ∧ (∀ b o, b < W.heap.size → w1.frozen? ⟨b, o, none⟩ = W.frozen? ⟨b, o, none⟩) :=
  ⟨fun b o h => hb.cell (p := ⟨b, o, none⟩) h, fun b o h => hb.frozen (p := ⟨b, o, none⟩) h⟩

/-- The address of s[l:], of a slice whose capacity is m. -/
def cutA (a : Option Addr) (m l s : Nat) : Option Addr := if m = l then a else a.map (·.add (l * s))
theorem cutA_zero (a : Option Addr) (m s : Nat) : cutA a m 0 s = a := by
  unfold cutA
  split
  · rfl
  · cases a <;> simp [add_zero_]
theorem sliced_cut (a : Option Addr) (l h m s : Nat) : sliced a l h m s = .slice (cutA a m l s) (h - l) (m - l) := rfl
attribute [go_sem ↓] sliced_cut
attribute [go_sem] cutA_zero

section
variable {w w' : World} {S T : Nat → Prop} {size n : Nat} {A : Option Addr} {xs : List Value}
theorem Reads.none_ : Reads w S size A 0 [] := ⟨by simp, fun h => absurd h (by omega)⟩
theorem Reads.len_ (h : Reads w S size A n xs) : xs.length = n * size := h.1
theorem Reads.at_ {k : Nat} (h : Reads w S 1 A n xs) (hk : k < n) : ∃ ad u, A = some ad ∧ S ad.block ∧ xs[k]? = some u ∧ w.cell? (ad.add k) = some u := by
  obtain ⟨ad, e, hb, hc⟩ := h.2 (by omega)
  have hl : k < xs.length := by have := h.1; omega
  exact ⟨ad, xs[k], e, hb, List.getElem?_eq_getElem hl, hc k _ (List.getElem?_eq_getElem hl)⟩
theorem Reads.keep (h : Reads w S size A n xs) (hk : Stays S w w') : Reads w' S size A n xs :=
  ⟨h.1, fun hn => by
    obtain ⟨ad, e, hb, hc⟩ := h.2 hn
    exact ⟨ad, e, hb, fun j u hu => (World.cell?_of_block (hk _ (by rw [block_of_add]; exact hb))).trans (hc j u hu)⟩⟩
theorem Reads.sub (h : Reads w S size A n xs) (hs : ∀ b, S b → T b) : Reads w T size A n xs :=
  ⟨h.1, fun hn => by
    obtain ⟨ad, e, hb, hc⟩ := h.2 hn
    exact ⟨ad, e, hs _ hb, hc⟩⟩
theorem Reads.below {B : Nat} (h : Reads w (Lt B) size A n xs) (hb : Below B w w') : Reads w' (Lt B) size A n xs := h.keep (Stays.of_below hb)
theorem Reads.take (h : Reads w S size A n xs) {k : Nat} (hk : k ≤ n) : Reads w S size A k (xs.take (k * size)) := by
  refine ⟨by rw [List.length_take, h.1]; exact Nat.min_eq_left (Nat.mul_le_mul_right _ hk), fun hn => ?_⟩
  obtain ⟨ad, rfl, hb, hcell⟩ := h.2 (by omega)
  refine ⟨ad, rfl, hb, fun j u hu => hcell j u ?_⟩
  rw [List.getElem?_take] at hu
  split at hu
  · exact hu
  · cases hu
theorem Reads.cut (h : Reads w S size A n xs) {k cap : Nat} (hk : k ≤ n) (hc : n ≤ cap) : Reads w S size (cutA A cap k size) (n - k) (xs.drop (k * size)) := by
  refine ⟨by rw [List.length_drop, h.1, Nat.sub_mul], fun hn => ?_⟩
  obtain ⟨ad, rfl, hb, hcell⟩ := h.2 (by omega)
  unfold cutA
  rw [if_neg (by omega)]
  refine ⟨ad.add (k * size), rfl, by rw [block_of_add]; exact hb, fun j u hu => ?_⟩
  rw [add_of_add]
  exact hcell _ u (by rw [← hu, List.getElem?_drop])
theorem Reads.of_own {base : Nat} {e : TypeId} {c : Nat} (h : w.ownsRow base e size (.slice A n c) n xs) : Reads w (fun b => base ≤ b ∧ b < w.heap.size ∧ (Value.slice A n c).ownBlock = some b) size A n xs := by
  refine ⟨h.1, fun hn => ?_⟩
  obtain ⟨g, cap, hv, hb, hlt⟩ := h.form hn
  have hA : A = some ⟨g, 0, none⟩ := by injection hv
  subst hA
  exact ⟨_, rfl, ⟨hb, hlt, rfl⟩, h.cells (g := g) rfl⟩
theorem Reads.append {ys : List Value} {m : Nat} (_h : Reads w S size A n xs) (hl : ys.length = m * size) (hlen : xs.length = n * size) : (xs ++ ys).length = (n + m) * size := by
  rw [List.length_append, hlen, hl, Nat.add_mul]
end

/-- Block g is just the cells cs of element type t, none frozen. -/
def Blk (w : World) (g : Nat) (t : TypeId) (cs : Array Value) : Prop := w.heap[g]? = some (.cells cs t (0, 0))

section
variable {w w' : World} {g : Nat} {t : TypeId} {cs : Array Value}
theorem Blk.lt (h : Blk w g t cs) : g < w.heap.size := by
  rcases Nat.lt_or_ge g w.heap.size with hlt | hge
  · exact hlt
  · unfold Blk at h; rw [Array.getElem?_eq_none hge] at h; cases h
theorem Blk.cell (h : Blk w g t cs) (i : Nat) : w.cell? ⟨g, i, none⟩ = cs[i]? := cell_of_row w g i cs t (0, 0) h
theorem Blk.frozen (h : Blk w g t cs) (i : Nat) : w.frozen? ⟨g, i, none⟩ = false := by
  unfold Blk at h
  simp [World.frozen?, h]
theorem Blk.new (w : World) (t : TypeId) (cs : Array Value) : Blk (w.alloc (.cells cs t)) w.heap.size t cs := heap_alloc_new w _
theorem Blk.drew (h : Blk w g t cs) : Blk w.drew g t cs := h
theorem Blk.drewN (h : Blk w g t cs) (n : Nat) : Blk (w.drewN n) g t cs := h
theorem Blk.alloc (h : Blk w g t cs) (o : Obj) : Blk (w.alloc o) g t cs := (Below.heap_alloc w o g h.lt).trans h
theorem Blk.set_ (h : Blk w g t cs) (i : Nat) (u : Value) : Blk (w.setCell ⟨g, i, none⟩ u) g t (cs.setIfInBounds i u) := by
  unfold Blk at h ⊢
  simp [World.setCell, Array.getElem?_modify, h]
theorem Blk.far (h : Blk w g t cs) {p : Addr} (hp : g ≠ p.block) (u : Value) : Blk (w.setCell p u) g t cs := (Below.heap_setCell w p u g hp).trans h
theorem Blk.below {B : Nat} (h : Blk w g t cs) (hb : Below B w w') (hg : g < B) : Blk w' g t cs := (hb.block g hg).trans h
theorem Blk.grown {row : Option Nat} (h : Blk w g t cs) (hb : w.grownBy w' row) (hg : some g ≠ row) : Blk w' g t cs := (hb.block g h.lt hg).trans h
theorem Blk.ne_ {g' : Nat} {t' : TypeId} {cs' : Array Value} (h : Blk w g t cs) (h' : Blk w g' t' cs') (hne : t ≠ t') : g ≠ g' := by
  rintro rfl
  unfold Blk at h h'
  rw [h] at h'
  injection h' with h'
  injection h' with _ ht
  exact hne ht
end

theorem five_cells {w : World} {g : Nat} {t : TypeId} {c0 c1 c2 c3 c4 : Value} (h : Blk w g t #[c0, c1, c2, c3, c4]) :
    (w.cell? ⟨g, 0, none⟩ = some c0 ∧ w.cell? ⟨g, 1, none⟩ = some c1 ∧ w.cell? ⟨g, 2, none⟩ = some c2 ∧ w.cell? ⟨g, 3, none⟩ = some c3 ∧ w.cell? ⟨g, 4, none⟩ = some c4) ∧
    (w.frozen? ⟨g, 0, none⟩ = false ∧ w.frozen? ⟨g, 1, none⟩ = false ∧ w.frozen? ⟨g, 2, none⟩ = false ∧ w.frozen? ⟨g, 3, none⟩ = false ∧ w.frozen? ⟨g, 4, none⟩ = false) :=
  ⟨⟨h.cell 0, h.cell 1, h.cell 2, h.cell 3, h.cell 4⟩, ⟨h.frozen 0, h.frozen 1, h.frozen 2, h.frozen 3, h.frozen 4⟩⟩
theorem five_at {w : World} {a : Addr} {c0 c1 c2 c3 c4 : Value} (h : ∀ j u, [c0, c1, c2, c3, c4][j]? = some u → w.cell? (a.add j) = some u) :
    w.cell? a = some c0 ∧ w.cell? ⟨a.block, a.off + 1, none⟩ = some c1 ∧ w.cell? ⟨a.block, a.off + 2, none⟩ = some c2 ∧ w.cell? ⟨a.block, a.off + 3, none⟩ = some c3 ∧ w.cell? ⟨a.block, a.off + 4, none⟩ = some c4 :=
  ⟨h 0 c0 rfl, h 1 c1 rfl, h 2 c2 rfl, h 3 c3 rfl, h 4 c4 rfl⟩
theorem below_set5 {B g : Nat} {w w2 : World} (h : Below B w w2) (hg : B ≤ g) (c0 c1 c2 c3 c4 : Value) :
    Below B w (((((w2.setCell ⟨g, 0, none⟩ c0).setCell ⟨g, 1, none⟩ c1).setCell ⟨g, 2, none⟩ c2).setCell ⟨g, 3, none⟩ c3).setCell ⟨g, 4, none⟩ c4) :=
  ((((h.setCell hg _).setCell hg _).setCell hg _).setCell hg _).setCell hg _
theorem stays_set5 {S : Nat → Prop} {w w2 : World} {g : Nat} (h : Stays S w w2) (hg : ¬ S g) (c0 c1 c2 c3 c4 : Value) :
    Stays S w (((((w2.setCell ⟨g, 0, none⟩ c0).setCell ⟨g, 1, none⟩ c1).setCell ⟨g, 2, none⟩ c2).setCell ⟨g, 3, none⟩ c3).setCell ⟨g, 4, none⟩ c4) :=
  stays_setCell hg (stays_setCell hg (stays_setCell hg (stays_setCell hg (stays_setCell hg h _) _) _) _) _

theorem only_of_below {a w : World} (h : Below a.heap.size a w) (row : Option Nat) : a.grownBy w row := ⟨h.os, h.tape, h.output, h.size, fun i hi _ => h.block i hi⟩
theorem own_below {w w1 : World} {base : Nat} {e : TypeId} {size : Nat} {v : Value} {n : Nat} {xs : List Value} (h : w.ownsRow base e size v n xs) (hb : Below w.heap.size w w1) : w1.ownsRow base e size v n xs :=
  h.kept (only_of_below hb none) (by cases hv : v.ownBlock <;> simp)

theorem own_slice {w : World} {base : Nat} {e : TypeId} {size : Nat} {v : Value} {n : Nat} {xs : List Value} (h : w.ownsRow base e size v n xs) :
    ∃ A c, v = .slice A n c ∧ n ≤ c ∧ c ≤ maxLen ∧ Reads w (fun b => base ≤ b ∧ b < w.heap.size) size A n xs := by
  rcases h.2 with ⟨rfl, rfl⟩ | ⟨g, cap, cur, rfl, hb, hg, hnc, hcm, hcs, ht⟩
  · exact ⟨none, 0, rfl, Nat.le_refl _, Nat.zero_le _, h.1, fun hn => absurd hn (by omega)⟩
  · exact ⟨some ⟨g, 0, none⟩, cap, rfl, hnc, hcm, (Reads.of_own h).sub fun b hb => ⟨hb.1, hb.2.1⟩⟩

/-- Nothing has turned but a count of draws. -/
def Quiet (w w' : World) : Prop := ∃ n, w' = w.drewN n
theorem Quiet.refl (w : World) : Quiet w w := ⟨0, rfl⟩
theorem Quiet.drewN (w : World) (n : Nat) : Quiet w (w.drewN n) := ⟨n, rfl⟩
theorem Quiet.drew (w : World) : Quiet w w.drew := ⟨1, rfl⟩
theorem Quiet.trans {a b c : World} (h : Quiet a b) (k : Quiet b c) : Quiet a c := by
  obtain ⟨n, rfl⟩ := h
  obtain ⟨m, rfl⟩ := k
  exact ⟨n + m, by rw [World.drewN_drewN]⟩
theorem Quiet.heap {w w' : World} (h : Quiet w w') : w'.heap = w.heap := by
  obtain ⟨n, rfl⟩ := h
  rfl
theorem Quiet.size {w w' : World} (h : Quiet w w') : w'.heap.size = w.heap.size := by rw [h.heap]
theorem Quiet.below {B : Nat} {a w w' : World} (h : Quiet w w') (hb : Below B a w) : Below B a w' := by
  obtain ⟨n, rfl⟩ := h
  exact below_drewN hb n
theorem Quiet.blk {w w' : World} (h : Quiet w w') {g : Nat} {t : TypeId} {cs : Array Value} (hb : Blk w g t cs) : Blk w' g t cs := by
  obtain ⟨n, rfl⟩ := h
  exact hb
theorem Quiet.stays {S : Nat → Prop} {a w w' : World} (h : Quiet w w') (hs : Stays S a w) : Stays S a w' := by
  obtain ⟨n, rfl⟩ := h
  exact hs
theorem Quiet.old {S : Nat → Prop} {w w' : World} (h : Quiet w w') (hs : Old w S) : Old w' S := by
  obtain ⟨n, rfl⟩ := h
  exact hs

/-- A byte as a cell. -/
def u8 (b : UInt8) : Value := .int .u8 (b.toNat : Int)
theorem u8_def (b : UInt8) : u8 b = .int .u8 (b.toNat : Int) := rfl
theorem u8_one (bs : List UInt8) : ∀ u ∈ bs.map u8, u.oneCell' = true := by
  intro u hu
  obtain ⟨b, _, rfl⟩ := List.mem_map.1 hu
  rfl
/-- A byte slice that reads as bs, in a block that S takes. -/
def RB (w : World) (S : Nat → Prop) (A : Option Addr) (bs : List UInt8) : Prop := Reads w S 1 A bs.length (bs.map u8)
section
variable {w w' : World} {S T : Nat → Prop} {A : Option Addr} {bs : List UInt8}
theorem RB.none_ : RB w S A [] := Reads.none_
theorem RB.keep (h : RB w S A bs) (hb : Stays S w w') : RB w' S A bs := Reads.keep h hb
theorem RB.sub (h : RB w S A bs) (hs : ∀ b, S b → T b) : RB w T A bs := Reads.sub h hs
theorem RB.below {B : Nat} (h : RB w (Lt B) A bs) (hb : Below B w w') : RB w' (Lt B) A bs := Reads.below h hb
theorem RB.more {B B' : Nat} (h : RB w (Lt B) A bs) (hB : B ≤ B') : RB w (Lt B') A bs := Reads.sub h fun _ hb => Nat.lt_of_lt_of_le hb hB
theorem RB.take (h : RB w S A bs) {k : Nat} (hk : k ≤ bs.length) : RB w S A (bs.take k) := by
  have := Reads.take h hk
  unfold RB
  simpa [List.map_take, Nat.min_eq_left hk] using this
theorem RB.cut (h : RB w S A bs) {k cap : Nat} (hk : k ≤ bs.length) (hc : bs.length ≤ cap) : RB w S (cutA A cap k 1) (bs.drop k) := by
  have := Reads.cut h hk hc
  unfold RB
  simpa [List.map_drop] using this
theorem RB.at_ (h : RB w S A bs) {k : Nat} (hk : k < bs.length) : ∃ ad, A = some ad ∧ S ad.block ∧ w.cell? (ad.add k) = some (u8 bs[k]) := by
  obtain ⟨ad, u, e, hb, hu, hc⟩ := Reads.at_ h hk
  refine ⟨ad, e, hb, ?_⟩
  rw [hc]
  simp [hk] at hu
  rw [← hu]
theorem RB.all_ (h : RB w S A bs) (hn : 0 < bs.length) : ∃ ad, A = some ad ∧ S ad.block ∧ ∀ k (hk : k < bs.length), w.cell? (ad.add k) = some (u8 bs[k]) := by
  obtain ⟨ad, e, hb, hc⟩ := h.2 (by simpa using hn)
  refine ⟨ad, e, hb, fun k hk => hc k _ (by simp [hk])⟩

theorem fold_push (bs : List UInt8) : ∀ s : ByteArray, (bs.map fun b => (b.toNat : Int)).foldl (fun r n => r.push (UInt8.ofNat n.toNat)) s = ⟨s.data ++ bs.toArray⟩ := by
  induction bs with
  | nil => intro s; cases s; simp
  | cons b bs ih =>
    intro s
    rw [List.map_cons, List.foldl_cons, ih]
    cases s
    simp [ByteArray.push]
/-- '[]byte' turned to a string: the bytes. -/
theorem run_string_of_bytes {P : Program} (src dst e : TypeId) (hs : P.underlying src = some (.slice e)) (he : P.underlying e = some (.int .u8)) (hd : P.underlying dst = some .string)
    (h : RB w S A bs) (c : Nat) : (convert src dst (.slice A bs.length c)).run P w = .ok (.string ⟨bs.toArray⟩) w := by
  rw [run_convert_bytes_string w src dst e A bs.length c hs he hd]
  rcases A with _ | ad
  · have hn : bs = [] := by
      rcases bs with _ | ⟨b, bs⟩
      · rfl
      · obtain ⟨ad, h, _⟩ := h.2 (by simp)
        cases h
    subst hn
    simp [Conv.bytesToString, Sem.run_pure]
    rfl
  · have hc : ∀ j u, (bs.map u8)[j]? = some u → w.cell? (ad.add j) = some u := by
      intro j u hu
      have hj : j < bs.length := by
        rcases Nat.lt_or_ge j bs.length with h | h
        · exact h
        · rw [List.getElem?_eq_none (by simpa using h)] at hu
          cases hu
      obtain ⟨ad', h1, _, h2⟩ := h.2 (by omega)
      injection h1 with h1
      subst h1
      exact h2 j u hu
    have hl := run_loadCells_list (P := P) w ad (bs.map u8) hc
    rw [List.length_map] at hl
    have hm : bs.map u8 = (bs.map fun b => (b.toNat : Int)).map (Value.int .u8) := by simp [u8]
    rw [hm] at hl
    rw [run_bytesToString w ad bs.length c _ hl, fold_push]
    simp
end
end Go.Proofs.YtlnpiigdjjadiaaDoor

/-
  Words for a byte slice that the call itself owns: appends onto it, room for more, bytes written one behind the other.
-/
namespace Go.Proofs.YtlnpiigdjjadiaaDoor
set_option linter.unusedSimpArgs false
set_option linter.unusedVariables false
open Go.RowKit
section
variable {P : Program} (w : World)
theorem run_append_of_nil (base : Nat) (t ty e : TypeId) (i : TypeInfo) (size : Nat) (ht : P.underlying t = some (.slice e)) (hi : P.info? e = some i)
    (v : Value) (n : Nat) (xs : List Value) (hown : w.ownsRow base e size v n xs) (c : Nat) : (Builtin.append_ #[t, t] ty #[v, .slice none 0 c]).run P w = .ok v w := by
  rcases hown.2 with ⟨rfl, rfl⟩ | ⟨g, cap, cur, rfl, _, _, hnc, _⟩
  · simp [Builtin.append_, run_underlying ht, sizeOf, typeInfo, hi, Builtin.lenOf, Builtin.firstCells]
  · simp [Builtin.append_, run_underlying ht, sizeOf, typeInfo, hi, Builtin.lenOf, Builtin.firstCells, hnc, storeCells]
theorem run_append_any {S : Nat → Prop} (base : Nat) (t ty e : TypeId) (i : TypeInfo) (z : Value) (size bytes : Nat) (ht : P.underlying t = some (.slice e)) (hi : P.info? e = some i) (hz : i.zero = some z)
    (hsize : i.size = size) (hby : i.bytes = bytes) (hzs : z.cells.size = size) (hsz : 0 < size)
    (v : Value) (n : Nat) (xs : List Value) (hown : w.ownsRow base e size v n xs)
    (A : Option Addr) (m c : Nat) (news : List Value) (hr : Reads w S size A m news) (h1 : ∀ u ∈ news, u.oneCell' = true)
    (h63 : n + m ≤ maxLen) (hbytes : (n + m) * bytes ≤ 140737488355328) (hbase : base ≤ w.heap.size) :
    ∃ v' w', (Builtin.append_ #[t, t] ty #[v, .slice A m c]).run P w = .ok v' w' ∧ w'.ownsRow base e size v' (n + m) (xs ++ news) ∧ w.grownBy w' v.ownBlock ∧
      (v'.ownBlock = v.ownBlock ∨ v'.ownBlock = some w.heap.size) := by
  rcases A with _ | ad
  · have hm : m = 0 := by
      rcases Nat.eq_zero_or_pos m with h0 | h0
      · exact h0
      · obtain ⟨ad, h, _⟩ := hr.2 h0
        cases h
    subst hm
    have hn : news = [] := List.eq_nil_of_length_eq_zero (by simpa using hr.1)
    subst hn
    exact ⟨v, w, run_append_of_nil w base t ty e i size ht hi v n xs hown c, by simpa using hown, World.grownBy.refl w _, .inl rfl⟩
  · have hcells : ∀ j u, news[j]? = some u → w.cell? (ad.add j) = some u := by
      intro j u hu
      rcases Nat.eq_zero_or_pos m with h0 | h0
      · subst h0
        have hn : news = [] := List.eq_nil_of_length_eq_zero (by simpa using hr.1)
        subst hn
        simp at hu
      · obtain ⟨ad', h, _, hc⟩ := hr.2 h0
        injection h with h
        subst h
        exact hc j u hu
    obtain ⟨v', w', hrun, h2, h3, _, h5⟩ := run_append_own_at (P := P) w base t ty e i z size bytes ht hi hz hsize hby hzs hsz v n xs hown ad m c news hr.1 hcells h1 h63 hbytes hbase
    exact ⟨v', w', hrun, h2, h3, h5⟩
theorem wp_append_any {S : Nat → Prop} {o : Oper} {a : Act} {K : Act → World → Prop} {Q : Exit → Act → World → Prop} (s x : Operand) (t : TypeId)
    (ho : o.op = .call { callee := .builtin .append, args := #[s, x], argTypes := #[t, t] })
    (base : Nat) (e : TypeId) (i : TypeInfo) (z : Value) (size bytes : Nat) (ht : P.underlying t = some (.slice e)) (hi : P.info? e = some i) (hz : i.zero = some z)
    (hsize : i.size = size) (hby : i.bytes = bytes) (hzs : z.cells.size = size) (hsz : 0 < size)
    (v : Value) (n : Nat) (xs : List Value) (hs : a.eval s = v) (hown : w.ownsRow base e size v n xs)
    (A : Option Addr) (m c : Nat) (news : List Value) (hx : a.eval x = .slice A m c) (hr : Reads w S size A m news) (h1 : ∀ u ∈ news, u.oneCell' = true)
    (h63 : n + m ≤ maxLen) (hbytes : (n + m) * bytes ≤ 140737488355328) (hbase : base ≤ w.heap.size)
    (h : ∀ v' w', w'.ownsRow base e size v' (n + m) (xs ++ news) → w.grownBy w' v.ownBlock → (v'.ownBlock = v.ownBlock ∨ v'.ownBlock = some w.heap.size) → K (a.put o.dst v') w') : o.wp P a w K Q := by
  obtain ⟨v', w', hrun, h2, h3, h4⟩ := run_append_any (P := P) w base t o.type e i z size bytes ht hi hz hsize hby hzs hsz v n xs hown A m c news hr h1 h63 hbytes hbase
  unfold Oper.wp execOp
  simp only [ho, resolve, invoke, builtin, Sem.run_bind, Sem.run_pure, Result.andThen_ok, List.map_toArray, List.map_cons, List.map_nil, hs, hx, hrun]
  exact h v' w' h2 h3 h4
theorem wpList_append_any {S : Nat → Prop} {ops : Array Oper} {rest : List Oper} {o : Oper} {a : Act} {Q : Exit → Act → World → Prop} (hgd : o.guard = none) (s x : Operand) (t : TypeId)
    (ho : o.op = .call { callee := .builtin .append, args := #[s, x], argTypes := #[t, t] })
    (base : Nat) (e : TypeId) (i : TypeInfo) (z : Value) (size bytes : Nat) (ht : P.underlying t = some (.slice e)) (hi : P.info? e = some i) (hz : i.zero = some z)
    (hsize : i.size = size) (hby : i.bytes = bytes) (hzs : z.cells.size = size) (hsz : 0 < size)
    (v : Value) (n : Nat) (xs : List Value) (hs : a.eval s = v) (hown : w.ownsRow base e size v n xs)
    (A : Option Addr) (m c : Nat) (news : List Value) (hx : a.eval x = .slice A m c) (hr : Reads w S size A m news) (h1 : ∀ u ∈ news, u.oneCell' = true)
    (h63 : n + m ≤ maxLen) (hbytes : (n + m) * bytes ≤ 140737488355328) (hbase : base ≤ w.heap.size)
    (h : ∀ v' w', w'.ownsRow base e size v' (n + m) (xs ++ news) → w.grownBy w' v.ownBlock → (v'.ownBlock = v.ownBlock ∨ v'.ownBlock = some w.heap.size) → wpList P ops Q rest (a.put o.dst v') w') : wpList P ops Q (o :: rest) a w :=
  wpList_plain hgd fun _ hK => wp_append_any w s x t ho base e i z size bytes ht hi hz hsize hby hzs hsz v n xs hs hown A m c news hx hr h1 h63 hbytes hbase fun v' w' h2 h3 h4 => hK _ _ (h v' w' h2 h3 h4)
end
/-- Block g is a row of cap cells of type t that begins with xs. -/
def Row (w : World) (t : TypeId) (g cap : Nat) (xs : List Value) : Prop := ∃ cur : Array Value, Blk w g t cur ∧ cur.size = cap ∧ xs.length ≤ cap ∧ cur.toList.take xs.length = xs
section
variable {w w' : World} {t : TypeId} {g cap n B : Nat} {xs ys : List Value}
theorem Row.keep (h : Row w t g cap xs) (hk : w'.heap[g]? = w.heap[g]?) : Row w' t g cap xs := by
  obtain ⟨cur, hb, r⟩ := h
  exact ⟨cur, hk.trans hb, r⟩
theorem Row.le_ (h : Row w t g cap xs) : xs.length ≤ cap := by
  obtain ⟨cur, _, _, h, _⟩ := h
  exact h
theorem Row.lt (h : Row w t g cap xs) : g < w.heap.size := by
  obtain ⟨cur, hb, _⟩ := h
  exact hb.lt
theorem Row.cell (h : Row w t g cap xs) (hn : n < cap) : ∃ u, w.cell? ⟨g, n, none⟩ = some u := by
  obtain ⟨cur, hb, hs, _⟩ := h
  exact ⟨cur[n], by rw [hb.cell n]; simp [hs, hn]⟩
theorem Row.frozen (h : Row w t g cap xs) (n : Nat) : w.frozen? ⟨g, n, none⟩ = false := by
  obtain ⟨cur, hb, _⟩ := h
  exact hb.frozen n
theorem Row.at_ (h : Row w t g cap xs) {u : Value} (hu : xs[n]? = some u) : w.cell? ⟨g, n, none⟩ = some u := by
  obtain ⟨cur, hb, hs, hl, ht⟩ := h
  rw [hb.cell n]
  rw [← ht, List.getElem?_take] at hu
  split at hu
  · simpa using hu
  · cases hu
theorem Row.push (h : Row w t g cap xs) (hn : xs.length = n) (hc : n < cap) (u : Value) : Row (w.setCell ⟨g, n, none⟩ u) t g cap (xs ++ [u]) := by
  obtain ⟨cur, hb, hs, hl, ht⟩ := h
  subst hn
  refine ⟨cur.setIfInBounds xs.length u, hb.set_ _ u, by simp [hs], by simp; omega, ?_⟩
  have hlt : xs.length < cur.size := by omega
  rw [List.length_append, List.length_singleton, List.take_succ_eq_append_getElem (by simpa using hlt)]
  simp
  rw [List.take_set_of_le (Nat.le_refl _), ht]
theorem Row.pre (h : Row w t g cap (xs ++ ys)) : Row w t g cap xs := by
  obtain ⟨cur, hb, hs, hl, ht⟩ := h
  refine ⟨cur, hb, hs, by simp at hl; omega, ?_⟩
  have := congrArg (List.take xs.length) ht
  rw [List.take_take, List.take_left, Nat.min_eq_left (by simp)] at this
  exact this
theorem Row.own (h : Row w t g cap xs) (hn : xs.length = n) (hB : B ≤ g) (hm : cap ≤ maxLen) : w.ownsRow B t 1 (.slice (some ⟨g, 0, none⟩) n cap) n xs := by
  obtain ⟨cur, hb, hs, hl, ht⟩ := h
  subst hn
  exact ⟨by simp, .inr ⟨g, cap, cur, rfl, hB, hb, hl, hm, by simpa using hs, by simpa using ht⟩⟩
/-- What an owned slice of one-cell elements is: nil, or a row. -/
theorem own_row {v : Value} (h : w.ownsRow B t 1 v n xs) : (v = .slice none 0 0 ∧ n = 0 ∧ xs = []) ∨ ∃ g cap, v = .slice (some ⟨g, 0, none⟩) n cap ∧ B ≤ g ∧ cap ≤ maxLen ∧ n ≤ cap ∧ xs.length = n ∧ Row w t g cap xs := by
  obtain ⟨hl, h⟩ := h
  rcases h with ⟨rfl, rfl⟩ | ⟨g, cap, cur, rfl, hb, hg, hnc, hcm, hcs, ht⟩
  · exact .inl ⟨rfl, rfl, List.eq_nil_of_length_eq_zero (by simpa using hl)⟩
  · simp only [Nat.mul_one] at hl hcs ht
    exact .inr ⟨g, cap, rfl, hb, hcm, hnc, hl, cur, hg, hcs, by omega, by rw [hl]; exact ht⟩
end
theorem cutA_at (g cap n : Nat) (h : n < cap) : cutA (some ⟨g, 0, none⟩) cap n 1 = some ⟨g, n, none⟩ := by
  unfold cutA
  rw [if_neg (by omega)]
  simp [Addr.add]
  omega
theorem grown_setCell {a w : World} {g : Nat} (h : a.grownBy w (some g)) (n : Nat) (u : Value) : a.grownBy (w.setCell ⟨g, n, none⟩ u) (some g) :=
  ⟨h.os, h.tape, h.output, by simpa [World.setCell] using h.size, fun i hi hne => (Below.heap_setCell w ⟨g, n, none⟩ u i (fun e => hne (by rw [e]))).trans (h.block i hi hne)⟩
theorem grown_drew {a w : World} {row : Option Nat} (h : a.grownBy w row) : a.grownBy w.drew row := ⟨h.os, h.tape, h.output, h.size, h.block⟩
theorem grown_quiet {a w w' : World} {row : Option Nat} (h : a.grownBy w row) (hq : Quiet w w') : a.grownBy w' row := by
  obtain ⟨n, rfl⟩ := hq
  exact ⟨h.os, h.tape, h.output, h.size, h.block⟩
theorem grown_trans' {a b c : World} {row row' : Option Nat} (h : a.grownBy b row) (k : b.grownBy c row') (hr : ∀ g, row' = some g → row = some g ∨ a.heap.size ≤ g) : a.grownBy c row :=
  ⟨k.os.trans h.os, k.tape.trans h.tape, k.output.trans h.output, Nat.le_trans h.size k.size, fun i hi hne => (k.block i (Nat.lt_of_lt_of_le hi h.size) (fun e => by
    rcases hr i e.symm with h1 | h1
    · exact hne h1.symm
    · omega)).trans (h.block i hi hne)⟩
end Go.Proofs.YtlnpiigdjjadiaaDoor

/-
  append of a row that was just built to a row of one's own. No condition beyond its length.
-/
namespace Go.Proofs.YtlnpiigdjjadiaaDoor
set_option linter.unusedSimpArgs false
set_option linter.unusedVariables false
open Go.RowKit
theorem wpList_append_atS {P : Program} {w : World} {ops : Array Oper} {rest : List Oper} {o : Oper} {a : Act} {Q : Exit → Act → World → Prop} (hgd : o.guard = none) (s x : Operand) (t : TypeId)
    (ho : o.op = .call { callee := .builtin .append, args := #[s, x], argTypes := #[t, t] })
    (base : Nat) (e : TypeId) (i : TypeInfo) (z : Value) (size bytes : Nat) (ht : P.underlying t = some (.slice e)) (hi : P.info? e = some i) (hz : i.zero = some z)
    (hsize : i.size = size) (hby : i.bytes = bytes) (hzs : z.cells.size = size) (hsz : 0 < size)
    (v : Value) (n : Nat) (xs : List Value) (hs : a.eval s = v) (hown : w.ownsRow base e size v n xs)
    (ad : Addr) (m c : Nat) (news : List Value) (hx : a.eval x = .slice (some ad) m c) (hl : news.length = m * size) (hnews : ∀ j u, news[j]? = some u → w.cell? (ad.add j) = some u) (h1 : ∀ u ∈ news, u.oneCell' = true)
    (h63 : n + m ≤ maxLen) (hbytes : (n + m) * bytes ≤ 140737488355328) (hbase : base ≤ w.heap.size)
    (h : ∀ v' w', w'.ownsRow base e size v' (n + m) (xs ++ news) → w.grownBy w' v.ownBlock → (v'.ownBlock = v.ownBlock ∨ v'.ownBlock = some w.heap.size) → wpList P ops Q rest (a.put o.dst v') w') : wpList P ops Q (o :: rest) a w :=
  wpList_append_any (S := fun _ => True) w hgd s x t ho base e i z size bytes ht hi hz hsize hby hzs hsz v n xs hs hown (some ad) m c news hx ⟨hl, fun _ => ⟨ad, rfl, trivial, hnews⟩⟩ h1 h63 hbytes hbase h
end Go.Proofs.YtlnpiigdjjadiaaDoor

/-
  A map of ints that is written out as a literal ('map[int]int{..}'): what the walk's operations make of it, and what a look-up answers. Conditions: no key stands twice.
-/
namespace Go.Proofs.YtlnpiigdjjadiaaDoor
set_option linter.unusedSimpArgs false
set_option linter.unusedVariables false
open Go.RowKit
def entsFrom : List (Int × Int) → Nat → List MapEntry
  | [], _ => []
  | (k, v) :: r, i => { key := .int .i64 k, val := .int .i64 v, born := i } :: entsFrom r (i + 1)
/-- The map that a literal makes. -/
def mapOf (l : List (Int × Int)) : Obj := .map (entsFrom l 0).toArray l.length
/-- What it holds under a key; 0 where there is none. -/
def look : List (Int × Int) → Int → Int
  | [], _ => 0
  | (k, v) :: r, x => if x = k then v else look r x
theorem entsFrom_append (l : List (Int × Int)) (k v : Int) : ∀ i, entsFrom (l ++ [(k, v)]) i = entsFrom l i ++ [{ key := .int .i64 k, val := .int .i64 v, born := i + l.length }] := by
  induction l with
  | nil => intro i; simp [entsFrom]
  | cons x l ih =>
    intro i
    obtain ⟨a, b⟩ := x
    simp [entsFrom, ih, Nat.add_assoc, Nat.add_comm 1]
theorem findNow_none (l : List (Int × Int)) (x : Int) (h : ∀ p ∈ l, p.1 ≠ x) : ∀ i j, Instr.findNow (.int .i64) (.int .i64 x) (entsFrom l i) j = some none := by
  induction l with
  | nil => intro i j; rfl
  | cons p l ih =>
    intro i j
    obtain ⟨a, b⟩ := p
    have ha : (x == a) = false := by
      have := h (a, b) (by simp)
      simpa using fun e : x = a => this e.symm
    simp [entsFrom, Instr.findNow, Instr.sameNow, ha]
    exact ih (fun p hp => h p (by simp [hp])) _ _
theorem findNow_look (l : List (Int × Int)) (x : Int) : ∀ i j, (∃ r, Instr.findNow (.int .i64) (.int .i64 x) (entsFrom l i) j = some (some r) ∧ r.2 = .int .i64 (look l x)) ∨
    (Instr.findNow (.int .i64) (.int .i64 x) (entsFrom l i) j = some none ∧ look l x = 0) := by
  induction l with
  | nil => intro i j; exact .inr ⟨rfl, rfl⟩
  | cons p l ih =>
    intro i j
    obtain ⟨a, b⟩ := p
    by_cases h : x = a
    · subst h
      exact .inl ⟨(j, .int .i64 b), by simp [entsFrom, Instr.findNow, Instr.sameNow], by simp [look]⟩
    · have ha : (x == a) = false := by simpa using h
      rcases ih (i + 1) (j + 1) with ⟨r, h1, h2⟩ | ⟨h1, h2⟩
      · exact .inl ⟨r, by simpa [entsFrom, Instr.findNow, Instr.sameNow, ha] using h1, by simpa [look, h] using h2⟩
      · exact .inr ⟨by simpa [entsFrom, Instr.findNow, Instr.sameNow, ha] using h1, by simpa [look, h] using h2⟩
section
variable {P : Program} {t kt et : TypeId} (ht : P.underlying t = some (.map kt et)) (hk : P.underlying kt = some (.int .i64))
include ht hk
theorem run_insert_lit (w : World) (l : List (Int × Int)) (k v : Int) (h : ∀ p ∈ l, p.1 ≠ k) :
    (Instr.mapUpdate t (.map (some w.heap.size)) (.int .i64 k) (.int .i64 v)).run P (w.alloc (mapOf l)) = .ok () (w.alloc (mapOf (l ++ [(k, v)]))) := by
  have hb : (w.alloc (mapOf l)).heap[w.heap.size]? = some (.map (entsFrom l 0).toArray l.length) := heap_alloc_new w _
  have hf := findNow_none l k h 0 0
  have hset : (w.heap.push (mapOf l)).setIfInBounds w.heap.size (mapOf (l ++ [(k, v)])) = w.heap.push (mapOf (l ++ [(k, v)])) := by
    apply Array.ext_getElem?
    intro i
    rw [Array.getElem?_setIfInBounds, Array.getElem?_push, Array.getElem?_push]
    by_cases h1 : w.heap.size = i
    · simp [h1]
    · rw [if_neg h1, if_neg (fun e => h1 e.symm), if_neg (fun e => h1 e.symm)]
  have hik : MapKept.IsKey (.int .i64) (.int .i64 k) := by simp [MapKept.IsKey]
  have hpush : (Obj.map ((entsFrom l 0).toArray.push { key := .int .i64 k, val := .int .i64 v, born := l.length }) (l.length + 1)) = mapOf (l ++ [(k, v)]) := by
    unfold mapOf
    rw [entsFrom_append]
    simp
  simp only [Instr.mapUpdate, Sem.run_bind, run_underlying ht, MapKept.run_getObj_map hb, MapKept.run_checkKey hk hik, MapKept.run_findKey hk hf, MapKept.run_setObj_map _ hb, Result.andThen, hpush]
  congr 1
  show ({ w.alloc (mapOf l) with heap := (w.heap.push (mapOf l)).setIfInBounds w.heap.size (mapOf (l ++ [(k, v)])) } : World) = _
  rw [hset]
  rfl
theorem run_lookup_lit (w : World) (l : List (Int × Int)) (n : Nat) (hn : w.heap.size = n) (k : Int) (hz : ∀ w, (zeroValue et).run P w = .ok (.int .i64 0) w) :
    (Instr.lookup t (.map (some n)) (.int .i64 k) false).run P (w.alloc (mapOf l)) = .ok (.int .i64 (look l k)) (w.alloc (mapOf l)) := by
  subst hn
  have hb : (w.alloc (mapOf l)).heap[w.heap.size]? = some (.map (entsFrom l 0).toArray l.length) := heap_alloc_new w _
  have hik : MapKept.IsKey (.int .i64) (.int .i64 k) := by simp [MapKept.IsKey]
  rcases findNow_look l k 0 0 with ⟨r, h1, h2⟩ | ⟨h1, h2⟩
  · obtain ⟨i, v⟩ := r
    simp only at h2
    subst h2
    simp [Instr.lookup, run_underlying ht, MapKept.run_getObj_map hb, MapKept.run_checkKey hk hik, MapKept.run_findKey hk h1, Result.andThen]
  · simp [Instr.lookup, run_underlying ht, MapKept.run_getObj_map hb, MapKept.run_checkKey hk hik, MapKept.run_findKey hk h1, Result.andThen, hz, h2]
end
/-- What an operation of the literal puts into the map. -/
def insOf (t : TypeId) (m : Tmp) (o : Oper) : Option (Int × Int) :=
  match o with
  | { dst := none, op := .insert t' (.tmp m') (.const (.int .i64 k)) (.const (.int .i64 v)), guard := none, .. } => if t' = t ∧ m' = m then some (k, v) else none
  | _ => none
theorem insOf_some {t : TypeId} {m : Tmp} {o : Oper} {k v : Int} (h : insOf t m o = some (k, v)) : o.dst = none ∧ o.op = .insert t (.tmp m) (.const (.int .i64 k)) (.const (.int .i64 v)) ∧ o.guard = none := by
  unfold insOf at h
  split at h
  · split at h
    · rename_i hh
      obtain ⟨rfl, rfl⟩ := hh
      simp only [Option.some.injEq, Prod.mk.injEq] at h
      obtain ⟨rfl, rfl⟩ := h
      exact ⟨rfl, rfl, rfl⟩
    · cases h
  · cases h
def noneIs (x : Int) (l : List (Int × Int)) : Bool := l.all fun p => p.1 != x
def fresh_ : List (Int × Int) → List (Int × Int) → Bool
  | _, [] => true
  | l, (k, v) :: r => noneIs k l && fresh_ (l ++ [(k, v)]) r
section
variable {P : Program} {t kt et : TypeId} (ht : P.underlying t = some (.map kt et)) (hk : P.underlying kt = some (.int .i64))
include ht hk
theorem wpList_inserts {ops : Array Oper} {Q : Exit → Act → World → Prop} (m : Tmp) (w : World) (a : Act) (hm : a.tmps.getD m undef = .map (some w.heap.size)) (rest : List Oper) :
    ∀ (os : List Oper) (kvs l : List (Int × Int)), os.map (insOf t m) = kvs.map some → fresh_ l kvs = true →
      wpList P ops Q rest a (w.alloc (mapOf (l ++ kvs))) → wpList P ops Q (os ++ rest) a (w.alloc (mapOf l))
  | [], [], l, _, _, h => by simpa using h
  | [], _ :: _, _, h, _, _ => by simp at h
  | _ :: _, [], _, h, _, _ => by simp at h
  | o :: os, (k, v) :: kvs, l, h, hf, hw => by
    simp only [List.map_cons, List.cons.injEq] at h
    obtain ⟨h1, h2⟩ := h
    obtain ⟨hd, ho, hg⟩ := insOf_some h1
    simp only [fresh_, Bool.and_eq_true] at hf
    obtain ⟨hf1, hf2⟩ := hf
    have hne : ∀ p ∈ l, p.1 ≠ k := fun p hp => by
      have := List.all_eq_true.1 hf1 p hp
      simpa using this
    have hrun := run_insert_lit ht hk w l k v hne
    refine wpList_plain hg fun K hK => ?_
    unfold Oper.wp
    simp only [execOp, ho, Act.eval, hm, Sem.run_bind, hrun, Result.andThen]
    have hput : a.put o.dst undef = a := by rw [hd]; rfl
    have := hK _ _ (wpList_inserts m w a hm rest os kvs (l ++ [(k, v)]) h2 hf2 (by simpa using hw))
    simpa [Oper.upon, hput, Sem.run_pure, Sem.run_bind, Result.andThen] using this
/-- The whole literal: 'make', then a store a key. -/
theorem wpList_mapLit {ops : Array Oper} {Q : Exit → Act → World → Prop} {m : Tmp} {ty : TypeId} {pos : String} {after : Array Edge} {l : List Oper} {a : Act} {w : World} (n : Nat) (kvs : List (Int × Int))
    (hm : m < a.tmps.size) (hl : (l.take n).map (insOf t m) = kvs.map some) (hf : fresh_ [] kvs = true)
    (h : wpList P ops Q (l.drop n) (a.put (some m) (.map (some w.heap.size))) (w.alloc (mapOf kvs))) :
    wpList P ops Q ({ dst := some m, op := .makeMap t none, type := ty, pos := pos, after := after, guard := none } :: l) a w := by
  have hi := wpList_inserts ht hk (P := P) (ops := ops) (Q := Q) m w (a.put (some m) (.map (some w.heap.size))) (by simp [Act.put, hm]) (l.drop n) (l.take n) kvs [] hl hf (by simpa using h)
  rw [List.take_append_drop] at hi
  refine wpList_plain rfl fun K hK => ?_
  unfold Oper.wp
  simp only [execOp, Option.map_none, Sem.run_bind, run_makeMap, Result.andThen]
  exact hK _ _ hi
end
end Go.Proofs.YtlnpiigdjjadiaaDoor

/-
  A slice of numbers that came in reads as its numbers; a slice of bytes as its bytes. No condition.
-/
namespace Go.Proofs.YtlnpiigdjjadiaaDoor
set_option linter.unusedSimpArgs false
set_option linter.unusedVariables false
open Go.RowKit
/-- What the frame says of a slice of integers that came in. -/
abbrev RowIn (k : IntKind) (w : World) (a : Option Addr) (len cap : Nat) (zs : List Int) : Prop :=
  (a = none ∧ len = 0 ∧ cap = 0 ∧ zs = []) ∨ ∃ x, a = some x ∧ len ≤ cap ∧ cap ≤ maxLen ∧ zs.length = cap ∧ (∀ i, i < zs.length → w.cell? (x.add i) = some (.int k (zs.getD i 0))) ∧ ∀ n ∈ zs, (Lit.int k n).wf = true
theorem ints_of_row {k : IntKind} {w : World} {a : Option Addr} {len cap : Nat} {zs : List Int} (h : RowIn k w a len cap zs) :
    Reads w (Lt w.heap.size) 1 a len ((zs.take len).map (Value.int k)) ∧ (zs.take len).length = len ∧ len ≤ cap ∧ cap ≤ maxLen ∧ ∀ n ∈ zs.take len, (Lit.int k n).wf = true := by
  rcases h with ⟨rfl, rfl, rfl, rfl⟩ | ⟨x, rfl, hl, hm, hz, hc, hwf⟩
  · exact ⟨Reads.none_, rfl, Nat.le_refl _, Nat.zero_le _, fun n hn => by simp at hn⟩
  · have hlen : (zs.take len).length = len := by rw [List.length_take]; omega
    refine ⟨⟨by rw [List.length_map, hlen]; omega, fun h => ⟨x, rfl, ?_, ?_⟩⟩, hlen, hl, hm, fun n hn => hwf n (List.mem_of_mem_take hn)⟩
    · have h0 := hc 0 (by omega)
      apply Classical.byContradiction
      intro hn
      have hx : w.heap[x.block]? = none := Array.getElem?_eq_none (by simp [Lt] at hn; omega)
      simp [World.cell?, Addr.add, hx] at h0
    · intro j u hu
      simp only [List.getElem?_map, List.getElem?_take] at hu
      split at hu
      · rename_i hj
        have hjz : j < zs.length := by omega
        rw [List.getElem?_eq_getElem hjz] at hu
        simp only [Option.map_some, Option.some.injEq] at hu
        rw [hc j hjz, ← hu]
        simp only [List.getD_eq_getElem?_getD, List.getElem?_eq_getElem hjz, Option.getD_some]
      · simp at hu
/-- A slice of bytes that came in reads as its bytes. -/
theorem bytes_of_row {w : World} {a : Option Addr} {len cap : Nat} {zs : List Int} (h : RowIn .u8 w a len cap zs) :
    ∃ bs : List UInt8, len = bs.length ∧ RB w (Lt w.heap.size) a bs ∧ len ≤ cap ∧ cap ≤ maxLen := by
  obtain ⟨hr, hl, hc, hm, hwf⟩ := ints_of_row h
  refine ⟨(zs.take len).map fun z => UInt8.ofNat z.toNat, by rw [List.length_map, hl], ?_, hc, hm⟩
  have e : ((zs.take len).map fun z => UInt8.ofNat z.toNat).map u8 = (zs.take len).map (Value.int .u8) := by
    rw [List.map_map]
    refine List.map_congr_left fun z hz => ?_
    have hw := hwf z hz
    have hb : 0 ≤ z ∧ z ≤ 255 := by
      simp [Lit.wf, IntKind.signed, IntKind.bits, IntKind.min, IntKind.max] at hw
      omega
    unfold u8
    simp
    omega
  unfold RB
  rw [e, List.length_map, hl]
  exact hr
end Go.Proofs.YtlnpiigdjjadiaaDoor
