/-
  Words for memory that this seat's proofs share: a slice that reads as a list of cells, a block known whole, appends onto a row of the call's own, bytes as cells.
  Turned out of the kit's pages of words to copy (howto/extra-words.md); conditions: none.
-/
import Derived.Below
import Derived.Laws.OwnMore
import Derived.Deep.AppendLies
import Derived.Deep.Draws
import Derived.Laws.Rows
import Derived.Maps.AppendAt
import Derived.RegionTactic
import Derived.OwnWalk
import Derived.Laws.CopyOwn
import Derived.WalkKit
import Derived.WalkSpells
import Derived.WalkLawsBesides
namespace Go.Proofs.Ytlnpiigdjjadiaa
set_option linter.unusedSimpArgs false
set_option linter.unusedVariables false
open Go.RowKit
theorem hide {p : Prop} (h : p) : Hid p := h
theorem unhide {p : Prop} (h : Hid p) : p := h

theorem block_of_add (a : Addr) (n : Nat) : (a.add n).block = a.block := by unfold Addr.add; split <;> rfl
theorem add_of_add (a : Addr) (i j : Nat) : (a.add i).add j = a.add (i + j) := by
  unfold Addr.add
  by_cases hi : i = 0 <;> by_cases hj : j = 0 <;> simp [hi, hj, Nat.add_assoc]
theorem add_zero_ (a : Addr) : a.add 0 = a := rfl

/-- The slice value '.slice A n c' holds the cells xs ('size' cells an element), in a block that S takes. -/
def Reads (w : World) (S : Nat → Prop) (size : Nat) (A : Option Addr) (n : Nat) (xs : List Value) : Prop :=
  xs.length = n * size ∧ (0 < n → ∃ ad, A = some ad ∧ S ad.block ∧ ∀ j u, xs[j]? = some u → w.cell? (ad.add j) = some u)
/-- All blocks below B. -/
def Lt (B : Nat) : Nat → Prop := fun b => b < B
/-- What S takes reads in w' as in w. -/
def Stays (S : Nat → Prop) (w w' : World) : Prop := ∀ b, S b → w'.heap[b]? = w.heap[b]?
theorem Stays.refl (S : Nat → Prop) (w : World) : Stays S w w := fun _ _ => rfl
theorem Stays.trans {S : Nat → Prop} {a b c : World} (h : Stays S a b) (k : Stays S b c) : Stays S a c := fun x hx => (k x hx).trans (h x hx)
theorem Stays.of_below {B : Nat} {w w' : World} (h : Below B w w') : Stays (Lt B) w w' := fun b hb => h.block b hb
theorem Stays.sub {S T : Nat → Prop} {w w' : World} (h : Stays T w w') (hs : ∀ b, S b → T b) : Stays S w w' := fun b hb => h b (hs b hb)

/-- All blocks that S takes lie in w. -/
def Old (w : World) (S : Nat → Prop) : Prop := ∀ b, S b → b < w.heap.size
theorem Old.lt (w : World) : Old w (Lt w.heap.size) := fun _ h => h
theorem old_drew (w : World) (S : Nat → Prop) : Old w.drew S = Old w S := propext ⟨fun h => h, fun h => h⟩
theorem old_drewN (w : World) (S : Nat → Prop) (n : Nat) : Old (w.drewN n) S = Old w S := propext ⟨fun h => h, fun h => h⟩
theorem old_alloc {w : World} {S : Nat → Prop} (h : Old w S) (o : Obj) : Old (w.alloc o) S := fun b hb => by have := h b hb; simp; omega
theorem old_setCell (w : World) (S : Nat → Prop) (p : Addr) (v : Value) : Old (w.setCell p v) S = Old w S := by unfold Old; simp [World.setCell]
theorem old_below {B : Nat} {w w' : World} {S : Nat → Prop} (hb : Below B w w') (h : Old w S) : Old w' S := fun b hS => Nat.lt_of_lt_of_le (h b hS) hb.size
theorem stays_drew (S : Nat → Prop) (w W : World) : Stays S w W.drew = Stays S w W := propext ⟨fun h => h, fun h => h⟩
theorem stays_drewN (S : Nat → Prop) (w W : World) (n : Nat) : Stays S w (W.drewN n) = Stays S w W := propext ⟨fun h => h, fun h => h⟩
theorem stays_alloc {S : Nat → Prop} {w W : World} (ho : Old W S) (h : Stays S w W) (o : Obj) : Stays S w (W.alloc o) := fun b hb => (Below.heap_alloc W o b (ho b hb)).trans (h b hb)
theorem stays_setCell {S : Nat → Prop} {w W : World} {p : Addr} (hp : ¬ S p.block) (h : Stays S w W) (v : Value) : Stays S w (W.setCell p v) :=
  fun b hb => (Below.heap_setCell W p v b (fun e => hp (e ▸ hb))).trans (h b hb)
theorem stays_below {S : Nat → Prop} {w W W' : World} (h : Stays S w W) (hb : Below W.heap.size W W') (ho : Old W S) : Stays S w W' := h.trans fun b hS => hb.block b (ho b hS)
theorem stays_alloc2 {S : Nat → Prop} {w W : World} (ho : Old W S) (h : Stays S w W) (o0 o1 : Obj) : Stays S w ((W.alloc o0).alloc o1) := (stays_alloc (old_alloc ho o0) (stays_alloc ho h o0) o1)
theorem old_alloc2 {W : World} {S : Nat → Prop} (ho : Old W S) (o0 o1 : Obj) : Old ((W.alloc o0).alloc o1) S := (old_alloc (old_alloc ho o0) o1)
theorem stays_alloc3 {S : Nat → Prop} {w W : World} (ho : Old W S) (h : Stays S w W) (o0 o1 o2 : Obj) : Stays S w (((W.alloc o0).alloc o1).alloc o2) := (stays_alloc (old_alloc (old_alloc ho o0) o1) (stays_alloc (old_alloc ho o0) (stays_alloc ho h o0) o1) o2)
theorem old_alloc3 {W : World} {S : Nat → Prop} (ho : Old W S) (o0 o1 o2 : Obj) : Old (((W.alloc o0).alloc o1).alloc o2) S := (old_alloc (old_alloc (old_alloc ho o0) o1) o2)
theorem stays_alloc4 {S : Nat → Prop} {w W : World} (ho : Old W S) (h : Stays S w W) (o0 o1 o2 o3 : Obj) : Stays S w ((((W.alloc o0).alloc o1).alloc o2).alloc o3) := (stays_alloc (old_alloc (old_alloc (old_alloc ho o0) o1) o2) (stays_alloc (old_alloc (old_alloc ho o0) o1) (stays_alloc (old_alloc ho o0) (stays_alloc ho h o0) o1) o2) o3)
theorem old_alloc4 {W : World} {S : Nat → Prop} (ho : Old W S) (o0 o1 o2 o3 : Obj) : Old ((((W.alloc o0).alloc o1).alloc o2).alloc o3) S := (old_alloc (old_alloc (old_alloc (old_alloc ho o0) o1) o2) o3)
theorem stays_alloc5 {S : Nat → Prop} {w W : World} (ho : Old W S) (h : Stays S w W) (o0 o1 o2 o3 o4 : Obj) : Stays S w (((((W.alloc o0).alloc o1).alloc o2).alloc o3).alloc o4) := (stays_alloc (old_alloc (old_alloc (old_alloc (old_alloc ho o0) o1) o2) o3) (stays_alloc (old_alloc (old_alloc (old_alloc ho o0) o1) o2) (stays_alloc (old_alloc (old_alloc ho o0) o1) (stays_alloc (old_alloc ho o0) (stays_alloc ho h o0) o1) o2) o3) o4)
theorem old_alloc5 {W : World} {S : Nat → Prop} (ho : Old W S) (o0 o1 o2 o3 o4 : Obj) : Old (((((W.alloc o0).alloc o1).alloc o2).alloc o3).alloc o4) S := (old_alloc (old_alloc (old_alloc (old_alloc (old_alloc ho o0) o1) o2) o3) o4)
theorem stays_alloc6 {S : Nat → Prop} {w W : World} (ho : Old W S) (h : Stays S w W) (o0 o1 o2 o3 o4 o5 : Obj) : Stays S w ((((((W.alloc o0).alloc o1).alloc o2).alloc o3).alloc o4).alloc o5) := (stays_alloc (old_alloc (old_alloc (old_alloc (old_alloc (old_alloc ho o0) o1) o2) o3) o4) (stays_alloc (old_alloc (old_alloc (old_alloc (old_alloc ho o0) o1) o2) o3) (stays_alloc (old_alloc (old_alloc (old_alloc ho o0) o1) o2) (stays_alloc (old_alloc (old_alloc ho o0) o1) (stays_alloc (old_alloc ho o0) (stays_alloc ho h o0) o1) o2) o3) o4) o5)
theorem old_alloc6 {W : World} {S : Nat → Prop} (ho : Old W S) (o0 o1 o2 o3 o4 o5 : Obj) : Old ((((((W.alloc o0).alloc o1).alloc o2).alloc o3).alloc o4).alloc o5) S := (old_alloc (old_alloc (old_alloc (old_alloc (old_alloc (old_alloc ho o0) o1) o2) o3) o4) o5)
theorem stays_alloc7 {S : Nat → Prop} {w W : World} (ho : Old W S) (h : Stays S w W) (o0 o1 o2 o3 o4 o5 o6 : Obj) : Stays S w (((((((W.alloc o0).alloc o1).alloc o2).alloc o3).alloc o4).alloc o5).alloc o6) := (stays_alloc (old_alloc (old_alloc (old_alloc (old_alloc (old_alloc (old_alloc ho o0) o1) o2) o3) o4) o5) (stays_alloc (old_alloc (old_alloc (old_alloc (old_alloc (old_alloc ho o0) o1) o2) o3) o4) (stays_alloc (old_alloc (old_alloc (old_alloc (old_alloc ho o0) o1) o2) o3) (stays_alloc (old_alloc (old_alloc (old_alloc ho o0) o1) o2) (stays_alloc (old_alloc (old_alloc ho o0) o1) (stays_alloc (old_alloc ho o0) (stays_alloc ho h o0) o1) o2) o3) o4) o5) o6)
theorem old_alloc7 {W : World} {S : Nat → Prop} (ho : Old W S) (o0 o1 o2 o3 o4 o5 o6 : Obj) : Old (((((((W.alloc o0).alloc o1).alloc o2).alloc o3).alloc o4).alloc o5).alloc o6) S := (old_alloc (old_alloc (old_alloc (old_alloc (old_alloc (old_alloc (old_alloc ho o0) o1) o2) o3) o4) o5) o6)
theorem stays_alloc8 {S : Nat → Prop} {w W : World} (ho : Old W S) (h : Stays S w W) (o0 o1 o2 o3 o4 o5 o6 o7 : Obj) : Stays S w ((((((((W.alloc o0).alloc o1).alloc o2).alloc o3).alloc o4).alloc o5).alloc o6).alloc o7) := (stays_alloc (old_alloc (old_alloc (old_alloc (old_alloc (old_alloc (old_alloc (old_alloc ho o0) o1) o2) o3) o4) o5) o6) (stays_alloc (old_alloc (old_alloc (old_alloc (old_alloc (old_alloc (old_alloc ho o0) o1) o2) o3) o4) o5) (stays_alloc (old_alloc (old_alloc (old_alloc (old_alloc (old_alloc ho o0) o1) o2) o3) o4) (stays_alloc (old_alloc (old_alloc (old_alloc (old_alloc ho o0) o1) o2) o3) (stays_alloc (old_alloc (old_alloc (old_alloc ho o0) o1) o2) (stays_alloc (old_alloc (old_alloc ho o0) o1) (stays_alloc (old_alloc ho o0) (stays_alloc ho h o0) o1) o2) o3) o4) o5) o6) o7)
theorem old_alloc8 {W : World} {S : Nat → Prop} (ho : Old W S) (o0 o1 o2 o3 o4 o5 o6 o7 : Obj) : Old ((((((((W.alloc o0).alloc o1).alloc o2).alloc o3).alloc o4).alloc o5).alloc o6).alloc o7) S := (old_alloc (old_alloc (old_alloc (old_alloc (old_alloc (old_alloc (old_alloc (old_alloc ho o0) o1) o2) o3) o4) o5) o6) o7)
attribute [go_sem] old_drew old_drewN old_alloc old_setCell stays_drew stays_drewN stays_alloc stays_setCell Stays.refl stays_alloc2 old_alloc2 stays_alloc3 old_alloc3 stays_alloc4 old_alloc4 stays_alloc5 old_alloc5 stays_alloc6 old_alloc6 stays_alloc7 old_alloc7 stays_alloc8 old_alloc8

theorem bcell {W w1 : World} (hb : Below W.heap.size W w1) : (∀ b o, b < W.heap.size → w1.cell? ⟨b, o, none⟩ = W.cell? ⟨b, o, none⟩) ∧ (∀ b o, b < W.heap.size → w1.frozen? ⟨b, o, none⟩ = W.frozen? ⟨b, o, none⟩) :=
  ⟨fun b o h => hb.cell (p := ⟨b, o, none⟩) h, fun b o h => hb.frozen (p := ⟨b, o, none⟩) h⟩

/-- The address of s[l:], of a slice whose capacity is m. -/
def cutA (a : Option Addr) (m l s : Nat) : Option Addr := if m = l then a else a.map (·.add (l * s))
theorem cutA_zero (a : Option Addr) (m s : Nat) : cutA a m 0 s = a := by
  unfold cutA
  split
  · rfl
  · cases a <;> simp [add_zero_]
theorem sliced_cut (a : Option Addr) (l h m s : Nat) : sliced a l h m s = .slice (cutA a m l s) (h - l) (m - l) := rfl
attribute [go_sem ↓] sliced_cut
attribute [go_sem] cutA_zero

section
variable {w w' : World} {S T : Nat → Prop} {size n : Nat} {A : Option Addr} {xs : List Value}
theorem Reads.none_ : Reads w S size A 0 [] := ⟨by simp, fun h => absurd h (by omega)⟩
theorem Reads.len_ (h : Reads w S size A n xs) : xs.length = n * size := h.1
theorem Reads.at_ {k : Nat} (h : Reads w S 1 A n xs) (hk : k < n) : ∃ ad u, A = some ad ∧ S ad.block ∧ xs[k]? = some u ∧ w.cell? (ad.add k) = some u := by
  obtain ⟨ad, e, hb, hc⟩ := h.2 (by omega)
  have hl : k < xs.length := by have := h.1; omega
  exact ⟨ad, xs[k], e, hb, List.getElem?_eq_getElem hl, hc k _ (List.getElem?_eq_getElem hl)⟩
theorem Reads.keep (h : Reads w S size A n xs) (hk : Stays S w w') : Reads w' S size A n xs :=
  ⟨h.1, fun hn => by
    obtain ⟨ad, e, hb, hc⟩ := h.2 hn
    exact ⟨ad, e, hb, fun j u hu => (World.cell?_of_block (hk _ (by rw [block_of_add]; exact hb))).trans (hc j u hu)⟩⟩
theorem Reads.sub (h : Reads w S size A n xs) (hs : ∀ b, S b → T b) : Reads w T size A n xs :=
  ⟨h.1, fun hn => by
    obtain ⟨ad, e, hb, hc⟩ := h.2 hn
    exact ⟨ad, e, hs _ hb, hc⟩⟩
theorem Reads.below {B : Nat} (h : Reads w (Lt B) size A n xs) (hb : Below B w w') : Reads w' (Lt B) size A n xs := h.keep (Stays.of_below hb)
theorem Reads.take (h : Reads w S size A n xs) {k : Nat} (hk : k ≤ n) : Reads w S size A k (xs.take (k * size)) := by
  refine ⟨by rw [List.length_take, h.1]; exact Nat.min_eq_left (Nat.mul_le_mul_right _ hk), fun hn => ?_⟩
  obtain ⟨ad, rfl, hb, hcell⟩ := h.2 (by omega)
  refine ⟨ad, rfl, hb, fun j u hu => hcell j u ?_⟩
  rw [List.getElem?_take] at hu
  split at hu
  · exact hu
  · cases hu
theorem Reads.cut (h : Reads w S size A n xs) {k cap : Nat} (hk : k ≤ n) (hc : n ≤ cap) : Reads w S size (cutA A cap k size) (n - k) (xs.drop (k * size)) := by
  refine ⟨by rw [List.length_drop, h.1, Nat.sub_mul], fun hn => ?_⟩
  obtain ⟨ad, rfl, hb, hcell⟩ := h.2 (by omega)
  unfold cutA
  rw [if_neg (by omega)]
  refine ⟨ad.add (k * size), rfl, by rw [block_of_add]; exact hb, fun j u hu => ?_⟩
  rw [add_of_add]
  exact hcell _ u (by rw [← hu, List.getElem?_drop])
theorem Reads.of_own {base : Nat} {e : TypeId} {c : Nat} (h : w.ownsRow base e size (.slice A n c) n xs) : Reads w (fun b => base ≤ b ∧ b < w.heap.size ∧ (Value.slice A n c).ownBlock = some b) size A n xs := by
  refine ⟨h.1, fun hn => ?_⟩
  obtain ⟨g, cap, hv, hb, hlt⟩ := h.form hn
  have hA : A = some ⟨g, 0, none⟩ := by injection hv
  subst hA
  exact ⟨_, rfl, ⟨hb, hlt, rfl⟩, h.cells (g := g) rfl⟩
theorem Reads.append {ys : List Value} {m : Nat} (_h : Reads w S size A n xs) (hl : ys.length = m * size) (hlen : xs.length = n * size) : (xs ++ ys).length = (n + m) * size := by
  rw [List.length_append, hlen, hl, Nat.add_mul]
end

/-- Block g is just the cells cs of element type t, none frozen. -/
def Blk (w : World) (g : Nat) (t : TypeId) (cs : Array Value) : Prop := w.heap[g]? = some (.cells cs t (0, 0))

section
variable {w w' : World} {g : Nat} {t : TypeId} {cs : Array Value}
theorem Blk.lt (h : Blk w g t cs) : g < w.heap.size := by
  rcases Nat.lt_or_ge g w.heap.size with hlt | hge
  · exact hlt
  · unfold Blk at h; rw [Array.getElem?_eq_none hge] at h; cases h
theorem Blk.cell (h : Blk w g t cs) (i : Nat) : w.cell? ⟨g, i, none⟩ = cs[i]? := cell_of_row w g i cs t (0, 0) h
theorem Blk.frozen (h : Blk w g t cs) (i : Nat) : w.frozen? ⟨g, i, none⟩ = false := by
  unfold Blk at h
  simp [World.frozen?, h]
theorem Blk.new (w : World) (t : TypeId) (cs : Array Value) : Blk (w.alloc (.cells cs t)) w.heap.size t cs := heap_alloc_new w _
theorem Blk.drew (h : Blk w g t cs) : Blk w.drew g t cs := h
theorem Blk.drewN (h : Blk w g t cs) (n : Nat) : Blk (w.drewN n) g t cs := h
theorem Blk.alloc (h : Blk w g t cs) (o : Obj) : Blk (w.alloc o) g t cs := (Below.heap_alloc w o g h.lt).trans h
theorem Blk.set_ (h : Blk w g t cs) (i : Nat) (u : Value) : Blk (w.setCell ⟨g, i, none⟩ u) g t (cs.setIfInBounds i u) := by
  unfold Blk at h ⊢
  simp [World.setCell, Array.getElem?_modify, h]
theorem Blk.far (h : Blk w g t cs) {p : Addr} (hp : g ≠ p.block) (u : Value) : Blk (w.setCell p u) g t cs := (Below.heap_setCell w p u g hp).trans h
theorem Blk.below {B : Nat} (h : Blk w g t cs) (hb : Below B w w') (hg : g < B) : Blk w' g t cs := (hb.block g hg).trans h
theorem Blk.grown {row : Option Nat} (h : Blk w g t cs) (hb : w.grownBy w' row) (hg : some g ≠ row) : Blk w' g t cs := (hb.block g h.lt hg).trans h
theorem Blk.ne_ {g' : Nat} {t' : TypeId} {cs' : Array Value} (h : Blk w g t cs) (h' : Blk w g' t' cs') (hne : t ≠ t') : g ≠ g' := by
  rintro rfl
  unfold Blk at h h'
  rw [h] at h'
  injection h' with h'
  injection h' with _ ht
  exact hne ht
end

theorem five_cells {w : World} {g : Nat} {t : TypeId} {c0 c1 c2 c3 c4 : Value} (h : Blk w g t #[c0, c1, c2, c3, c4]) :
    (w.cell? ⟨g, 0, none⟩ = some c0 ∧ w.cell? ⟨g, 1, none⟩ = some c1 ∧ w.cell? ⟨g, 2, none⟩ = some c2 ∧ w.cell? ⟨g, 3, none⟩ = some c3 ∧ w.cell? ⟨g, 4, none⟩ = some c4) ∧
    (w.frozen? ⟨g, 0, none⟩ = false ∧ w.frozen? ⟨g, 1, none⟩ = false ∧ w.frozen? ⟨g, 2, none⟩ = false ∧ w.frozen? ⟨g, 3, none⟩ = false ∧ w.frozen? ⟨g, 4, none⟩ = false) :=
  ⟨⟨h.cell 0, h.cell 1, h.cell 2, h.cell 3, h.cell 4⟩, ⟨h.frozen 0, h.frozen 1, h.frozen 2, h.frozen 3, h.frozen 4⟩⟩
theorem five_at {w : World} {a : Addr} {c0 c1 c2 c3 c4 : Value} (h : ∀ j u, [c0, c1, c2, c3, c4][j]? = some u → w.cell? (a.add j) = some u) :
    w.cell? a = some c0 ∧ w.cell? ⟨a.block, a.off + 1, none⟩ = some c1 ∧ w.cell? ⟨a.block, a.off + 2, none⟩ = some c2 ∧ w.cell? ⟨a.block, a.off + 3, none⟩ = some c3 ∧ w.cell? ⟨a.block, a.off + 4, none⟩ = some c4 :=
  ⟨h 0 c0 rfl, h 1 c1 rfl, h 2 c2 rfl, h 3 c3 rfl, h 4 c4 rfl⟩
theorem below_set5 {B g : Nat} {w w2 : World} (h : Below B w w2) (hg : B ≤ g) (c0 c1 c2 c3 c4 : Value) :
    Below B w (((((w2.setCell ⟨g, 0, none⟩ c0).setCell ⟨g, 1, none⟩ c1).setCell ⟨g, 2, none⟩ c2).setCell ⟨g, 3, none⟩ c3).setCell ⟨g, 4, none⟩ c4) :=
  ((((h.setCell hg _).setCell hg _).setCell hg _).setCell hg _).setCell hg _
theorem stays_set5 {S : Nat → Prop} {w w2 : World} {g : Nat} (h : Stays S w w2) (hg : ¬ S g) (c0 c1 c2 c3 c4 : Value) :
    Stays S w (((((w2.setCell ⟨g, 0, none⟩ c0).setCell ⟨g, 1, none⟩ c1).setCell ⟨g, 2, none⟩ c2).setCell ⟨g, 3, none⟩ c3).setCell ⟨g, 4, none⟩ c4) :=
  stays_setCell hg (stays_setCell hg (stays_setCell hg (stays_setCell hg (stays_setCell hg h _) _) _) _) _

theorem only_of_below {a w : World} (h : Below a.heap.size a w) (row : Option Nat) : a.grownBy w row := ⟨h.os, h.tape, h.output, h.size, fun i hi _ => h.block i hi⟩
theorem own_below {w w1 : World} {base : Nat} {e : TypeId} {size : Nat} {v : Value} {n : Nat} {xs : List Value} (h : w.ownsRow base e size v n xs) (hb : Below w.heap.size w w1) : w1.ownsRow base e size v n xs :=
  h.kept (only_of_below hb none) (by cases hv : v.ownBlock <;> simp)

theorem own_slice {w : World} {base : Nat} {e : TypeId} {size : Nat} {v : Value} {n : Nat} {xs : List Value} (h : w.ownsRow base e size v n xs) :
    ∃ A c, v = .slice A n c ∧ n ≤ c ∧ c ≤ maxLen ∧ Reads w (fun b => base ≤ b ∧ b < w.heap.size) size A n xs := by
  rcases h.2 with ⟨rfl, rfl⟩ | ⟨g, cap, cur, rfl, hb, hg, hnc, hcm, hcs, ht⟩
  · exact ⟨none, 0, rfl, Nat.le_refl _, Nat.zero_le _, h.1, fun hn => absurd hn (by omega)⟩
  · exact ⟨some ⟨g, 0, none⟩, cap, rfl, hnc, hcm, (Reads.of_own h).sub fun b hb => ⟨hb.1, hb.2.1⟩⟩

/-- Nothing has turned but a count of draws. -/
def Quiet (w w' : World) : Prop := ∃ n, w' = w.drewN n
theorem Quiet.refl (w : World) : Quiet w w := ⟨0, rfl⟩
theorem Quiet.drewN (w : World) (n : Nat) : Quiet w (w.drewN n) := ⟨n, rfl⟩
theorem Quiet.drew (w : World) : Quiet w w.drew := ⟨1, rfl⟩
theorem Quiet.trans {a b c : World} (h : Quiet a b) (k : Quiet b c) : Quiet a c := by
  obtain ⟨n, rfl⟩ := h
  obtain ⟨m, rfl⟩ := k
  exact ⟨n + m, by rw [World.drewN_drewN]⟩
theorem Quiet.heap {w w' : World} (h : Quiet w w') : w'.heap = w.heap := by
  obtain ⟨n, rfl⟩ := h
  rfl
theorem Quiet.size {w w' : World} (h : Quiet w w') : w'.heap.size = w.heap.size := by rw [h.heap]
theorem Quiet.below {B : Nat} {a w w' : World} (h : Quiet w w') (hb : Below B a w) : Below B a w' := by
  obtain ⟨n, rfl⟩ := h
  exact below_drewN hb n
theorem Quiet.blk {w w' : World} (h : Quiet w w') {g : Nat} {t : TypeId} {cs : Array Value} (hb : Blk w g t cs) : Blk w' g t cs := by
  obtain ⟨n, rfl⟩ := h
  exact hb
theorem Quiet.stays {S : Nat → Prop} {a w w' : World} (h : Quiet w w') (hs : Stays S a w) : Stays S a w' := by
  obtain ⟨n, rfl⟩ := h
  exact hs
theorem Quiet.old {S : Nat → Prop} {w w' : World} (h : Quiet w w') (hs : Old w S) : Old w' S := by
  obtain ⟨n, rfl⟩ := h
  exact hs

/-- A byte as a cell. -/
def u8 (b : UInt8) : Value := .int .u8 (b.toNat : Int)
theorem u8_def (b : UInt8) : u8 b = .int .u8 (b.toNat : Int) := rfl
theorem u8_one (bs : List UInt8) : ∀ u ∈ bs.map u8, u.oneCell' = true := by
  intro u hu
  obtain ⟨b, _, rfl⟩ := List.mem_map.1 hu
  rfl
/-- A byte slice that reads as bs, in a block that S takes. -/
def RB (w : World) (S : Nat → Prop) (A : Option Addr) (bs : List UInt8) : Prop := Reads w S 1 A bs.length (bs.map u8)
section
variable {w w' : World} {S T : Nat → Prop} {A : Option Addr} {bs : List UInt8}
theorem RB.none_ : RB w S A [] := Reads.none_
theorem RB.keep (h : RB w S A bs) (hb : Stays S w w') : RB w' S A bs := Reads.keep h hb
theorem RB.sub (h : RB w S A bs) (hs : ∀ b, S b → T b) : RB w T A bs := Reads.sub h hs
theorem RB.below {B : Nat} (h : RB w (Lt B) A bs) (hb : Below B w w') : RB w' (Lt B) A bs := Reads.below h hb
theorem RB.more {B B' : Nat} (h : RB w (Lt B) A bs) (hB : B ≤ B') : RB w (Lt B') A bs := Reads.sub h fun _ hb => Nat.lt_of_lt_of_le hb hB
theorem RB.take (h : RB w S A bs) {k : Nat} (hk : k ≤ bs.length) : RB w S A (bs.take k) := by
  have := Reads.take h hk
  unfold RB
  simpa [List.map_take, Nat.min_eq_left hk] using this
theorem RB.cut (h : RB w S A bs) {k cap : Nat} (hk : k ≤ bs.length) (hc : bs.length ≤ cap) : RB w S (cutA A cap k 1) (bs.drop k) := by
  have := Reads.cut h hk hc
  unfold RB
  simpa [List.map_drop] using this
theorem RB.at_ (h : RB w S A bs) {k : Nat} (hk : k < bs.length) : ∃ ad, A = some ad ∧ S ad.block ∧ w.cell? (ad.add k) = some (u8 bs[k]) := by
  obtain ⟨ad, u, e, hb, hu, hc⟩ := Reads.at_ h hk
  refine ⟨ad, e, hb, ?_⟩
  rw [hc]
  simp [hk] at hu
  rw [← hu]
theorem RB.all_ (h : RB w S A bs) (hn : 0 < bs.length) : ∃ ad, A = some ad ∧ S ad.block ∧ ∀ k (hk : k < bs.length), w.cell? (ad.add k) = some (u8 bs[k]) := by
  obtain ⟨ad, e, hb, hc⟩ := h.2 (by simpa using hn)
  refine ⟨ad, e, hb, fun k hk => hc k _ (by simp [hk])⟩

theorem fold_push (bs : List UInt8) : ∀ s : ByteArray, (bs.map fun b => (b.toNat : Int)).foldl (fun r n => r.push (UInt8.ofNat n.toNat)) s = ⟨s.data ++ bs.toArray⟩ := by
  induction bs with
  | nil => intro s; cases s; simp
  | cons b bs ih =>
    intro s
    rw [List.map_cons, List.foldl_cons, ih]
    cases s
    simp [ByteArray.push]
/-- '[]byte' turned to a string: the bytes. -/
theorem run_string_of_bytes {P : Program} (src dst e : TypeId) (hs : P.underlying src = some (.slice e)) (he : P.underlying e = some (.int .u8)) (hd : P.underlying dst = some .string)
    (h : RB w S A bs) (c : Nat) : (convert src dst (.slice A bs.length c)).run P w = .ok (.string ⟨bs.toArray⟩) w := by
  rw [run_convert_bytes_string w src dst e A bs.length c hs he hd]
  rcases A with _ | ad
  · have hn : bs = [] := by
      rcases bs with _ | ⟨b, bs⟩
      · rfl
      · obtain ⟨ad, h, _⟩ := h.2 (by simp)
        cases h
    subst hn
    simp [Conv.bytesToString, Sem.run_pure]
    rfl
  · have hc : ∀ j u, (bs.map u8)[j]? = some u → w.cell? (ad.add j) = some u := by
      intro j u hu
      have hj : j < bs.length := by
        rcases Nat.lt_or_ge j bs.length with h | h
        · exact h
        · rw [List.getElem?_eq_none (by simpa using h)] at hu
          cases hu
      obtain ⟨ad', h1, _, h2⟩ := h.2 (by omega)
      injection h1 with h1
      subst h1
      exact h2 j u hu
    have hl := run_loadCells_list (P := P) w ad (bs.map u8) hc
    rw [List.length_map] at hl
    have hm : bs.map u8 = (bs.map fun b => (b.toNat : Int)).map (Value.int .u8) := by simp [u8]
    rw [hm] at hl
    rw [run_bytesToString w ad bs.length c _ hl, fold_push]
    simp
end
end Go.Proofs.Ytlnpiigdjjadiaa
