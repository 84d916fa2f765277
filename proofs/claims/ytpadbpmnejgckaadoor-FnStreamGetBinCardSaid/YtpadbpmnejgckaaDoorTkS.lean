/-
  One round of impl.taking: plain lemmas on memory. Conditions: none.
-/
import Derived.Test.YtpadbpmnejgckaaDoorRd
import Derived.Test.YtpadbpmnejgckaaDoorReading
namespace Go.Proofs.YtpadbpmnejgckaaDoor
set_option linter.unusedSimpArgs false
set_option linter.unusedVariables false
set_option linter.unusedVariables false
open Go.RowKit
section
variable {w w1 wr w3 w6 : World} {d s m z : Nat} {ck dep : Int} {V V1 V3 : Value} {bs bs1 b : List UInt8}
theorem RdAny.grown {row : Option Nat} (h : RdAny w d s m z ck dep V bs) (hg : w.grownBy w6 row) (hrow : ∀ g, row = some g → m < g ∧ V.ownBlock ≠ some g) : RdAny w6 d s m z ck dep V bs := by
  obtain ⟨DA, dc, cap, at_, pend, rest, e, hst⟩ := h
  have hm := hst.M.lt
  have h1 := hst.ds
  have h2 := hst.sm
  have hne : ∀ x, x ≤ m → some x ≠ row := fun x hx e => by have := (hrow x e.symm).1; omega
  exact ⟨DA, dc, cap, at_, pend, rest, e, hst.D.grown hg (hne d (by omega)), hst.data.keep (fun b hb => hg.block b (by have := hb.1; omega) (hne b (by have := hb.1; omega))), hst.S.grown hg (hne s (by omega)), hst.M.grown hg (hne m (Nat.le_refl _)), hst.room.keep (fun g hgg => hg.block g (hst.room.lt hgg).2 (fun e => (hrow g e.symm).2 hgg)), hst.ds, hst.sm, hst.z1, hst.z2, hst.dcle, hst.dcm, hst.capm⟩
theorem RdAny.room_lt (h : RdAny w d s m z ck dep V bs) {g : Nat} (hg : V.ownBlock = some g) : m < g ∧ g < w.heap.size := by
  obtain ⟨DA, dc, cap, at_, pend, rest, e, hst⟩ := h
  exact hst.room.lt hg
theorem RdAny.order (h : RdAny w d s m z ck dep V bs) : d < s ∧ s < m ∧ m < w.heap.size := by
  obtain ⟨DA, dc, cap, at_, pend, rest, e, hst⟩ := h
  exact ⟨hst.ds, hst.sm, hst.M.lt⟩
/-- A reading between two appends. -/
theorem tk_step {t : TypeId} {u : Value} {k : Nat} {xs : List Value} (h1 : RdAny w1 d s m z ck dep V1 bs1) (hd : w.heap.size ≤ d) (hw1 : w1.heap.size ≤ wr.heap.size) (hbel : Below w.heap.size w wr) (hown : wr.ownsRow w1.heap.size t 1 u k xs) (hsep : ∀ g, u.ownBlock = some g → V.ownBlock ≠ some g) (hV : RdAny wr d s m z ck dep V bs) (hl : RdLeft d s m z ck dep V b wr w3) :
    ∃ V3, RdAny w3 d s m z ck dep V3 b ∧ w3.ownsRow w1.heap.size t 1 u k xs ∧ Below w.heap.size w w3 ∧ (∀ g, u.ownBlock = some g → V3.ownBlock ≠ some g) ∧ wr.heap.size ≤ w3.heap.size := by
  obtain ⟨V3, h2, h3, h4⟩ := hl
  have ho := h1.order
  have hk : ∀ g, u.ownBlock = some g → ¬ RdK d s V g := by
    intro g hg hK
    have hge := (hown.lt g hg).1
    rcases hK with e | e | e
    · omega
    · omega
    · exact hsep g hg e
  refine ⟨V3, h2, h3.own hown hk, hbel.trans (h3.below hbel.size ?_), ?_, h3.size⟩
  · intro x hx hK
    rcases hK with e | e | e
    · omega
    · omega
    · have := (hV.room_lt e).1
      omega
  · intro g hg e
    rcases h4 with h4 | ⟨g', h4, h5⟩
    · exact hsep g hg (h4.symm.trans e)
    · rw [h4] at e
      injection e with e
      have := (hown.lt g hg).2
      omega
/-- An append between two readings. -/
theorem tk_app {o : Obj} {u v : Value} {t : TypeId} {k : Nat} {xs : List Value} (h1 : RdAny w1 d s m z ck dep V1 bs1) (hd : w.heap.size ≤ d) (hbel : Below w.heap.size w w3) (hown : w3.ownsRow w1.heap.size t 1 u k xs) (hsep : ∀ g, u.ownBlock = some g → V3.ownBlock ≠ some g) (hV : RdAny w3 d s m z ck dep V3 b) (hg : (w3.alloc o).grownBy w6 u.ownBlock) (hat : v.ownBlock = u.ownBlock ∨ v.ownBlock = some (w3.alloc o).heap.size) :
    RdAny w6 d s m z ck dep V3 b ∧ Below w.heap.size w w6 ∧ (∀ g, v.ownBlock = some g → V3.ownBlock ≠ some g) ∧ w3.heap.size ≤ w6.heap.size := by
  have ho := h1.order
  have hV2 : RdAny (w3.alloc o) d s m z ck dep V3 b := hV.below ((Below.refl _ _).alloc (Nat.le_refl _) _)
  have hsz := hg.size
  simp at hsz
  refine ⟨hV2.grown hg (fun g hgg => ⟨by have := (hown.lt g hgg).1; omega, hsep g hgg⟩), (hbel.alloc hbel.size o).grown hg (by have := hbel.size; simp; omega) (fun g hgg => by have := (hown.lt g hgg).1; omega), ?_, by omega⟩
  intro g hgg e
  rcases hat with hat | hat
  · exact hsep g (hat.symm.trans hgg) e
  · rw [hat] at hgg
    injection hgg with hgg
    have := (hV.room_lt e).2
    simp at hgg
    omega
end
end Go.Proofs.YtpadbpmnejgckaaDoor
