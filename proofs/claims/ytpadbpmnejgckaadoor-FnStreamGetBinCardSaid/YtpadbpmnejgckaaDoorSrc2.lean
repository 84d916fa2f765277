/-
  A msgp.Reader: what each step on its source leaves. Plain lemmas on memory. Conditions: none.
-/
import Derived.Test.YtpadbpmnejgckaaDoorSrcW
import Derived.Laws.MakeOwn
namespace Go.Proofs.YtpadbpmnejgckaaDoor
set_option linter.unusedSimpArgs false
set_option linter.unusedVariables false
set_option linter.unusedVariables false
open Go.RowKit
section
variable {w w' : World} {d s m z : Nat} {ck dep : Int} {DA DA' : Option Addr} {dc dc' : Nat} {V V' : Value} {cap cap' at_ at' : Nat} {pend pend' rest rest' : List UInt8}
theorem RdSt.notM (h : RdSt w d s m z ck dep DA dc V cap at_ pend rest) : ¬ RdK d s V m := by
  have h1 := h.ds
  have h2 := h.sm
  rintro (rfl | rfl | e)
  · omega
  · omega
  · have := (h.room.lt e).1
    omega
theorem RdSt.next (h : RdSt w d s m z ck dep DA dc V cap at_ pend rest) (hk : Keeps (RdK d s V) w w') (hD : Blk w' d 197 #[.slice DA' rest'.length dc', .int .i64 ck]) (hdata : RB w' (fun b => b < m ∧ b ≠ d ∧ b ≠ s) DA' rest')
    (hS : Blk w' s 234 #[.iface 195 (.pointer (some ⟨d, 0, none⟩)), V', .int .i64 at', .int .i64 z, .nilIface]) (hroom : RoomIs w' m V' cap' at' pend') (hdc : rest'.length ≤ dc') (hdm : dc' ≤ maxLen) (hcap : cap' ≤ 1000000) : RdSt w' d s m z ck dep DA' dc' V' cap' at' pend' rest' :=
  ⟨hD, hdata, hS, hk.blk h.M h.notM, hroom, h.ds, h.sm, h.z1, h.z2, hdc, hdm, hcap⟩
theorem RdSt.dataK (h : RdSt w d s m z ck dep DA dc V cap at_ pend rest) (hk : Keeps (RdK d s V) w w') : RB w' (fun b => b < m ∧ b ≠ d ∧ b ≠ s) DA rest :=
  RB.keep h.data fun b hb => hk.2 b (Nat.lt_trans hb.1 h.M.lt) (by
    rintro (e | e | e)
    · exact hb.2.1 e
    · exact hb.2.2 e
    · have := (h.room.lt e).1
      have := hb.1
      omega)
/-- Only the source's own cells have turned (not its first, fourth, fifth). -/
theorem RdSt.turned (h : RdSt w d s m z ck dep DA dc V cap at_ pend rest) (hk : Keeps (fun b => b = s ∨ V.ownBlock = some b) w w')
    (hS : Blk w' s 234 #[.iface 195 (.pointer (some ⟨d, 0, none⟩)), V', .int .i64 at', .int .i64 z, .nilIface]) (hroom : RoomIs w' m V' cap' at' pend') (hcap : cap' ≤ 1000000) : RdSt w' d s m z ck dep DA dc V' cap' at' pend' rest := by
  have h1 := h.ds
  have hk2 : Keeps (RdK d s V) w w' := hk.weak fun x _ hx => hx.elim (fun e => .inr (.inl e)) (fun e => .inr (.inr e))
  have hD := hk.blk h.D (by
    rintro (e | e)
    · omega
    · have := (h.room.lt e).1
      have := h.sm
      omega)
  exact h.next hk2 hD (h.dataK hk2) hS hroom h.dcle h.dcm hcap
theorem RdSt.quiet (h : RdSt w d s m z ck dep DA dc V cap at_ pend rest) : RdSt w.drew d s m z ck dep DA dc V cap at_ pend rest := ⟨h.D, h.data, h.S, h.M, h.room, h.ds, h.sm, h.z1, h.z2, h.dcle, h.dcm, h.capm⟩
theorem RoomIs.far (h : RoomIs w m V cap at_ pend) {p : Addr} (hp : V.ownBlock ≠ some p.block) (u : Value) : RoomIs (w.setCell p u) m V cap at_ pend := h.keep fun g hg => Below.heap_setCell w p u g (fun e => hp (by rw [← e]; exact hg))
/-- The room's own bytes have been moved to its head (a row). -/
theorem RdSt.headed {g : Nat} {w2 : World} (h : RdSt w d s m z ck dep DA dc V cap at_ pend rest) (hV : V = .slice (some ⟨g, 0, none⟩) (at_ + pend.length) cap) (hr : Row w2 5 g cap (pend.map u8)) (hk : Keeps (fun b => b = g) w.drew w2) :
    RdSt ((w2.setCell ⟨s, 1, none⟩ (.slice (some ⟨g, 0, none⟩) pend.length cap)).setCell ⟨s, 2, none⟩ (.int .i64 0)) d s m z ck dep DA dc (.slice (some ⟨g, 0, none⟩) pend.length cap) cap 0 pend rest ∧
    Keeps (RdK d s V) w ((w2.setCell ⟨s, 1, none⟩ (.slice (some ⟨g, 0, none⟩) pend.length cap)).setCell ⟨s, 2, none⟩ (.int .i64 0)) := by
  subst hV
  have hg := h.room.lt (g := g) rfl
  have hsg : g ≠ s := by have := h.sm; omega
  have hS2 := (hk.blk (a := w.drew) h.S (fun e => hsg e.symm)).set_ 1 (.slice (some ⟨g, 0, none⟩) pend.length cap)
  have hS3 := hS2.set_ 2 (.int .i64 0)
  have hr3 : Row ((w2.setCell ⟨s, 1, none⟩ (.slice (some ⟨g, 0, none⟩) pend.length cap)).setCell ⟨s, 2, none⟩ (.int .i64 0)) 5 g cap (([] ++ pend).map u8) :=
    Row.keep (Row.keep hr (Below.heap_setCell _ _ _ g hsg)) (Below.heap_setCell _ _ _ g hsg)
  have hk0 : Keeps (fun b => b = s ∨ (Value.slice (some ⟨g, 0, none⟩) (at_ + pend.length) cap).ownBlock = some b) w.drew ((w2.setCell ⟨s, 1, none⟩ (.slice (some ⟨g, 0, none⟩) pend.length cap)).setCell ⟨s, 2, none⟩ (.int .i64 0)) :=
    Keeps.setCell (Keeps.setCell (hk.weak (L := fun b => b = s ∨ (Value.slice (some ⟨g, 0, none⟩) (at_ + pend.length) cap).ownBlock = some b) (fun x _ e => .inr (by rw [e]; rfl))) ⟨s, 1, none⟩ (.inl rfl) _) ⟨s, 2, none⟩ (.inl rfl) _
  have hk1 : Keeps (fun b => b = s ∨ (Value.slice (some ⟨g, 0, none⟩) (at_ + pend.length) cap).ownBlock = some b) w ((w2.setCell ⟨s, 1, none⟩ (.slice (some ⟨g, 0, none⟩) pend.length cap)).setCell ⟨s, 2, none⟩ (.int .i64 0)) := ⟨⟨hk0.1.os, hk0.1.tape, hk0.1.output, hk0.1.size, hk0.1.block⟩, hk0.2⟩
  refine ⟨h.turned hk1 hS3 (.inr ⟨g, [], by simp, hg.1, rfl, hr3⟩) h.capm, hk1.weak fun x _ hx => hx.elim (fun e => .inr (.inl e)) (fun e => .inr (.inr e))⟩
theorem RdSt.headed0 (h : RdSt w d s m z ck dep DA dc (.slice none 0 0) 0 0 [] rest) :
    RdSt ((w.drew.setCell ⟨s, 1, none⟩ (.slice none 0 0)).setCell ⟨s, 2, none⟩ (.int .i64 0)) d s m z ck dep DA dc (.slice none 0 0) 0 0 [] rest ∧ Keeps (RdK d s (.slice none 0 0)) w ((w.drew.setCell ⟨s, 1, none⟩ (.slice none 0 0)).setCell ⟨s, 2, none⟩ (.int .i64 0)) := by
  have hS2 := (Blk.drew h.S).set_ 1 (.slice none 0 0)
  have hS3 := hS2.set_ 2 (.int .i64 0)
  have hk0 : Keeps (fun b => b = s ∨ (Value.slice none 0 0).ownBlock = some b) w ((w.drew.setCell ⟨s, 1, none⟩ (.slice none 0 0)).setCell ⟨s, 2, none⟩ (.int .i64 0)) :=
    Keeps.setCell (Keeps.setCell (Keeps.drew (Keeps.refl _ w)) ⟨s, 1, none⟩ (.inl rfl) _) ⟨s, 2, none⟩ (.inl rfl) _
  exact ⟨h.turned hk0 hS3 (.inl ⟨rfl, rfl, rfl, rfl⟩) h.capm, hk0.weak fun x _ hx => hx.elim (fun e => .inr (.inl e)) (fun e => .inr (.inr e))⟩
/-- A greater room. -/
theorem RdSt.roomier {g c : Nat} {w2 : World} {Z : List Value} (h : RdSt w d s m z ck dep DA dc V cap 0 pend rest) (hg : g = w.heap.size) (hr : Row w2 5 g c (pend.map u8)) (hk : Keeps (fun b => b = g) (w.drew.alloc (.cells Z.toArray 5)) w2) (hc : c ≤ 1000000) :
    RdSt (w2.setCell ⟨s, 1, none⟩ (.slice (some ⟨g, 0, none⟩) pend.length c)) d s m z ck dep DA dc (.slice (some ⟨g, 0, none⟩) pend.length c) c 0 pend rest ∧
    Keeps (RdK d s V) w (w2.setCell ⟨s, 1, none⟩ (.slice (some ⟨g, 0, none⟩) pend.length c)) := by
  have hsl := h.S.lt
  have hml := h.M.lt
  have hsg : g ≠ s := by omega
  have hk2 : Keeps (fun b => b = g) w.drew w2 := ((Keeps.refl (fun b => b = g) w.drew).alloc (.cells Z.toArray 5)).trans hk (fun x _ e => e)
  have hk3 : Keeps (fun b => b = s ∨ V.ownBlock = some b) w (w2.setCell ⟨s, 1, none⟩ (.slice (some ⟨g, 0, none⟩) pend.length c)) := by
    have h0 : Keeps (fun b => b = s ∨ V.ownBlock = some b) w.drew w2 := hk2.weak fun x hx e => absurd hx (by rw [e, hg]; exact Nat.lt_irrefl _)
    have h1 := Keeps.setCell h0 ⟨s, 1, none⟩ (.inl rfl) (.slice (some ⟨g, 0, none⟩) pend.length c)
    exact ⟨⟨h1.1.os, h1.1.tape, h1.1.output, h1.1.size, h1.1.block⟩, h1.2⟩
  have hS2 := (hk2.blk (a := w.drew) h.S (fun e => hsg e.symm)).set_ 1 (.slice (some ⟨g, 0, none⟩) pend.length c)
  refine ⟨h.turned hk3 hS2 (.inr ⟨g, [], by simp, by omega, rfl, Row.keep hr (Below.heap_setCell _ _ _ g hsg)⟩) hc, hk3.weak fun x _ hx => hx.elim (fun e => .inr (.inl e)) (fun e => .inr (.inr e))⟩
/-- Behind one reading of the drops. -/
theorem RdSt.readOne {g j : Nat} {w2 : World} (h : RdSt w d s m z ck dep DA dc V cap 0 pend rest) (hV : V = .slice (some ⟨g, 0, none⟩) pend.length cap) (hj : j ≤ rest.length) (hr : Row w2 5 g cap ((pend ++ rest.take j).map u8))
    (hD : Blk w2 d 197 #[.slice DA' (rest.length - j) (dc - j), .int .i64 ck]) (hdata : RB w2 (fun b => b < m ∧ b ≠ d ∧ b ≠ s) DA' (rest.drop j)) (hk : Keeps (fun b => b = g ∨ b = d) w.drew w2) :
    RdSt ((w2.setCell ⟨s, 1, none⟩ (.slice (some ⟨g, 0, none⟩) (pend.length + j) cap)).setCell ⟨s, 4, none⟩ .nilIface) d s m z ck dep DA' (dc - j) (.slice (some ⟨g, 0, none⟩) (pend.length + j) cap) cap 0 (pend ++ rest.take j) (rest.drop j) ∧
    Keeps (RdK d s V) w ((w2.setCell ⟨s, 1, none⟩ (.slice (some ⟨g, 0, none⟩) (pend.length + j) cap)).setCell ⟨s, 4, none⟩ .nilIface) := by
  subst hV
  have hg := h.room.lt (g := g) rfl
  have hsg : g ≠ s := by have := h.sm; omega
  have hds : d ≠ s := by have := h.ds; omega
  have hk1 : Keeps (RdK d s (.slice (some ⟨g, 0, none⟩) pend.length cap)) w.drew w2 := hk.weak fun x _ e => e.elim (fun e => .inr (.inr (by rw [e]; rfl))) (fun e => .inl e)
  have hk3 : Keeps (RdK d s (.slice (some ⟨g, 0, none⟩) pend.length cap)) w ((w2.setCell ⟨s, 1, none⟩ (.slice (some ⟨g, 0, none⟩) (pend.length + j) cap)).setCell ⟨s, 4, none⟩ .nilIface) := by
    have h1 := Keeps.setCell (Keeps.setCell hk1 ⟨s, 1, none⟩ (.inr (.inl rfl)) (.slice (some ⟨g, 0, none⟩) (pend.length + j) cap)) ⟨s, 4, none⟩ (.inr (.inl rfl)) .nilIface
    exact ⟨⟨h1.1.os, h1.1.tape, h1.1.output, h1.1.size, h1.1.block⟩, h1.2⟩
  have hS2 := (hk.blk (a := w.drew) h.S (fun e => e.elim (fun e => hsg e.symm) (fun e => hds e.symm))).set_ 1 (.slice (some ⟨g, 0, none⟩) (pend.length + j) cap)
  have hS3 := hS2.set_ 4 .nilIface
  have hlen : (rest.drop j).length = rest.length - j := List.length_drop
  have hplen : (pend ++ rest.take j).length = pend.length + j := by rw [List.length_append, List.length_take, Nat.min_eq_left hj]
  have hdc := h.dcle
  have hdm := h.dcm
  refine ⟨h.next hk3 (by rw [hlen]; exact Blk.far (Blk.far hD (by simpa using hds) _) (by simpa using hds) _) (RB.keep (RB.keep hdata (fun b hb => Below.heap_setCell _ _ _ b (fun e => hb.2.2 e))) (fun b hb => Below.heap_setCell _ _ _ b (fun e => hb.2.2 e))) hS3 (.inr ⟨g, [], by rw [hplen, Nat.zero_add], hg.1, rfl, Row.keep (Row.keep hr (Below.heap_setCell _ _ _ g hsg)) (Below.heap_setCell _ _ _ g hsg)⟩) (by rw [hlen]; omega) (by omega) h.capm, hk3⟩
end
theorem makeLC (k c : Nat) (hk : k ≤ c) (hc : c ≤ 281474976710656) : ∃ Z : List Value, Z.length = c ∧ ∀ W : World, (Instr.makeSlice 26 (.int .i64 (k : Int)) (.int .i64 (c : Int))).run Tryd.prog W = .ok (.slice (some ⟨W.heap.size, 0, none⟩) k c) (W.alloc (.cells Z.toArray 5)) := by
  obtain ⟨i0, hi0, hz0, hz1, hz2⟩ := info_parts info5
  refine ⟨(madeCells (Value.cells (.int .u8 0)) (c * 1)).toList, by simp [size_madeCells], fun W => ?_⟩
  have := run_make (P := Tryd.prog) W 26 5 i0 _ Tryd.underlying26 hi0 hz0 .i64 .i64 k c (by omega) (by omega) (by rw [hz2]; omega) (by omega)
  rw [hz1] at this
  simpa using this
end Go.Proofs.YtpadbpmnejgckaaDoor
