/-
  What the parts of msgp.source.more do with the room: its bytes go to its head, it grows, it is read into. Conditions: as the state says.
-/
import Derived.Test.YtpadbpmnejgckaaDoorSrc2
namespace Go.Proofs.YtpadbpmnejgckaaDoor
set_option linter.unusedSimpArgs false
set_option linter.unusedVariables false
set_option linter.unusedVariables false
open Go.RowKit
theorem take_min {α : Type} (xs : List α) (a b : Nat) (ha : a = xs.length) (hb : a ≤ b) : xs = xs.take (Nat.min a b) := by
  have e : Nat.min a b = a := Nat.min_eq_left hb
  rw [e, ha, List.take_length]
section
variable {w : World} {d s m z : Nat} {ck dep : Int} {DA : Option Addr} {dc : Nat} {V : Value} {cap at_ : Nat} {pend rest : List UInt8}
theorem head_any (A : Option Addr) (h : RdSt w d s m z ck dep DA dc (.slice A (at_ + pend.length) cap) cap at_ pend rest) : ∃ w2 : World, (Builtin.copy_ #[26, 26] 3 #[.slice A (at_ + pend.length) cap, .slice (cutA A cap at_ 1) pend.length (cap - at_)]).run Tryd.prog w.drew = .ok (goInt (pend.length : Nat)) w2 ∧
    w2.cell? ⟨s, 1, none⟩ = some (.slice A (at_ + pend.length) cap) ∧ w2.cell? ⟨s, 2, none⟩ = some (.int .i64 at_) ∧ w2.frozen? ⟨s, 1, none⟩ = false ∧ w2.frozen? ⟨s, 2, none⟩ = false ∧
    RdSt ((w2.setCell ⟨s, 1, none⟩ (.slice A pend.length cap)).setCell ⟨s, 2, none⟩ (.int .i64 0)) d s m z ck dep DA dc (.slice A pend.length cap) cap 0 pend rest ∧
    Keeps (RdK d s (.slice A (at_ + pend.length) cap)) w ((w2.setCell ⟨s, 1, none⟩ (.slice A pend.length cap)).setCell ⟨s, 2, none⟩ (.int .i64 0)) := by
  rcases h.room with ⟨hV, rfl, rfl, rfl⟩ | ⟨g, pre, hV, hmg, hpre, hrow⟩
  · obtain ⟨rfl, _, _⟩ := Value.slice.inj hV
    have hh := h.headed0
    have hS := Blk.drew h.S
    refine ⟨w.drew, ?_, hS.cell 1, hS.cell 2, hS.frozen 1, hS.frozen 2, hh.1, hh.2⟩
    exact run_copy_none (P := Tryd.prog) w.drew 26 26 3 5 none none 0 0 0 0 Tryd.underlying26 size5s rfl
  · obtain ⟨rfl, _, _⟩ := Value.slice.inj hV
    have hle := h.room.len_le
    have hgs : g ≠ s := by have := h.sm; omega
    obtain ⟨A', hA', hrd⟩ := h.room.reads
    obtain ⟨rfl, _, _⟩ := Value.slice.inj hA'
    have hrow0 : Row w.drew 5 g cap [] := by
      have h2 : Row w 5 g cap ([] ++ (pre ++ pend).map u8) := hrow
      exact h2.pre
    have hrd2 : Reads w.drew (fun b => (Value.slice (some ⟨g, 0, none⟩) (at_ + pend.length) cap).ownBlock = some b) 1 (cutA (some ⟨g, 0, none⟩) cap at_ 1) pend.length (pend.map u8) := hrd
    obtain ⟨w2, hcp, hr2, hk2⟩ := run_copy_into (P := Tryd.prog) (w := w.drew) 26 26 3 5 _ (cutA (some ⟨g, 0, none⟩) cap at_ 1) (some ⟨g, 0, none⟩) g 0 (at_ + pend.length) cap pend.length (cap - at_) cap 5 [] (pend.map u8) (pend.map u8) Tryd.underlying26 size5s hrow0 rfl hrd2 (take_min _ _ _ (by rw [List.length_map]) (by omega)) (fun _ => rfl) (by rw [List.length_map]; omega) (u8_one pend)
    rw [List.length_map] at hcp
    have hh := h.headed rfl hr2 hk2
    have hS := hk2.blk (a := w.drew) h.S (fun e => hgs e.symm)
    exact ⟨w2, hcp, hS.cell 1, hS.cell 2, hS.frozen 1, hS.frozen 2, hh.1, hh.2⟩
theorem grow_any (A : Option Addr) (g c : Nat) (hgs : g = w.heap.size) (hc : c = 2 * cap + z) (hc2 : c ≤ 1000000) (h : RdSt w d s m z ck dep DA dc (.slice A pend.length cap) cap 0 pend rest) : ∃ (Z : List Value) (w2 : World), (∀ W : World, (Instr.makeSlice 26 (.int .i64 (pend.length : Nat)) (.int .i64 (c : Int))).run Tryd.prog W = .ok (.slice (some ⟨W.heap.size, 0, none⟩) pend.length c) (W.alloc (.cells Z.toArray 5))) ∧
    (Builtin.copy_ #[26, 26] 3 #[.slice (some ⟨g, 0, none⟩) pend.length c, .slice A pend.length cap]).run Tryd.prog (w.drew.alloc (.cells Z.toArray 5)) = .ok (goInt (pend.length : Nat)) w2 ∧
    w2.frozen? ⟨s, 1, none⟩ = false ∧ w2.cell? ⟨s, 0, none⟩ = some (.iface 195 (.pointer (some ⟨d, 0, none⟩))) ∧ w2.cell? ⟨s, 1, none⟩ = some (.slice A pend.length cap) ∧ w2.cell? ⟨s, 3, none⟩ = some (.int .i64 z) ∧
    RdSt (w2.setCell ⟨s, 1, none⟩ (.slice (some ⟨g, 0, none⟩) pend.length c)) d s m z ck dep DA dc (.slice (some ⟨g, 0, none⟩) pend.length c) c 0 pend rest ∧
    Keeps (RdK d s (.slice A pend.length cap)) w (w2.setCell ⟨s, 1, none⟩ (.slice (some ⟨g, 0, none⟩) pend.length c)) := by
  subst hgs
  have hle := h.room.len_le
  have hsl := h.S.lt
  obtain ⟨Z, hZ, hmk⟩ := makeLC pend.length c (by omega) (by omega)
  obtain ⟨A', hA', hrd⟩ := h.room.reads
  have hA2 : A = A' := (Value.slice.inj hA').1
  subst hA2
  rw [cutA_zero] at hrd
  have hrow0 : Row (w.drew.alloc (.cells Z.toArray 5)) 5 w.heap.size c [] := ⟨Z.toArray, Blk.new w.drew 5 Z.toArray, by simpa using hZ, Nat.zero_le _, rfl⟩
  have hrd2 : Reads (w.drew.alloc (.cells Z.toArray 5)) (fun b => (Value.slice A pend.length cap).ownBlock = some b) 1 A pend.length (pend.map u8) :=
    Reads.keep (w := w) hrd (fun b hb => Below.heap_alloc w.drew _ b (h.room.lt hb).2)
  obtain ⟨w2, hcp, hr2, hk2⟩ := run_copy_into (P := Tryd.prog) (w := w.drew.alloc (.cells Z.toArray 5)) 26 26 3 5 _ A (some ⟨w.heap.size, 0, none⟩) w.heap.size 0 pend.length c pend.length cap c 5 [] (pend.map u8) (pend.map u8) Tryd.underlying26 size5s hrow0 rfl hrd2 (take_min _ _ _ (by rw [List.length_map]) (Nat.le_refl _)) (fun _ => rfl) (by rw [List.length_map]; omega) (u8_one pend)
  rw [List.length_map] at hcp
  have hh := h.roomier rfl hr2 hk2 hc2
  have hS := hk2.blk (Blk.alloc (Blk.drew h.S) (.cells Z.toArray 5)) (by omega)
  exact ⟨Z, w2, hmk, hcp, hS.frozen 1, hS.cell 0, hS.cell 1, hS.cell 3, hh.1, hh.2⟩
theorem room_row {A : Option Addr} {n : Nat} (h : RoomIs w m (.slice A n cap) cap 0 pend) (hc : 0 < cap) : ∃ g, A = some ⟨g, 0, none⟩ ∧ n = pend.length ∧ Row w 5 g cap (pend.map u8) := by
  rcases h with ⟨hV, rfl, _, rfl⟩ | ⟨g, pre, hV, hmg, hpre, hrow⟩
  · omega
  · obtain ⟨rfl, rfl, _⟩ := Value.slice.inj hV
    obtain rfl : pre = [] := List.eq_nil_of_length_eq_zero hpre
    exact ⟨g, rfl, by omega, hrow⟩
theorem read_any (g p : Nat) (hp : p = pend.length) (h : RdSt w d s m z ck dep DA dc (.slice (some ⟨g, 0, none⟩) p cap) cap 0 pend rest) (hc : p + z ≤ cap) (hr : 0 < rest.length) :
    Calls Tryd.prog 182 #[.pointer (some ⟨d, 0, none⟩), .slice (some ⟨g, p, none⟩) z (cap - p)] w.drew fun e w5 => ∃ (j : Nat) (DA' : Option Addr), 1 ≤ j ∧ j ≤ rest.length ∧ p + j ≤ cap ∧ e = .returned (.tuple #[.int .i64 j, .nilIface]) ∧
      w5.cell? ⟨s, 0, none⟩ = some (.iface 195 (.pointer (some ⟨d, 0, none⟩))) ∧ w5.cell? ⟨s, 1, none⟩ = some (.slice (some ⟨g, 0, none⟩) p cap) ∧ w5.cell? ⟨s, 3, none⟩ = some (.int .i64 z) ∧ w5.cell? ⟨s, 4, none⟩ = some .nilIface ∧ w5.frozen? ⟨s, 1, none⟩ = false ∧ w5.frozen? ⟨s, 4, none⟩ = false ∧
      RdSt ((w5.setCell ⟨s, 1, none⟩ (.slice (some ⟨g, 0, none⟩) (p + j) cap)).setCell ⟨s, 4, none⟩ .nilIface) d s m z ck dep DA' (dc - j) (.slice (some ⟨g, 0, none⟩) (p + j) cap) cap 0 (pend ++ rest.take j) (rest.drop j) ∧
      Keeps (RdK d s (.slice (some ⟨g, 0, none⟩) p cap)) w ((w5.setCell ⟨s, 1, none⟩ (.slice (some ⟨g, 0, none⟩) (p + j) cap)).setCell ⟨s, 4, none⟩ .nilIface) := by
  subst hp
  have hg := h.room.lt (g := g) rfl
  have hds := h.ds
  have hsm := h.sm
  have hz1 := h.z1
  have hgs : g ≠ s := by omega
  have hrow : Row w.drew 5 g cap (pend.map u8) := by
    obtain ⟨g', e, _, hr⟩ := room_row h.room (by omega)
    simp at e
    subst e
    exact hr
  refine (dropsRead d ck DA rest rest.length dc g pend.length z cap (cap - pend.length) pend (fun b => b < m ∧ b ≠ d ∧ b ≠ s) w.drew rfl h.D h.data (fun b hb => Nat.lt_trans hb.1 h.M.lt) (fun b hb => ⟨hb.2.1, fun e => by have := hb.1; omega⟩) hrow rfl hc (by omega) (by omega) hr h.dcle h.dcm).mono ?_
  rintro e w5 ⟨j, DA', h1, h2, h3, rfl, h4, h5, h6, h7⟩
  have hS5 := h7.blk (a := w.drew) h.S (fun e => e.elim (fun e => hgs e.symm) (fun e => by omega))
  have hfin := h.readOne rfl h2 h4 h5 h6 h7
  exact ⟨j, DA', h1, h2, by omega, rfl, hS5.cell 0, hS5.cell 1, hS5.cell 3, hS5.cell 4, hS5.frozen 1, hS5.frozen 4, hfin.1, hfin.2⟩
end
end Go.Proofs.YtpadbpmnejgckaaDoor
