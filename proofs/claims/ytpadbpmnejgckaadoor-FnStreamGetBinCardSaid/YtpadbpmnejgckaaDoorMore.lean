/-
  msgp.source.more: so many bytes lie there. Conditions: there are so many to come; at most 200000.
-/
import Derived.Test.YtpadbpmnejgckaaDoorMore0
import Derived.BigGuardPart
import Derived.Deep.DeepCutAuto
import Derived.Deep.CutBlock
import Derived.Deep.RegionLaw
namespace Go.Proofs.YtpadbpmnejgckaaDoor
set_option linter.unusedSimpArgs false
set_option linter.unusedVariables false
set_option linter.unusedVariables false
open Go.RowKit
theorem mRead (t : Nat) (w : World) : (method 380 195 (.pointer (some ⟨t, 0, none⟩)) "Read").run Tryd.prog w = .ok (182, .pointer (some ⟨t, 0, none⟩)) w := by kernel_rfl
theorem mReadN (t : Nat) (w : World) : (nilAhead 380 195 (.pointer (some ⟨t, 0, none⟩)) "Read").run Tryd.prog w = .ok (some false) w := by kernel_rfl
/-- What more leaves. -/
def MoreP (d s m z : Nat) (ck dep : Int) (V0 : Value) (bs : List UInt8) (n : Nat) (w : World) (w' : World) : Prop :=
  ∃ DA dc V cap at_ pend rest, pend ++ rest = bs ∧ n ≤ pend.length ∧ RdSt w' d s m z ck dep DA dc V cap at_ pend rest ∧ Keeps (RdK d s V0) w w' ∧ (V.ownBlock = V0.ownBlock ∨ ∃ g, V.ownBlock = some g ∧ w.heap.size ≤ g)
set_option maxRecDepth 100000 in
set_option maxHeartbeats 1600000 in
theorem more_no (d s m z : Nat) (ck dep : Int) (DA : Option Addr) (dc : Nat) (V : Value) (cap at_ n : Nat) (pend rest : List UInt8) (w : World) (h : RdSt w d s m z ck dep DA dc V cap at_ pend rest) (hn : n ≤ pend.length) :
    Calls Tryd.prog 142 #[.pointer (some ⟨s, 0, none⟩), .int .i64 n] w fun e w' => e = .returned (.tuple #[]) ∧ MoreP d s m z ck dep V (pend ++ rest) n w w' := by
  obtain ⟨A, rfl⟩ := h.room.form
  have hle := h.room.len_le
  have hcm := h.capm
  have c1 : w.cell? ⟨s, 1, none⟩ = some (.slice A (at_ + pend.length) cap) := h.S.cell 1
  have c2 : w.cell? ⟨s, 2, none⟩ = some (.int .i64 at_) := h.S.cell 2
  obtain ⟨R, hR⟩ : ∃ R, R = at_ + pend.length := ⟨_, rfl⟩
  rw [← hR] at c1
  obtain ⟨L, hL⟩ : ∃ L : Int, L = (R : Int) - (at_ : Int) := ⟨_, rfl⟩
  have hw : IntKind.i64.wrap L = L := by rw [IntKind.wrap_i64]; omega
  have hge : (n : Int) ≤ L := by omega
  have hL2 := hL.symm
  have HL := hide hL
  have H := hide h
  have hpn := hn
  clear h hL hn hR
  go_enter Tryd.func142, Tryd.ntmps142
  go_wp2
  go_region
  go_wp2
  refine bodyPost_ret (v := .tuple #[]) (by simp [results, Tryd.results142, go_sem]) rfl ?_
  exact ⟨rfl, DA, dc, _, cap, at_, pend, rest, rfl, hpn, (unhide H).quiet, (Keeps.refl _ _).drew, .inl rfl⟩
def dropsLeft (d : Nat) (w : World) : Nat := match w.cell? ⟨d, 0, none⟩ with | some (.slice _ n _) => n | _ => 0
theorem dropsLeft_of {w : World} {d n dc : Nat} {A : Option Addr} {ck : Int} (h : Blk w d 197 #[.slice A n dc, .int .i64 ck]) : dropsLeft d w = n := by
  have c : w.cell? ⟨d, 0, none⟩ = some (.slice A n dc) := h.cell 0
  unfold dropsLeft
  rw [c]
/-- The loop of more: the room's bytes lie at its head. -/
def MoreRel (d s m z : Nat) (ck dep : Int) (V0 : Value) (bs : List UInt8) (w wr : World) : Prop :=
  ∃ DA dc V cap pend rest, pend ++ rest = bs ∧ RdSt wr d s m z ck dep DA dc V cap 0 pend rest ∧ Keeps (RdK d s V0) w wr ∧ (V.ownBlock = V0.ownBlock ∨ ∃ g, V.ownBlock = some g ∧ w.heap.size ≤ g)
end Go.Proofs.YtpadbpmnejgckaaDoor
