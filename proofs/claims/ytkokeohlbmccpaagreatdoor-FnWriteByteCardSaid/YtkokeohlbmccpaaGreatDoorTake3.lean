/-
  What spec.constructor.take is claimed to compute; words for its ways. No condition.
-/
import Derived.Test.YtkokeohlbmccpaaGreatDoorTake2
namespace Go.Proofs.YtkokeohlbmccpaaGreatDoor
set_option linter.unusedSimpArgs false
set_option linter.unusedVariables false
open Go.RowKit
def TakesTake (lv : Nat) : Prop := ∀ (lv' : Int) (Q S : Nat → Prop) (D : Option Addr) (desc : List AV) (dn dc : Nat) (ys : List Value) (code : Nat) (A : Option Addr) (bs : List UInt8) (m cap : Nat) (w : World), lv' = lv → dn = desc.length → desc.length ≤ dc → dc ≤ maxLen → Reads w Q 6 D desc.length ys → AVsC w Q desc ys → code < 256 →
  m = bs.length → RB w S A bs → bs.length ≤ cap → cap ≤ 9223372036854775807 → bs.length ≤ 1099511627776 → Old w S → Old w Q → ∀ r, (lvl lv).take desc code bs = some r →
  Calls Tryz.prog 23 #[.agg #[.slice D dn dc, .int .i64 code], .slice A m cap, .int .i64 lv'] w (TookV Q S w r)
def Withins (lv : Nat) : Prop := ∀ (lv' : Int) (Q S : Nat → Prop) (D : Option Addr) (desc : List AV) (dn dc : Nat) (ys : List Value) (kind u size : Nat) (A : Option Addr) (bs : List UInt8) (m cap : Nat) (w : World), lv' = (lv : Int) + 1 → dn = desc.length → desc.length ≤ dc → dc ≤ maxLen → Reads w Q 6 D desc.length ys → AVsC w Q desc ys →
  21 ≤ kind → kind ≤ 23 → 1 ≤ size → size ≤ 4 → u < 18446744073709551616 → m = bs.length → RB w S A bs → bs.length ≤ cap → cap ≤ 9223372036854775807 → bs.length ≤ 1099511627776 → Old w S → Old w Q → ∀ r, withinW (lvl lv).cons (lvl lv).val (lvl lv).take desc kind u size bs = some r →
  Calls Tryz.prog 59 #[avV kind 0 [] none 0 0 0 D dn dc, .int .u64 u, .int .i64 size, .slice A m cap, .int .i64 lv'] w (TookV Q S w r)
theorem six_cells {w : World} {g : Nat} {t : TypeId} {c0 c1 c2 c3 c4 c5 : Value} (h : Blk w g t #[c0, c1, c2, c3, c4, c5]) :
    (w.cell? ⟨g, 0, none⟩ = some c0 ∧ w.cell? ⟨g, 1, none⟩ = some c1 ∧ w.cell? ⟨g, 2, none⟩ = some c2 ∧ w.cell? ⟨g, 3, none⟩ = some c3 ∧ w.cell? ⟨g, 4, none⟩ = some c4 ∧ w.cell? ⟨g, 5, none⟩ = some c5) ∧
    (w.frozen? ⟨g, 0, none⟩ = false ∧ w.frozen? ⟨g, 1, none⟩ = false ∧ w.frozen? ⟨g, 2, none⟩ = false ∧ w.frozen? ⟨g, 3, none⟩ = false ∧ w.frozen? ⟨g, 4, none⟩ = false ∧ w.frozen? ⟨g, 5, none⟩ = false) :=
  ⟨⟨h.cell 0, h.cell 1, h.cell 2, h.cell 3, h.cell 4, h.cell 5⟩, ⟨h.frozen 0, h.frozen 1, h.frozen 2, h.frozen 3, h.frozen 4, h.frozen 5⟩⟩
theorem tookV_on {Q S : Nat → Prop} {w W w4 W' : World} {r : VRes} {kind : Int} {num : Nat} {text : List UInt8} {K : Option Addr} {kn kc : Nat} {of : Int} {D : Option Addr} {dn dc : Nat} {A : Option Addr} {n cap : Nat} {b : Bool}
    (h : TookVR Q S W w4 r [.int .i64 kind, .int .u64 num, .string ⟨text.toArray⟩, .slice K kn kc, .int .i64 of, .slice D dn dc] A n cap b) (hsz : w.heap.size ≤ W.heap.size) (hb : Below w.heap.size w W') (hz : w4.heap.size ≤ W'.heap.size) (hS : Stays S w4 W') (hQ : Stays (fun x => Q x ∨ Made W w4 x) w4 W') :
    TookV Q S w r (.returned (.tuple #[avV kind num text K kn kc of D dn dc, .slice A n cap, .bool b])) W' := by
  refine ⟨_, _, _, _, _, _, _, _, _, _, _, _, _, _, rfl, hb, ?_⟩
  unfold TookVR at h ⊢
  rcases r with _ | ⟨v, bs⟩
  · exact h
  · obtain ⟨h1, h2, h3, h4, h5, h6⟩ := h
    exact ⟨h1, h2, h3.keep hS, h4, h5, (h6.keep hQ).sub fun x hx => hx.imp id fun hx => ⟨Nat.le_trans hsz hx.1, Nat.lt_of_lt_of_le hx.2 hz⟩⟩
theorem tookV_flat {Q S : Nat → Prop} {w W : World} {kind : Int} {num : Nat} {text : List UInt8} {D : Option Addr} {desc : List AV} {dc : Nat} {ys : List Value} {A' : Option Addr} {bs' : List UInt8} {n' c' : Nat}
    (hb : Below w.heap.size w W) (hS : Old w S) (hQ : Old w Q) (hr : RB w S A' bs') (hn : n' = bs'.length) (hc : bs'.length ≤ c') (hm : c' ≤ maxLen) (hd : desc.length ≤ dc) (hdm : dc ≤ maxLen) (hR : Reads w Q 6 D desc.length ys) (hC : AVsC w Q desc ys) :
    TookV Q S w (some (.mk kind num text [] 0 desc, bs')) (.returned (.tuple #[avV kind num text none 0 0 0 D desc.length dc, .slice A' n' c', .bool true])) W := by
  have hsQ : Stays Q w W := stays_below (Stays.refl _ _) hb hQ
  refine ⟨_, _, _, _, _, _, _, _, _, _, _, _, _, _, rfl, hb, rfl, hn, hr.keep (stays_below (Stays.refl _ _) hb hS), hc, hm, ?_⟩
  exact AVC.flat W _ kind num text 0 hd hdm ((hR.keep hsQ).sub fun b h => .inl h) ((hC.keep hsQ).sub fun b h => .inl h)
end Go.Proofs.YtkokeohlbmccpaaGreatDoor
