/-
  laws.wrote for a value without values inside. Conditions: the data read as bytes, at most 2^40.
-/
import Derived.Test.YtkokeohlbmccpaaGreatDoorWrote
namespace Go.Proofs.YtkokeohlbmccpaaGreatDoor
set_option linter.unusedSimpArgs false
set_option linter.unusedVariables false
open Go.RowKit
set_option maxRecDepth 100000 in
set_option maxHeartbeats 400000 in
theorem wrote_flat (S : Nat → Prop) (A : Option Addr) (bs : List UInt8) (n cap : Nat) (kind : Int) (num : Nat) (text : List UInt8) (of : Int) (w : World) (hn : n = bs.length) (hr : RB w S A bs) (hc : bs.length ≤ cap) (hcap : cap ≤ 9223372036854775807) (h40 : bs.length ≤ 1099511627776) (hS : Old w S)
    (hv : (lvl 8).val bs = some (some (.mk kind num text [] of [], []))) :
    Calls Tryz.prog 7 #[.slice A n cap, .bool true, avV kind num text none 0 0 0 none 0 0] w fun e w' => e = .returned (.bool true) ∧ Below w.heap.size w w' := by
  subst hn
  have HT := fun (W : World) (h1 : RB W S A bs) (h2 : Old W S) => takes8 S A bs bs.length cap kind num text of W rfl h1 hc hcap h40 h2 hv
  have HT' := hide HT
  clear HT hv
  simp only [avV]
  go_enter Tryz.func7, Tryz.ntmps7
  go_wp2_with (first
    | (go_at_call 15; go_loud (refine (unhide HT' _ (hr.keep (stays_alloc hS (Stays.refl _ _) _)) (old_alloc hS _)).mono ?_; rintro e w1 ⟨K, kc, D, dc, A1, c1, rfl, hb1⟩; have hb0 : Blk w1 w.heap.size 30 #[.int .i64 kind, .int .u64 num, .string ⟨text.toArray⟩, .slice none 0 0, .int .i64 0, .slice none 0 0] := (Blk.new w 30 _).below hb1 (Nat.lt_of_lt_of_eq (Nat.lt_succ_self _) (World.size_alloc _ _).symm); obtain ⟨⟨p0, p1, p2, p3, p4, p5⟩, _⟩ := six_cells hb0; have hlt := hb0.lt; have HB1 := hide hb1; clear hb1 hb0))
    | (go_at_call 16; go_loud (refine (sameFlat kind num text none K none D 0 kc 0 dc 0 of _).mono ?_; rintro e w2 ⟨rfl, hb2⟩)))
  go_ret
  have hb1 := unhide HB1
  have h1 : Below w.heap.size w w1 := ((Below.refl _ _).alloc (Nat.le_refl _) _).trans (hb1.mono (by simp))
  have h2 : Below w.heap.size w w2 := (h1.alloc (Nat.le_of_lt hlt) _).trans (hb2.mono (by simp; omega))
  exact ⟨rfl, (by repeat (first | with_reducible exact Below.refl _ _ | with_reducible exact h2 | with_reducible refine Below.alloc ?_ (by first | omega | (simp; omega) | (simp; done)) _ | with_reducible refine Below.setCell ?_ (by first | omega | (simp; omega) | (simp; done)) _ | with_reducible refine Below.drew ?_ | with_reducible refine below_drewN ?_ _))⟩
end Go.Proofs.YtkokeohlbmccpaaGreatDoor
