/-
  spec.SameValue and laws.wrote for a value without values inside: the bytes read back as the value. Conditions: the data read as bytes, at most 2^40.
-/
import Derived.Test.YtkokeohlbmccpaaGreatDoorWriteD
namespace Go.Proofs.YtkokeohlbmccpaaGreatDoor
set_option linter.unusedSimpArgs false
set_option linter.unusedVariables false
open Go.RowKit
set_option maxRecDepth 100000 in
set_option maxHeartbeats 1600000 in
theorem sameFlat (kind : Int) (num : Nat) (text : List UInt8) (K K' D D' : Option Addr) (kc kc' dc dc' : Nat) (of of' : Int) (w : World) :
    Calls Tryz.prog 16 #[avV kind num text K 0 kc of D 0 dc, avV kind num text K' 0 kc' of' D' 0 dc'] w fun e w' => e = .returned (.bool true) ∧ Below w.heap.size w w' := by
  simp only [avV]
  go_enter Tryz.func16, Tryz.ntmps16
  go_wp2
  go_loop [46] (fun i => i = .int .i64 0) (fun _ => 0)
  case atStart => rfl
  case round =>
    subst hrel
    go_wp2
    go_quiet (fail)
    go_wp2
    go_ret
    exact ⟨rfl, (by repeat (first | with_reducible exact Below.refl _ _ | with_reducible exact x | with_reducible refine Below.alloc ?_ (by first | omega | (simp; omega) | (simp; done)) _ | with_reducible refine Below.setCell ?_ (by first | omega | (simp; omega) | (simp; done)) _ | with_reducible refine Below.drew ?_ | with_reducible refine below_drewN ?_ _))⟩
theorem tookV_is {S : Nat → Prop} {w w' : World} {e : Ending} {kind : Int} {num : Nat} {text : List UInt8} {of : Int} {r : VRes} (h : TookV NoQ S w r e w') (hr : r = some (.mk kind num text [] of [], [])) :
    ∃ K kc D dc A c, e = .returned (.tuple #[avV kind num text K 0 kc of D 0 dc, .slice A 0 c, .bool true]) ∧ Below w.heap.size w w' := by
  subst hr
  obtain ⟨kd, nm, tx, K, kn, kc, of1, D, dn, dc, A1, n1, c1, b1, rfl, hb1, hr1⟩ := h
  simp only [TookVR] at hr1
  obtain ⟨rfl, rfl, _, _, _, hav⟩ := hr1
  unfold AVC at hav
  obtain ⟨A2, cap2, xs2, D2, dcap2, ys2, hcs, _⟩ := hav
  refine ⟨K, kc, D, dc, A1, c1, ?_, hb1⟩
  injection hcs with g1 hcs
  injection hcs with g2 hcs
  injection hcs with g3 hcs
  injection hcs with g4 hcs
  injection hcs with g5 hcs
  injection hcs with g6 hcs
  injection g4 with _ g4 _
  injection g6 with _ g6 _
  simp only [avV, g1, g2, g3, g5, g4, g6, List.length_nil]
theorem takes8 (S : Nat → Prop) (A : Option Addr) (bs : List UInt8) (n cap : Nat) (kind : Int) (num : Nat) (text : List UInt8) (of : Int) (w : World) (hn : n = bs.length) (hr : RB w S A bs) (hc : bs.length ≤ cap) (hcap : cap ≤ 9223372036854775807) (h40 : bs.length ≤ 1099511627776) (hS : Old w S)
    (hv : (lvl 8).val bs = some (some (.mk kind num text [] of [], []))) :
    Calls Tryz.prog 15 #[.slice A n cap, .int .i64 8] w fun e w' => ∃ K kc D dc A c, e = .returned (.tuple #[avV kind num text K 0 kc of D 0 dc, .slice A 0 c, .bool true]) ∧ Below w.heap.size w w' :=
  ((takes_all 8 (by omega)).1 (8 : Int) S A bs n cap w (by simp) hn hr hc hcap h40 hS _ hv).mono fun _ _ h => tookV_is h rfl
end Go.Proofs.YtkokeohlbmccpaaGreatDoor
