/-
  laws.wrote of any value: the bytes are read back as the same value. Conditions: the data read as bytes, at most 2^40; the value reads as one.
-/
import Derived.Test.YtnnddknplhhnkaaDoorSameV
namespace Go.Proofs.YtnnddknplhhnkaaDoor
set_option linter.unusedSimpArgs false
set_option linter.unusedVariables false
open Go.RowKit
theorem noQ_old (w : World) (S : Nat → Prop) (w0 : World) (h : ∀ b, S b → b < w.heap.size) : Old w (fun x => NoQ x ∨ S x) := fun b hb => hb.elim (fun h => h.elim) (h b)
set_option maxRecDepth 100000 in
set_option maxHeartbeats 400000 in
theorem wrote_any (S S' : Nat → Prop) (A : Option Addr) (bs : List UInt8) (n cap : Nat) (v q : AV) (c0 c1 c2 c3 c4 c5 : Value) (w : World) (hn : n = bs.length) (hr : RB w S A bs) (hc : bs.length ≤ cap) (hcap : cap ≤ 9223372036854775807) (h40 : bs.length ≤ 1099511627776) (hS : Old w S)
    (hS' : Old w S') (hv : AVC w S' v [c0, c1, c2, c3, c4, c5]) (hq : (lvl 8).val bs = some (some (q, []))) (hs : SameA v q) :
    Calls Tryd.prog 10 #[.slice A n cap, .bool true, .agg #[c0, c1, c2, c3, c4, c5]] w fun e w' => e = .returned (.bool true) ∧ Below w.heap.size w w' := by
  subst hn
  have HT := fun (W : World) (h1 : RB W S A bs) (h2 : Old W S) => (takes_all 8 (by omega)).1 (8 : Int) S A bs bs.length cap W (by simp) rfl h1 hc hcap h40 h2 _ hq
  have HT' := hide HT
  clear HT hq
  have HV := hide hv
  clear hv
  have ht : ∃ k nm t K kn kc o D dn dc, [c0, c1, c2, c3, c4, c5] = [.int .i64 k, .int .u64 nm, .string t, .slice K kn kc, .int .i64 o, .slice D dn dc] := by
    have h := unhide HV
    cases v
    unfold AVC at h
    obtain ⟨A2, cap2, xs2, D2, dcap2, ys2, h1, _⟩ := h
    exact ⟨_, _, _, _, _, _, _, _, _, _, h1⟩
  obtain ⟨k, nm, t, K, kn, kc, o, D, dn, dc, he⟩ := ht
  simp only [List.cons.injEq, and_true] at he
  obtain ⟨rfl, rfl, rfl, rfl, rfl, rfl⟩ := he
  go_enter Tryd.func10, Tryd.ntmps10
  go_wp2_with fail
  refine (unhide HT' _ (hr.keep (stays_alloc hS (Stays.refl _ _) _)) (old_alloc hS _)).mono ?_
  rintro e w1 ⟨kd, num, tx, K1, kn1, kc1, of1, D1, dn1, dc1, A1, n1, cap1, b1, rfl, hb1, hr1⟩
  simp only [TookVR] at hr1
  obtain ⟨rfl, hn1, _, _, _, hav⟩ := hr1
  simp only [List.length_nil] at hn1
  subst hn1
  have hb0 : Blk w1 w.heap.size 29 #[.int .i64 k, .int .u64 nm, .string t, .slice K kn kc, .int .i64 o, .slice D dn dc] := (Blk.new w 29 _).below hb1 (Nat.lt_of_lt_of_eq (Nat.lt_succ_self _) (World.size_alloc _ _).symm)
  obtain ⟨⟨p0, p1, p2, p3, p4, p5⟩, _⟩ := six_cells hb0
  have hlt := hb0.lt
  have hw1 : Below w.heap.size w w1 := ((Below.refl _ _).alloc (Nat.le_refl _) _).trans (hb1.mono (by simp))
  have HB1 := hide hw1
  have HAV := hide hav
  clear hb1 hb0 hav hw1
  go_wp2_with fail
  have hw1 := unhide HB1
  have hav := unhide HAV
  have ho1 : Old w1 (fun x => NoQ x ∨ Made (w.alloc (.cells #[.int .i64 k, .int .u64 nm, .string t, .slice K kn kc, .int .i64 o, .slice D dn dc] 29)) w1 x) := fun b hb => hb.elim (fun h => h.elim) (fun h => h.2)
  refine (sameV_any v q _ _ _ _ _ _ _ _ _ _ _ _ S' _ _ (old_alloc (old_below hw1 hS') _) (old_alloc ho1 _) (AVC.keep (unhide HV) (stays_alloc (old_below hw1 hS') (stays_below (Stays.refl _ _) hw1 hS') _)) (AVC.keep hav (stays_alloc ho1 (Stays.refl _ _) _)) hs).mono ?_
  rintro e w2 ⟨rfl, hb2⟩
  have h2 : Below w.heap.size w w2 := (hw1.alloc (Nat.le_of_lt hlt) _).trans (hb2.mono (by simp; omega))
  go_wp2
  go_ret
  exact ⟨rfl, (by repeat (first | with_reducible exact Below.refl _ _ | with_reducible exact h2 | with_reducible refine Below.alloc ?_ (by first | omega | (simp; omega) | (simp; done)) _ | with_reducible refine Below.setCell ?_ (by first | omega | (simp; omega) | (simp; done)) _ | with_reducible refine Below.drew ?_ | with_reducible refine below_drewN ?_ _))⟩
end Go.Proofs.YtnnddknplhhnkaaDoor
