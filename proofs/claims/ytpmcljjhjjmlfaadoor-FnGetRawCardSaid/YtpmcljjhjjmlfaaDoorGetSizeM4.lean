/-
  msgp.getSize, further ways (modes [4]). Conditions: the data read as bytes; msgp.ErrShortBytes is not nil.
-/
import Derived.Test.YtpmcljjhjjmlfaaDoorGetSize
namespace Go.Proofs.YtpmcljjhjjmlfaaDoor
set_option linter.unusedSimpArgs false
set_option linter.unusedVariables false
set_option linter.unusedVariables false
open Go.RowKit
set_option maxRecDepth 100000 in
set_option maxHeartbeats 3200000 in
theorem getSize_m4 (S : Nat → Prop) (A : Option Addr) (x s t : Nat) (m : Int) (b : UInt8) (r : List UInt8) (c : Nat) (w : World) (hE : ErrAt w) (hr : RB w S A (b :: r)) (hc : r.length + 1 ≤ c) (hcm : c ≤ 9223372036854775807) (hS : Old w S) (hx : b.toNat = x) (hbs : ∀ w, Calls Tryd.prog 57 #[.int .u8 x] w fun e w' => e = .returned (.agg #[.int .u8 (s : Nat), .int .i8 m, .int .u8 (t : Nat), .int .u8 0]) ∧ Below w.heap.size w w') (hs32 : s ≤ 32) (hm30 : m ≤ 30) (h1 : m = -4) (h2 : s ≤ r.length + 1) (h0 : 3 ≤ s) :
    Calls Tryd.prog 65 #[.slice A (r.length + 1) c] w (SizeR (some (s, 2 * bigU (r.take 2))) w) := by
  have HE := hide hE
  have hep := hE.pos
  obtain ⟨ad, rfl, hb, hc0⟩ := hr.at_ (k := 0) (by simp)
  simp only [u8, add_zero_, List.getElem_cons_zero] at hc0
  have hlt := hS _ hb
  rw [hx] at hc0
  have HBS := hide hbs
  subst h1
  have hs0 : ((s : Int) == 0) = false := by simp; omega
  have h4 : ¬ (r.length : Int) + 1 < (s : Int) := by omega
  have hcut := hr.cut (k := 1) (cap := c) (by simp) (by simpa using hc)
  simp only [List.drop_succ_cons, List.drop_zero] at hcut
  have HC := hide hcut
  have hlq : bigU (r.take 2) < 65536 := by
    have := bigU_lt (r.take 2)
    rw [List.length_take, Nat.min_eq_left (show 2 ≤ r.length by omega)] at this
    simpa using this
  clear hr hE hbs hx
  go_enter Tryd.func65, Tryd.ntmps65
  go_wp2_with fail
  refine (unhide HBS _).mono ?_
  rintro e w1 ⟨rfl, hb1⟩
  obtain ⟨te, ve, hce⟩ := (unhide HE).on hb1
  have HB1 := hide hb1
  have hz1 := hb1.size
  have hp1 : 0 < w1.heap.size := Nat.lt_of_lt_of_le hep hz1
  have hl1 : ad.block < w1.heap.size := Nat.lt_of_lt_of_le hlt hz1
  have hBE := fun (W : World) (hB : Below w.heap.size w W) => beu16_any S (cutA (some ad) c 1 1) r r.length (c - 1) W rfl (by omega) ((unhide HC).keep (stays_below (Stays.refl _ _) hB hS)) (old_below hB hS)
  generalize bigU (r.take 2) = q at *
  have HBE := hide hBE
  clear hBE
  clear hb1
  go_wp2
  go_region
  go_wp2
  go_region_with ((go_at_call 45; refine (unhide HBE _ ?_).mono ?_; (have h := unhide HB1; exact (by repeat (first | with_reducible exact Below.refl _ _ | with_reducible exact h | with_reducible refine Below.alloc ?_ (by first | omega | (simp; omega) | (simp; done)) _ | with_reducible refine Below.setCell ?_ (by first | omega | (simp; omega) | (simp; done)) _ | with_reducible refine Below.drew ?_ | with_reducible refine below_drewN ?_ _))); rintro e w2 ⟨rfl, hb2⟩))
  all_goals (
      go_wp2
      go_ret3
      go_simp
      try simp (disch := omega) only [IntWalk.u64_in]
      have hbw : Below w.heap.size w _ := Below.trans (by have h := unhide HB1; exact (by repeat (first | with_reducible exact Below.refl _ _ | with_reducible exact h | with_reducible refine Below.alloc ?_ (by first | omega | (simp; omega) | (simp; done)) _ | with_reducible refine Below.setCell ?_ (by first | omega | (simp; omega) | (simp; done)) _ | with_reducible refine Below.drew ?_ | with_reducible refine below_drewN ?_ _))) (hb2.mono (by have := unhide HB1; have := this.size; simp; omega))
      exact SizeR.okI (s := s) (a := 2 * q) (x := (s : Int)) (y := 2 * (q : Int)) hbw (by omega) (by omega))
end Go.Proofs.YtpmcljjhjjmlfaaDoor
