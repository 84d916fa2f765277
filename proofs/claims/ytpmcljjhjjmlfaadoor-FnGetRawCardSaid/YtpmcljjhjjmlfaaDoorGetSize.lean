/-
  msgp.getSize: how many bytes a value has, and how many values stand in it. Conditions: the data read as bytes; msgp.ErrShortBytes is not nil.
-/
import Derived.Test.YtpmcljjhjjmlfaaDoorSpec2
import Derived.Test.YtpmcljjhjjmlfaaDoorGetV
import Derived.IntWalk
namespace Go.Proofs.YtpmcljjhjjmlfaaDoor
set_option linter.unusedSimpArgs false
set_option linter.unusedVariables false
set_option linter.unusedVariables false
open Go.RowKit
def bsz (b : Nat) : Nat := (bspec b).1.toNat
def bmd (b : Nat) : Int := (bspec b).2.1
def bty (b : Nat) : Nat := (bspec b).2.2.toNat
theorem bspec_pos : ((List.range 256).all fun b => decide (0 ≤ (bspec b).1) && decide (0 ≤ (bspec b).2.2)) = true := by kernel_rfl
theorem bytespec_any (b : Nat) (hb : b < 256) (w : World) : Calls Tryd.prog 57 #[.int .u8 b] w fun e w' => e = .returned (.agg #[.int .u8 (bsz b : Nat), .int .i8 (bmd b), .int .u8 (bty b : Nat), .int .u8 0]) ∧ Below w.heap.size w w' := by
  have h := List.all_eq_true.1 bspec_pos b (List.mem_range.2 hb)
  simp only [Bool.and_eq_true, decide_eq_true_eq] at h
  have h2 := getBytespec_any b hb w
  rw [show specV b = (.agg #[.int .u8 (bsz b : Nat), .int .i8 (bmd b), .int .u8 (bty b : Nat), .int .u8 0] : Value) by unfold bsz bmd bty specV; rw [Int.toNat_of_nonneg h.1, Int.toNat_of_nonneg h.2]] at h2
  exact h2
def getSz : List UInt8 → Option (Nat × Nat)
  | [] => none
  | b :: r =>
    if bsz b.toNat = 0 then none else if 0 ≤ bmd b.toNat then some (bsz b.toNat, (bmd b.toNat).toNat) else if r.length + 1 < bsz b.toNat then none else
    if bmd b.toNat = -1 then some (bsz b.toNat + bigU (r.take 1), 0) else if bmd b.toNat = -2 then some (bsz b.toNat + bigU (r.take 2), 0) else if bmd b.toNat = -3 then some (bsz b.toNat + bigU (r.take 4), 0) else
    if bmd b.toNat = -4 then some (bsz b.toNat, 2 * bigU (r.take 2)) else if bmd b.toNat = -5 then some (bsz b.toNat, 2 * bigU (r.take 4)) else if bmd b.toNat = -6 then some (bsz b.toNat, bigU (r.take 2)) else some (bsz b.toNat, bigU (r.take 4))
theorem bmd_facts : ((List.range 256).all fun b => decide (bsz b ≤ 32) && decide (-7 ≤ bmd b) && decide (bmd b ≤ 30) && (decide (bmd b ≠ -1) || decide (2 ≤ bsz b)) && (decide (bmd b ≠ -2 ∧ bmd b ≠ -4 ∧ bmd b ≠ -6) || decide (3 ≤ bsz b)) && (decide (bmd b ≠ -3 ∧ bmd b ≠ -5 ∧ bmd b ≠ -7) || decide (5 ≤ bsz b))) = true := by kernel_rfl
theorem bmd_of (b : Nat) (hb : b < 256) : bsz b ≤ 32 ∧ -7 ≤ bmd b ∧ bmd b ≤ 30 ∧ (bmd b = -1 → 2 ≤ bsz b) ∧ (bmd b = -2 ∨ bmd b = -4 ∨ bmd b = -6 → 3 ≤ bsz b) ∧ (bmd b = -3 ∨ bmd b = -5 ∨ bmd b = -7 → 5 ≤ bsz b) := by
  have h := List.all_eq_true.1 bmd_facts b (List.mem_range.2 hb)
  simp only [Bool.and_eq_true, Bool.or_eq_true, decide_eq_true_eq] at h
  omega
/-- What getSize answers. -/
def SizeR (r : Option (Nat × Nat)) (w : World) (e : Ending) (w' : World) : Prop :=
  Below w.heap.size w w' ∧ match r with
  | none => ∃ x y t v, e = .returned (.tuple #[.int .u64 x, .int .u64 y, .iface t v])
  | some (s, a) => e = .returned (.tuple #[.int .u64 (s : Nat), .int .u64 (a : Nat), .nilIface])
theorem SizeR.err {w w' : World} {x y : Int} {t : TypeId} {v : Value} (h : Below w.heap.size w w') : SizeR none w (.returned (.tuple #[.int .u64 x, .int .u64 y, .iface t v])) w' := ⟨h, _, _, _, _, rfl⟩
theorem SizeR.okI {w w' : World} {s a : Nat} {x y : Int} (h : Below w.heap.size w w') (hx : x = (s : Nat)) (hy : y = (a : Nat)) : SizeR (some (s, a)) w (.returned (.tuple #[.int .u64 x, .int .u64 y, .nilIface])) w' := by subst hx hy; exact ⟨h, rfl⟩
theorem SizeR.ok {w w' : World} {s a : Nat} (h : Below w.heap.size w w') : SizeR (some (s, a)) w (.returned (.tuple #[.int .u64 (s : Nat), .int .u64 (a : Nat), .nilIface])) w' := ⟨h, rfl⟩
set_option maxRecDepth 100000 in
set_option maxHeartbeats 800000 in
theorem getSize_nil (A : Option Addr) (c : Nat) (w : World) (hE : ErrAt w) : Calls Tryd.prog 65 #[.slice A 0 c] w (SizeR none w) := by
  obtain ⟨te, ve, hce⟩ := hE
  go_enter Tryd.func65, Tryd.ntmps65
  go_wp2
  go_region
  go_wp2
  go_ret3
  exact .err (Below.refl _ _).drew
set_option maxRecDepth 100000 in
set_option maxHeartbeats 3200000 in
theorem getSize_zero (S : Nat → Prop) (A : Option Addr) (x s t : Nat) (m : Int) (b : UInt8) (r : List UInt8) (c : Nat) (w : World) (hE : ErrAt w) (hr : RB w S A (b :: r)) (hc : r.length + 1 ≤ c) (hcm : c ≤ 9223372036854775807) (hS : Old w S) (hx : b.toNat = x) (hbs : ∀ w, Calls Tryd.prog 57 #[.int .u8 x] w fun e w' => e = .returned (.agg #[.int .u8 (s : Nat), .int .i8 m, .int .u8 (t : Nat), .int .u8 0]) ∧ Below w.heap.size w w') (hs32 : s ≤ 32) (hm30 : m ≤ 30) (h0 : s = 0) :
    Calls Tryd.prog 65 #[.slice A (r.length + 1) c] w (SizeR none w) := by
  have HE := hide hE
  have hep := hE.pos
  obtain ⟨ad, rfl, hb, hc0⟩ := hr.at_ (k := 0) (by simp)
  simp only [u8, add_zero_, List.getElem_cons_zero] at hc0
  have hlt := hS _ hb
  rw [hx] at hc0
  have HBS := hide hbs
  subst h0
  clear hr hE hbs hx
  go_enter Tryd.func65, Tryd.ntmps65
  go_wp2_with fail
  refine (unhide HBS _).mono ?_
  rintro e w1 ⟨rfl, hb1⟩
  obtain ⟨te, ve, hce⟩ := (unhide HE).on hb1
  have HB1 := hide hb1
  have hz1 := hb1.size
  have hp1 : 0 < w1.heap.size := Nat.lt_of_lt_of_le hep hz1
  have hl1 : ad.block < w1.heap.size := Nat.lt_of_lt_of_le hlt hz1
  clear hb1
  go_wp2
  go_region
  go_wp2
  go_ret3
  exact .err (by have h := unhide HB1; exact (by repeat (first | with_reducible exact Below.refl _ _ | with_reducible exact h | with_reducible refine Below.alloc ?_ (by first | omega | (simp; omega) | (simp; done)) _ | with_reducible refine Below.setCell ?_ (by first | omega | (simp; omega) | (simp; done)) _ | with_reducible refine Below.drew ?_ | with_reducible refine below_drewN ?_ _)))
set_option maxRecDepth 100000 in
set_option maxHeartbeats 3200000 in
theorem getSize_pos (S : Nat → Prop) (A : Option Addr) (x s t : Nat) (m : Int) (b : UInt8) (r : List UInt8) (c : Nat) (w : World) (hE : ErrAt w) (hr : RB w S A (b :: r)) (hc : r.length + 1 ≤ c) (hcm : c ≤ 9223372036854775807) (hS : Old w S) (hx : b.toNat = x) (hbs : ∀ w, Calls Tryd.prog 57 #[.int .u8 x] w fun e w' => e = .returned (.agg #[.int .u8 (s : Nat), .int .i8 m, .int .u8 (t : Nat), .int .u8 0]) ∧ Below w.heap.size w w') (hs32 : s ≤ 32) (hm30 : m ≤ 30) (h0 : 0 < s) (h1 : 0 ≤ m) :
    Calls Tryd.prog 65 #[.slice A (r.length + 1) c] w (SizeR (some (s, m.toNat)) w) := by
  have HE := hide hE
  have hep := hE.pos
  obtain ⟨ad, rfl, hb, hc0⟩ := hr.at_ (k := 0) (by simp)
  simp only [u8, add_zero_, List.getElem_cons_zero] at hc0
  have hlt := hS _ hb
  rw [hx] at hc0
  have HBS := hide hbs
  obtain ⟨m, rfl⟩ := Int.eq_ofNat_of_zero_le h1
  have hs0 : ((s : Int) == 0) = false := by simp; omega
  simp only [Int.toNat_natCast]
  clear hr hE hbs hx
  go_enter Tryd.func65, Tryd.ntmps65
  go_wp2_with fail
  refine (unhide HBS _).mono ?_
  rintro e w1 ⟨rfl, hb1⟩
  obtain ⟨te, ve, hce⟩ := (unhide HE).on hb1
  have HB1 := hide hb1
  have hz1 := hb1.size
  have hp1 : 0 < w1.heap.size := Nat.lt_of_lt_of_le hep hz1
  have hl1 : ad.block < w1.heap.size := Nat.lt_of_lt_of_le hlt hz1
  clear hb1
  go_wp2
  go_region
  go_wp2
  go_ret3
  exact .ok (by have h := unhide HB1; exact (by repeat (first | with_reducible exact Below.refl _ _ | with_reducible exact h | with_reducible refine Below.alloc ?_ (by first | omega | (simp; omega) | (simp; done)) _ | with_reducible refine Below.setCell ?_ (by first | omega | (simp; omega) | (simp; done)) _ | with_reducible refine Below.drew ?_ | with_reducible refine below_drewN ?_ _)))
set_option maxRecDepth 100000 in
set_option maxHeartbeats 3200000 in
theorem getSize_short (S : Nat → Prop) (A : Option Addr) (x s t : Nat) (m : Int) (b : UInt8) (r : List UInt8) (c : Nat) (w : World) (hE : ErrAt w) (hr : RB w S A (b :: r)) (hc : r.length + 1 ≤ c) (hcm : c ≤ 9223372036854775807) (hS : Old w S) (hx : b.toNat = x) (hbs : ∀ w, Calls Tryd.prog 57 #[.int .u8 x] w fun e w' => e = .returned (.agg #[.int .u8 (s : Nat), .int .i8 m, .int .u8 (t : Nat), .int .u8 0]) ∧ Below w.heap.size w w') (hs32 : s ≤ 32) (hm30 : m ≤ 30) (h0 : 0 < s) (h1 : m < 0) (h2 : r.length + 1 < s) :
    Calls Tryd.prog 65 #[.slice A (r.length + 1) c] w (SizeR none w) := by
  have HE := hide hE
  have hep := hE.pos
  obtain ⟨ad, rfl, hb, hc0⟩ := hr.at_ (k := 0) (by simp)
  simp only [u8, add_zero_, List.getElem_cons_zero] at hc0
  have hlt := hS _ hb
  rw [hx] at hc0
  have HBS := hide hbs
  have hs0 : ((s : Int) == 0) = false := by simp; omega
  have h3 : ¬ (0 : Int) ≤ m := by omega
  have h4 : (r.length : Int) + 1 < (s : Int) := by omega
  clear hr hE hbs hx
  go_enter Tryd.func65, Tryd.ntmps65
  go_wp2_with fail
  refine (unhide HBS _).mono ?_
  rintro e w1 ⟨rfl, hb1⟩
  obtain ⟨te, ve, hce⟩ := (unhide HE).on hb1
  have HB1 := hide hb1
  have hz1 := hb1.size
  have hp1 : 0 < w1.heap.size := Nat.lt_of_lt_of_le hep hz1
  have hl1 : ad.block < w1.heap.size := Nat.lt_of_lt_of_le hlt hz1
  clear hb1
  go_wp2
  go_region
  go_wp2
  go_region
  go_wp2
  go_ret3
  exact .err (by have h := unhide HB1; exact (by repeat (first | with_reducible exact Below.refl _ _ | with_reducible exact h | with_reducible refine Below.alloc ?_ (by first | omega | (simp; omega) | (simp; done)) _ | with_reducible refine Below.setCell ?_ (by first | omega | (simp; omega) | (simp; done)) _ | with_reducible refine Below.drew ?_ | with_reducible refine below_drewN ?_ _)))
set_option maxRecDepth 100000 in
set_option maxHeartbeats 3200000 in
theorem getSize_m1 (S : Nat → Prop) (A : Option Addr) (x s t : Nat) (m : Int) (b : UInt8) (r : List UInt8) (c : Nat) (w : World) (hE : ErrAt w) (hr : RB w S A (b :: r)) (hc : r.length + 1 ≤ c) (hcm : c ≤ 9223372036854775807) (hS : Old w S) (hx : b.toNat = x) (hbs : ∀ w, Calls Tryd.prog 57 #[.int .u8 x] w fun e w' => e = .returned (.agg #[.int .u8 (s : Nat), .int .i8 m, .int .u8 (t : Nat), .int .u8 0]) ∧ Below w.heap.size w w') (hs32 : s ≤ 32) (hm30 : m ≤ 30) (h1 : m = -1) (h2 : s ≤ r.length + 1) (h0 : 2 ≤ s) :
    Calls Tryd.prog 65 #[.slice A (r.length + 1) c] w (SizeR (some (s + bigU (r.take 1), 0)) w) := by
  have HE := hide hE
  have hep := hE.pos
  obtain ⟨ad, rfl, hb, hc0⟩ := hr.at_ (k := 0) (by simp)
  simp only [u8, add_zero_, List.getElem_cons_zero] at hc0
  have hlt := hS _ hb
  rw [hx] at hc0
  have HBS := hide hbs
  subst h1
  have hs0 : ((s : Int) == 0) = false := by simp; omega
  have h4 : ¬ (r.length : Int) + 1 < (s : Int) := by omega
  have hi1 : (1 : Int) < (r.length : Int) + 1 := by omega
  have hc1 := (hr.at_ (k := 1) (by simp; omega))
  obtain ⟨ad_, had_, _, hc1⟩ := hc1
  obtain rfl := Option.some.inj had_
  have hq : bigU (r.take 1) = r[0].toNat := by
    rcases r with _ | ⟨b1, r1⟩
    · simp at h2; omega
    · simp [bigU]
  have hc1 : w.cell? ⟨ad.block, ad.off + 1, none⟩ = some (.int .u8 (r[0].toNat : Int)) := by simpa [u8, Addr.add] using hc1
  have hlq := r[0].toNat_lt
  rw [hq]
  clear hq
  generalize r[0].toNat = q at *
  clear hr hE hbs hx
  go_enter Tryd.func65, Tryd.ntmps65
  go_wp2_with fail
  refine (unhide HBS _).mono ?_
  rintro e w1 ⟨rfl, hb1⟩
  obtain ⟨te, ve, hce⟩ := (unhide HE).on hb1
  have HB1 := hide hb1
  have hz1 := hb1.size
  have hp1 : 0 < w1.heap.size := Nat.lt_of_lt_of_le hep hz1
  have hl1 : ad.block < w1.heap.size := Nat.lt_of_lt_of_le hlt hz1
  have hd1 : w1.cell? ⟨ad.block, ad.off + 1, none⟩ = some (.int .u8 (q : Int)) := (hb1.cell (p := ⟨ad.block, ad.off + 1, none⟩) hlt).trans hc1
  clear hb1
  go_wp2
  go_region
  go_wp2
  go_ret3
  exact SizeR.okI (x := (s : Int) + q) (y := 0) (by have h := unhide HB1; exact (by repeat (first | with_reducible exact Below.refl _ _ | with_reducible exact h | with_reducible refine Below.alloc ?_ (by first | omega | (simp; omega) | (simp; done)) _ | with_reducible refine Below.setCell ?_ (by first | omega | (simp; omega) | (simp; done)) _ | with_reducible refine Below.drew ?_ | with_reducible refine below_drewN ?_ _))) (by omega) rfl
end Go.Proofs.YtpmcljjhjjmlfaaDoor
