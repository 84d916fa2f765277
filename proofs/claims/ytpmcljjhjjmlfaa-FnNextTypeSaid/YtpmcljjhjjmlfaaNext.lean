/-
  msgp.NextType, impl.NextType, laws.nextKind. Conditions: the data read as bytes.
-/
import Derived.Test.YtpmcljjhjjmlfaaSpec2
import Derived.Test.YtpmcljjhjjmlfaaLead
import Derived.BigGuardPart
namespace Go.Proofs.Ytpmcljjhjjmlfaa
set_option linter.unusedSimpArgs false
set_option linter.unusedVariables false
set_option linter.unusedVariables false
open Go.RowKit
def nsz (b : Nat) : Nat := (bspec b).1.toNat
def nmd (b : Nat) : Int := (bspec b).2.1
def nty (b : Nat) : Nat := (bspec b).2.2.toNat
theorem nspec_pos : ((List.range 256).all fun b => decide (0 ≤ (bspec b).1) && decide (0 ≤ (bspec b).2.2) && decide ((bspec b).1 ≤ 32) && decide ((bspec b).2.2 ≤ 12)) = true := by kernel_rfl
theorem nspec_any (b : Nat) (hb : b < 256) (w : World) : Calls Try.prog 12 #[.int .u8 b] w fun e w' => e = .returned (.agg #[.int .u8 (nsz b : Nat), .int .i8 (nmd b), .int .u8 (nty b : Nat), .int .u8 0]) ∧ Below w.heap.size w w' := by
  have h := List.all_eq_true.1 nspec_pos b (List.mem_range.2 hb)
  simp only [Bool.and_eq_true, decide_eq_true_eq] at h
  have h2 := getBytespec_any b hb w
  rw [show specV b = (.agg #[.int .u8 (nsz b : Nat), .int .i8 (nmd b), .int .u8 (nty b : Nat), .int .u8 0] : Value) by unfold nsz nmd nty specV; rw [Int.toNat_of_nonneg h.1.1.1, Int.toNat_of_nonneg h.1.1.2]] at h2
  exact h2
/-- What NextType answers. -/
def TypeR (t : Nat) (w : World) (e : Ending) (w' : World) : Prop := e = .returned (.int .u8 (t : Nat)) ∧ Below w.heap.size w w'
theorem nextT_nil (A : Option Addr) (c : Nat) (w : World) : Calls Try.prog 8 #[.slice A 0 c] w (TypeR 0 w) := by
  go_enter Try.func8, Try.ntmps8
  go_wp2
  go_ret
  exact ⟨rfl, Below.refl _ _⟩
set_option maxRecDepth 100000 in
set_option maxHeartbeats 1600000 in
theorem nextT_plain (S : Nat → Prop) (A : Option Addr) (x s t : Nat) (m : Int) (b : UInt8) (r : List UInt8) (c : Nat) (w : World) (hr : RB w S A (b :: r)) (hS : Old w S) (hx : b.toNat = x) (hbs : ∀ w, Calls Try.prog 12 #[.int .u8 x] w fun e w' => e = .returned (.agg #[.int .u8 (s : Nat), .int .i8 m, .int .u8 (t : Nat), .int .u8 0]) ∧ Below w.heap.size w w') (ht : t ≠ 12) :
    Calls Try.prog 8 #[.slice A (r.length + 1) c] w (TypeR t w) := by
  obtain ⟨ad, rfl, hb, hc0⟩ := hr.at_ (k := 0) (by simp)
  simp only [u8, add_zero_, List.getElem_cons_zero] at hc0
  rw [hx] at hc0
  have HBS := hide hbs
  have h1 : ((t : Int) == 12) = false := by simp; omega
  clear hr hbs hx
  go_enter Try.func8, Try.ntmps8
  go_wp2_with fail
  refine (unhide HBS _).mono ?_
  rintro e w1 ⟨rfl, hb1⟩
  have HB1 := hide hb1
  have hz1 := hb1.size
  clear hb1
  go_wp2
  go_ret
  exact ⟨rfl, by have h := unhide HB1; exact (by repeat (first | with_reducible exact Below.refl _ _ | with_reducible exact h | with_reducible refine Below.alloc ?_ (by first | omega | (simp; omega) | (simp; done)) _ | with_reducible refine Below.setCell ?_ (by first | omega | (simp; omega) | (simp; done)) _ | with_reducible refine Below.drew ?_ | with_reducible refine below_drewN ?_ _))⟩
set_option maxRecDepth 100000 in
set_option maxHeartbeats 1600000 in
theorem nextT_ext0 (S : Nat → Prop) (A : Option Addr) (x s : Nat) (m : Int) (b : UInt8) (r : List UInt8) (c : Nat) (w : World) (hr : RB w S A (b :: r)) (hS : Old w S) (hx : b.toNat = x) (hbs : ∀ w, Calls Try.prog 12 #[.int .u8 x] w fun e w' => e = .returned (.agg #[.int .u8 (s : Nat), .int .i8 m, .int .u8 12, .int .u8 0]) ∧ Below w.heap.size w w') (hl : r.length + 1 ≤ s) (hs : s ≤ 32) :
    Calls Try.prog 8 #[.slice A (r.length + 1) c] w (TypeR 12 w) := by
  obtain ⟨ad, rfl, hb, hc0⟩ := hr.at_ (k := 0) (by simp)
  simp only [u8, add_zero_, List.getElem_cons_zero] at hc0
  rw [hx] at hc0
  have HBS := hide hbs
  have h1 : ¬ (s : Int) < (r.length : Int) + 1 := by omega
  clear hr hbs hx
  go_enter Try.func8, Try.ntmps8
  go_wp2_with fail
  refine (unhide HBS _).mono ?_
  rintro e w1 ⟨rfl, hb1⟩
  have HB1 := hide hb1
  have hz1 := hb1.size
  clear hb1
  go_wp2
  go_ret
  exact ⟨rfl, by have h := unhide HB1; exact (by repeat (first | with_reducible exact Below.refl _ _ | with_reducible exact h | with_reducible refine Below.alloc ?_ (by first | omega | (simp; omega) | (simp; done)) _ | with_reducible refine Below.setCell ?_ (by first | omega | (simp; omega) | (simp; done)) _ | with_reducible refine Below.drew ?_ | with_reducible refine below_drewN ?_ _))⟩
theorem wrap_i8n (y : Nat) (h : y < 128) : IntKind.i8.wrap (y : Int) = (y : Int) := by
  simp [IntKind.wrap, IntKind.bits, IntKind.signed]
  omega
set_option maxRecDepth 100000 in
set_option maxHeartbeats 1600000 in
theorem nextT_ext1 (S : Nat → Prop) (A : Option Addr) (x s y : Nat) (b b1 : UInt8) (r : List UInt8) (c : Nat) (w : World) (hr : RB w S A (b :: b1 :: r)) (hS : Old w S) (hx : b.toNat = x) (hy : b1.toNat = y) (hy2 : y < 128) (h3 : y ≠ 3) (h4 : y ≠ 4) (h5 : y ≠ 5) (hbs : ∀ w, Calls Try.prog 12 #[.int .u8 x] w fun e w' => e = .returned (.agg #[.int .u8 (s : Nat), .int .i8 0, .int .u8 12, .int .u8 0]) ∧ Below w.heap.size w w') (hl : s < r.length + 1 + 1) (hs : s ≤ 32) :
    Calls Try.prog 8 #[.slice A (r.length + 1 + 1) c] w (TypeR 12 w) := by
  obtain ⟨ad, rfl, hb, hc0⟩ := hr.at_ (k := 0) (by simp)
  obtain ⟨ad', had, _, hc1⟩ := hr.at_ (k := 1) (by simp)
  obtain rfl := Option.some.inj had
  simp only [u8, add_zero_, List.getElem_cons_zero] at hc0
  rw [hx] at hc0
  have hc1 : w.cell? ⟨ad.block, ad.off + 1, none⟩ = some (.int .u8 (y : Nat)) := by rw [← hy]; simpa [u8, Addr.add] using hc1
  have hlt := hS _ hb
  have HBS := hide hbs
  have h1 : (s : Int) < (r.length : Int) + 1 + 1 := by omega
  have hw := wrap_i8n y hy2
  have e3 : ((y : Int) == 3) = false := by simp; omega
  have e4 : ((y : Int) == 4) = false := by simp; omega
  have e5 : ((y : Int) == 5) = false := by simp; omega
  have e6 : ((y : Int) == -1) = false := by first | (simp; done) | (simp; omega)
  clear hr hbs hx hy had h3 h4 h5
  go_enter Try.func8, Try.ntmps8
  go_wp2_with fail
  refine (unhide HBS _).mono ?_
  rintro e w1 ⟨rfl, hb1⟩
  have HB1 := hide hb1
  have hz1 := hb1.size
  have hl1 : ad.block < w1.heap.size := Nat.lt_of_lt_of_le hlt hz1
  have hd1 : w1.cell? ⟨ad.block, ad.off + 1, none⟩ = some (.int .u8 (y : Nat)) := (hb1.cell (p := ⟨ad.block, ad.off + 1, none⟩) hlt).trans hc1
  clear hb1
  go_wp2
  go_ret
  exact ⟨rfl, by have h := unhide HB1; exact (by repeat (first | with_reducible exact Below.refl _ _ | with_reducible exact h | with_reducible refine Below.alloc ?_ (by first | omega | (simp; omega) | (simp; done)) _ | with_reducible refine Below.setCell ?_ (by first | omega | (simp; omega) | (simp; done)) _ | with_reducible refine Below.drew ?_ | with_reducible refine below_drewN ?_ _))⟩
set_option maxRecDepth 100000 in
set_option maxHeartbeats 1600000 in


set_option maxRecDepth 100000 in
set_option maxHeartbeats 1600000 in
theorem nextT_ext2 (S : Nat → Prop) (A : Option Addr) (x s y : Nat) (m : Int) (bs : List UInt8) (n c : Nat) (w : World) (hn : n = bs.length) (hr : RB w S A bs) (hS : Old w S) (hx0 : 0 < bs.length) (hx : bs[0].toNat = x) (hs2 : 2 ≤ s) (hs : s ≤ 32) (hy0 : s - 1 < bs.length) (hy : bs[s - 1].toNat = y) (hy2 : y < 128) (h3 : y ≠ 3) (h4 : y ≠ 4) (h5 : y ≠ 5) (hm : m < 0) (hbs : ∀ w, Calls Try.prog 12 #[.int .u8 x] w fun e w' => e = .returned (.agg #[.int .u8 (s : Nat), .int .i8 m, .int .u8 12, .int .u8 0]) ∧ Below w.heap.size w w') (hl : s < n) :
    Calls Try.prog 8 #[.slice A n c] w (TypeR 12 w) := by
  obtain ⟨ad, rfl, hb, hc0⟩ := hr.at_ (k := 0) hx0
  obtain ⟨ad', had, _, hcy⟩ := hr.at_ (k := s - 1) hy0
  obtain rfl := Option.some.inj had
  simp only [u8, add_zero_] at hc0
  rw [hx] at hc0
  obtain ⟨q, hq⟩ : ∃ q, q = s - 1 := ⟨_, rfl⟩
  have hc1 : w.cell? (ad.add q) = some (.int .u8 (y : Nat)) := by rw [hq, ← hy]; exact hcy
  clear hcy
  have hlt := hS _ hb
  have HBS := hide hbs
  have h1 : (s : Int) < (n : Int) := by omega
  have h2 : (s : Int) - 1 = (q : Nat) := by omega
  have h6 : (q : Int) < (n : Int) := by omega
  have h7 : (0 : Int) ≤ (q : Int) := by omega
  have hn0 : ((n : Int) == 0) = false := by simp; omega
  have hm0 : (m == 0) = false := by simp; omega
  have hw := wrap_i8n y hy2
  have e3 : ((y : Int) == 3) = false := by simp; omega
  have e4 : ((y : Int) == 4) = false := by simp; omega
  have e5 : ((y : Int) == 5) = false := by simp; omega
  have e6 : ((y : Int) == -1) = false := by first | (simp; done) | (simp; omega)
  have hs0 : (s : Int) ≤ 32 := by omega
  have hs1 : (2 : Int) ≤ (s : Int) := by omega
  clear hr hbs hx hy had h3 h4 h5 hn hy0 hx0 hq
  go_enter Try.func8, Try.ntmps8
  go_wp2_with fail
  refine (unhide HBS _).mono ?_
  rintro e w1 ⟨rfl, hb1⟩
  have HB1 := hide hb1
  have hz1 := hb1.size
  have hl1 : ad.block < w1.heap.size := Nat.lt_of_lt_of_le hlt hz1
  have hd1 : w1.cell? (ad.add q) = some (.int .u8 (y : Nat)) := (hb1.cell (p := ad.add q) (by rw [block_of_add]; exact hlt)).trans hc1
  have hd2 : (ad.add q).block = ad.block := block_of_add ad q
  clear hb1
  go_wp2
  go_ret
  exact ⟨rfl, by have h := unhide HB1; exact (by repeat (first | with_reducible exact Below.refl _ _ | with_reducible exact h | with_reducible refine Below.alloc ?_ (by first | omega | (simp; omega) | (simp; done)) _ | with_reducible refine Below.setCell ?_ (by first | omega | (simp; omega) | (simp; done)) _ | with_reducible refine Below.drew ?_ | with_reducible refine below_drewN ?_ _))⟩
end Go.Proofs.Ytpmcljjhjjmlfaa
