/-
  impl.written: values are written one behind the other. Conditions: at most 100 values, each of at most 70000 bytes; what writes one is given by its contract.
-/
import Derived.Test.YtapkehellkdkjaaNewWriter
namespace Go.Proofs.Ytapkehellkdkjaa
set_option linter.unusedSimpArgs false
set_option linter.unusedVariables false
set_option linter.unusedVariables false
open Go.RowKit
/-- The bytes of all values. -/
def encs {α : Type} (enc : α → List UInt8) (xs : List α) : List UInt8 := (xs.map enc).flatten
theorem encs_snoc {α : Type} (enc : α → List UInt8) (xs : List α) (k : Nat) (h : k < xs.length) : encs enc (xs.take (k + 1)) = encs enc (xs.take k) ++ enc xs[k] := by
  unfold encs
  rw [List.take_succ_eq_append_getElem h, List.map_append, List.flatten_append]
  simp
theorem encs_len {α : Type} (enc : α → List UInt8) (c : Nat) (hc : ∀ x, (enc x).length ≤ c) : ∀ (xs : List α), (encs enc xs).length ≤ c * xs.length
  | [] => by simp [encs]
  | x :: xs => by
    have h1 := hc x
    have h2 := encs_len enc c hc xs
    unfold encs at h2 ⊢
    rw [List.map_cons, List.flatten_cons, List.length_append, List.length_cons, Nat.mul_succ]
    omega
/-- What a writer of a list answers. -/
def Written (bs : List UInt8) (w : World) (e : Ending) (w' : World) : Prop :=
  ∃ A c, e = .returned (.tuple #[.slice A bs.length c, .bool true]) ∧ bs.length ≤ c ∧ c ≤ maxLen ∧ RB w' (fun b => w.heap.size ≤ b ∧ b < w'.heap.size) A bs ∧ Below w.heap.size w w'
def WrittenRel {α : Type} (enc : α → List UInt8) (w : World) (z : Nat) (xs : List α) (i : Value) (wr : World) : Prop :=
  ∃ k : Nat, k ≤ xs.length ∧ i = .int .i64 k ∧ WrAny wr w.heap.size (w.heap.size + 1) (w.heap.size + 1 + 1) z (encs enc (xs.take k)) ∧ Below w.heap.size w wr
set_option maxRecDepth 100000 in
set_option maxHeartbeats 1600000 in
theorem written_closTextHead (z : Nat) (hz1 : 18 ≤ z) (hz2 : z ≤ 65536) (S : Nat → Prop) (A : Option Addr) (xs : List Int) (n c : Nat) (w : World) (hn : n = xs.length) (hr : Reads w S 1 A n (xs.map (Value.int .u32))) (hS : Old w S) (hx : ∀ x ∈ xs, 0 ≤ x ∧ x ≤ 4294967295) (hl : n ≤ 100) (hc : n ≤ c) :
    Calls Try.prog 12 #[.int .i64 z, .slice A n c, .func (.func 13) #[] #[]] w (Written (encs encT xs) w) := by
  have hz3 : (0 : Int) ≤ z := by omega
  have HN := hide hn
  have HR := hide hr
  have HX := hide hx
  clear hn hr hx
  go_enter Try.func12, Try.ntmps12
  go_wp2_with (go_at_call 23; go_loud (refine (newWriter w.heap.size z _ hz1 hz2 (by simp) (Blk.new w _ _)).mono ?_; rintro e w1 ⟨rfl, hw1, hb1⟩))
  have hbw : Below w.heap.size w w1 := Below.trans (by repeat (first | with_reducible exact Below.refl _ _ | with_reducible exact x | with_reducible refine Below.alloc ?_ (by first | omega | (simp; omega) | (simp; done)) _ | with_reducible refine Below.setCell ?_ (by first | omega | (simp; omega) | (simp; done)) _ | with_reducible refine Below.drew ?_ | with_reducible refine below_drewN ?_ _)) (hb1.mono (by simp))
  have hw2 : WrAny w1 w.heap.size (w.heap.size + 1) (w.heap.size + 1 + 1) z [] := by simpa using hw1
  have HW2 := hide hw2
  have HBW := hide hbw
  clear hw1 hb1 hw2 hbw
  go_loopw [19] (fun i wr => WrittenRel encT w z xs i wr) (fun i _ => n - (intOf i).toNat)
  case atStart => exact ⟨0, Nat.zero_le _, rfl, unhide HW2, unhide HBW⟩
  case round =>
    obtain ⟨k, hk, rfl, hany, hbel⟩ := hrel
    have hnx := unhide HN
    have hlen := encs_len encT 9 (fun x => (encT_len x).1) (xs.take k)
    rw [List.length_take] at hlen
    have hlen2 : (encs encT (xs.take k)).length ≤ 1099511627776 := by omega
    by_cases hlt : k < n
    · have hkx : k < xs.length := by omega
      obtain ⟨ad, u, hA, hSad, hu, hcell⟩ := Reads.at_ (unhide HR) hlt
      subst hA
      have hux : u = .int .u32 xs[k] := by
        rw [List.getElem?_map, List.getElem?_eq_getElem hkx] at hu
        exact (Option.some.inj hu).symm
      subst hux
      have hbd0 := unhide HX xs[k] (List.getElem_mem hkx)
      obtain ⟨x, hcr, hbd, HF1, HS1⟩ : ∃ x : Int, wr.cell? (ad.add k) = some (.int .u32 x) ∧ (0 ≤ x ∧ x ≤ 4294967295) ∧ Hid (Calls Try.prog 13 #[.pointer (some ⟨w.heap.size + 1 + 1, 0, none⟩), .int .u32 x] wr (WrP w.heap.size (w.heap.size + 1) (w.heap.size + 1 + 1) z (encs encT (xs.take k) ++ encT x) wr)) ∧ Hid (encs encT (xs.take (k + 1)) = encs encT (xs.take k) ++ encT x) :=
        ⟨xs[k], (World.cell?_of_block (hbel.block _ (by rw [block_of_add]; exact hS _ hSad))).trans hcell, hbd0, closTextHead_any w.heap.size (w.heap.size + 1) (w.heap.size + 1 + 1) z (encs encT (xs.take k)) xs[k] hbd0.1 hbd0.2 wr hany hlen2, encs_snoc encT xs k hkx⟩
      clear hnx hu hcell hlen hany hkx hbd0
      have hlt2 : (k : Int) < (n : Int) := by omega
      have hk0 : (0 : Int) ≤ (k : Int) := by omega
      go_wp2_with (go_at_call 13; go_loud (refine (unhide HF1).mono ?_; rintro e w3 ⟨rfl, h1', h2'⟩; have H1 := hide h1'; have H2 := hide (hbel.trans (h2'.mono (by have := hbel.size; omega))); clear h1' h2'))
      go_roundw
      case rel => exact ⟨k + 1, by have := unhide HN; omega, by go_num, by rw [unhide HS1]; exact unhide H1, unhide H2⟩
      case measure => simp [intOf]; omega
    · obtain rfl : k = n := by omega
      have hall : xs.take k = xs := List.take_of_length_le (by omega)
      rw [hall] at hany hlen2
      obtain ⟨L, hL⟩ : ∃ L, L = encs encT xs := ⟨_, rfl⟩
      rw [← hL] at hany hlen2
      have HL := hide hL
      obtain ⟨done, pend, v, hdp, hst⟩ := hany
      have hF := Flush_any w.heap.size (w.heap.size + 1) (w.heap.size + 1 + 1) z done pend v wr hst (by rw [← List.length_append, hdp]; exact hlen2)
      rw [hdp] at hF
      have HF := hide hF
      have HB := hide hbel
      have hlt2 : ¬ (k : Int) < (k : Int) := by omega
      clear hnx hlen hall hL hst hdp hF
      go_wp2_with fail
      refine (unhide HF).mono ?_
      rintro e w3 ⟨v3, rfl, hst3, hb3⟩
      have c0 : w3.cell? ⟨w.heap.size, 0, none⟩ = some v3 := hst3.T.cell 0
      obtain ⟨A3, c3, rfl, hc3, hcm3, hr3⟩ := own_slice hst3.own
      have HST := hide hst3
      have HR3 := hide hr3
      have HB3 := hide hb3
      have hz3 := hst3.T.lt
      clear hst3 hr3 hb3
      go_wp2
      go_ret2
      have hb := unhide HB
      have hL := unhide HL
      subst hL
      refine ⟨A3, c3, rfl, hc3, hcm3, RB.sub (unhide HR3) (fun b hb2 => ⟨by have := hb2.1; omega, hb2.2⟩), hb.trans ((unhide HB3).mono (Nat.le_refl _))⟩
set_option maxRecDepth 100000 in
set_option maxHeartbeats 1600000 in
theorem written_closUint32 (z : Nat) (hz1 : 18 ≤ z) (hz2 : z ≤ 65536) (S : Nat → Prop) (A : Option Addr) (xs : List Int) (n c : Nat) (w : World) (hn : n = xs.length) (hr : Reads w S 1 A n (xs.map (Value.int .u32))) (hS : Old w S) (hx : ∀ x ∈ xs, 0 ≤ x ∧ x ≤ 4294967295) (hl : n ≤ 100) (hc : n ≤ c) :
    Calls Try.prog 12 #[.int .i64 z, .slice A n c, .func (.func 16) #[] #[]] w (Written (encs encU xs) w) := by
  have hz3 : (0 : Int) ≤ z := by omega
  have HN := hide hn
  have HR := hide hr
  have HX := hide hx
  clear hn hr hx
  go_enter Try.func12, Try.ntmps12
  go_wp2_with (go_at_call 23; go_loud (refine (newWriter w.heap.size z _ hz1 hz2 (by simp) (Blk.new w _ _)).mono ?_; rintro e w1 ⟨rfl, hw1, hb1⟩))
  have hbw : Below w.heap.size w w1 := Below.trans (by repeat (first | with_reducible exact Below.refl _ _ | with_reducible exact x | with_reducible refine Below.alloc ?_ (by first | omega | (simp; omega) | (simp; done)) _ | with_reducible refine Below.setCell ?_ (by first | omega | (simp; omega) | (simp; done)) _ | with_reducible refine Below.drew ?_ | with_reducible refine below_drewN ?_ _)) (hb1.mono (by simp))
  have hw2 : WrAny w1 w.heap.size (w.heap.size + 1) (w.heap.size + 1 + 1) z [] := by simpa using hw1
  have HW2 := hide hw2
  have HBW := hide hbw
  clear hw1 hb1 hw2 hbw
  go_loopw [19] (fun i wr => WrittenRel encU w z xs i wr) (fun i _ => n - (intOf i).toNat)
  case atStart => exact ⟨0, Nat.zero_le _, rfl, unhide HW2, unhide HBW⟩
  case round =>
    obtain ⟨k, hk, rfl, hany, hbel⟩ := hrel
    have hnx := unhide HN
    have hlen := encs_len encU 9 (fun x => (encU_len x).1) (xs.take k)
    rw [List.length_take] at hlen
    have hlen2 : (encs encU (xs.take k)).length ≤ 1099511627776 := by omega
    by_cases hlt : k < n
    · have hkx : k < xs.length := by omega
      obtain ⟨ad, u, hA, hSad, hu, hcell⟩ := Reads.at_ (unhide HR) hlt
      subst hA
      have hux : u = .int .u32 xs[k] := by
        rw [List.getElem?_map, List.getElem?_eq_getElem hkx] at hu
        exact (Option.some.inj hu).symm
      subst hux
      have hbd0 := unhide HX xs[k] (List.getElem_mem hkx)
      obtain ⟨x, hcr, hbd, HF1, HS1⟩ : ∃ x : Int, wr.cell? (ad.add k) = some (.int .u32 x) ∧ (0 ≤ x ∧ x ≤ 4294967295) ∧ Hid (Calls Try.prog 16 #[.pointer (some ⟨w.heap.size + 1 + 1, 0, none⟩), .int .u32 x] wr (WrP w.heap.size (w.heap.size + 1) (w.heap.size + 1 + 1) z (encs encU (xs.take k) ++ encU x) wr)) ∧ Hid (encs encU (xs.take (k + 1)) = encs encU (xs.take k) ++ encU x) :=
        ⟨xs[k], (World.cell?_of_block (hbel.block _ (by rw [block_of_add]; exact hS _ hSad))).trans hcell, hbd0, closUint32_any w.heap.size (w.heap.size + 1) (w.heap.size + 1 + 1) z (encs encU (xs.take k)) xs[k] hbd0.1 hbd0.2 wr hany hlen2, encs_snoc encU xs k hkx⟩
      clear hnx hu hcell hlen hany hkx hbd0
      have hlt2 : (k : Int) < (n : Int) := by omega
      have hk0 : (0 : Int) ≤ (k : Int) := by omega
      go_wp2_with (go_at_call 16; go_loud (refine (unhide HF1).mono ?_; rintro e w3 ⟨rfl, h1', h2'⟩; have H1 := hide h1'; have H2 := hide (hbel.trans (h2'.mono (by have := hbel.size; omega))); clear h1' h2'))
      go_roundw
      case rel => exact ⟨k + 1, by have := unhide HN; omega, by go_num, by rw [unhide HS1]; exact unhide H1, unhide H2⟩
      case measure => simp [intOf]; omega
    · obtain rfl : k = n := by omega
      have hall : xs.take k = xs := List.take_of_length_le (by omega)
      rw [hall] at hany hlen2
      obtain ⟨L, hL⟩ : ∃ L, L = encs encU xs := ⟨_, rfl⟩
      rw [← hL] at hany hlen2
      have HL := hide hL
      obtain ⟨done, pend, v, hdp, hst⟩ := hany
      have hF := Flush_any w.heap.size (w.heap.size + 1) (w.heap.size + 1 + 1) z done pend v wr hst (by rw [← List.length_append, hdp]; exact hlen2)
      rw [hdp] at hF
      have HF := hide hF
      have HB := hide hbel
      have hlt2 : ¬ (k : Int) < (k : Int) := by omega
      clear hnx hlen hall hL hst hdp hF
      go_wp2_with fail
      refine (unhide HF).mono ?_
      rintro e w3 ⟨v3, rfl, hst3, hb3⟩
      have c0 : w3.cell? ⟨w.heap.size, 0, none⟩ = some v3 := hst3.T.cell 0
      obtain ⟨A3, c3, rfl, hc3, hcm3, hr3⟩ := own_slice hst3.own
      have HST := hide hst3
      have HR3 := hide hr3
      have HB3 := hide hb3
      have hz3 := hst3.T.lt
      clear hst3 hr3 hb3
      go_wp2
      go_ret2
      have hb := unhide HB
      have hL := unhide HL
      subst hL
      refine ⟨A3, c3, rfl, hc3, hcm3, RB.sub (unhide HR3) (fun b hb2 => ⟨by have := hb2.1; omega, hb2.2⟩), hb.trans ((unhide HB3).mono (Nat.le_refl _))⟩
set_option maxRecDepth 100000 in
set_option maxHeartbeats 1600000 in
theorem written_closInt32 (z : Nat) (hz1 : 18 ≤ z) (hz2 : z ≤ 65536) (S : Nat → Prop) (A : Option Addr) (xs : List Int) (n c : Nat) (w : World) (hn : n = xs.length) (hr : Reads w S 1 A n (xs.map (Value.int .i32))) (hS : Old w S) (hx : ∀ x ∈ xs, -2147483648 ≤ x ∧ x ≤ 2147483647) (hl : n ≤ 100) (hc : n ≤ c) :
    Calls Try.prog 20 #[.int .i64 z, .slice A n c, .func (.func 21) #[] #[]] w (Written (encs encI xs) w) := by
  have hz3 : (0 : Int) ≤ z := by omega
  have HN := hide hn
  have HR := hide hr
  have HX := hide hx
  clear hn hr hx
  go_enter Try.func20, Try.ntmps20
  go_wp2_with (go_at_call 23; go_loud (refine (newWriter w.heap.size z _ hz1 hz2 (by simp) (Blk.new w _ _)).mono ?_; rintro e w1 ⟨rfl, hw1, hb1⟩))
  have hbw : Below w.heap.size w w1 := Below.trans (by repeat (first | with_reducible exact Below.refl _ _ | with_reducible exact x | with_reducible refine Below.alloc ?_ (by first | omega | (simp; omega) | (simp; done)) _ | with_reducible refine Below.setCell ?_ (by first | omega | (simp; omega) | (simp; done)) _ | with_reducible refine Below.drew ?_ | with_reducible refine below_drewN ?_ _)) (hb1.mono (by simp))
  have hw2 : WrAny w1 w.heap.size (w.heap.size + 1) (w.heap.size + 1 + 1) z [] := by simpa using hw1
  have HW2 := hide hw2
  have HBW := hide hbw
  clear hw1 hb1 hw2 hbw
  go_loopw [19] (fun i wr => WrittenRel encI w z xs i wr) (fun i _ => n - (intOf i).toNat)
  case atStart => exact ⟨0, Nat.zero_le _, rfl, unhide HW2, unhide HBW⟩
  case round =>
    obtain ⟨k, hk, rfl, hany, hbel⟩ := hrel
    have hnx := unhide HN
    have hlen := encs_len encI 9 (fun x => (encI_len x).1) (xs.take k)
    rw [List.length_take] at hlen
    have hlen2 : (encs encI (xs.take k)).length ≤ 1099511627776 := by omega
    by_cases hlt : k < n
    · have hkx : k < xs.length := by omega
      obtain ⟨ad, u, hA, hSad, hu, hcell⟩ := Reads.at_ (unhide HR) hlt
      subst hA
      have hux : u = .int .i32 xs[k] := by
        rw [List.getElem?_map, List.getElem?_eq_getElem hkx] at hu
        exact (Option.some.inj hu).symm
      subst hux
      have hbd0 := unhide HX xs[k] (List.getElem_mem hkx)
      obtain ⟨x, hcr, hbd, HF1, HS1⟩ : ∃ x : Int, wr.cell? (ad.add k) = some (.int .i32 x) ∧ (-2147483648 ≤ x ∧ x ≤ 2147483647) ∧ Hid (Calls Try.prog 21 #[.pointer (some ⟨w.heap.size + 1 + 1, 0, none⟩), .int .i32 x] wr (WrP w.heap.size (w.heap.size + 1) (w.heap.size + 1 + 1) z (encs encI (xs.take k) ++ encI x) wr)) ∧ Hid (encs encI (xs.take (k + 1)) = encs encI (xs.take k) ++ encI x) :=
        ⟨xs[k], (World.cell?_of_block (hbel.block _ (by rw [block_of_add]; exact hS _ hSad))).trans hcell, hbd0, closInt32_any w.heap.size (w.heap.size + 1) (w.heap.size + 1 + 1) z (encs encI (xs.take k)) xs[k] hbd0.1 hbd0.2 wr hany hlen2, encs_snoc encI xs k hkx⟩
      clear hnx hu hcell hlen hany hkx hbd0
      have hlt2 : (k : Int) < (n : Int) := by omega
      have hk0 : (0 : Int) ≤ (k : Int) := by omega
      go_wp2_with (go_at_call 21; go_loud (refine (unhide HF1).mono ?_; rintro e w3 ⟨rfl, h1', h2'⟩; have H1 := hide h1'; have H2 := hide (hbel.trans (h2'.mono (by have := hbel.size; omega))); clear h1' h2'))
      go_roundw
      case rel => exact ⟨k + 1, by have := unhide HN; omega, by go_num, by rw [unhide HS1]; exact unhide H1, unhide H2⟩
      case measure => simp [intOf]; omega
    · obtain rfl : k = n := by omega
      have hall : xs.take k = xs := List.take_of_length_le (by omega)
      rw [hall] at hany hlen2
      obtain ⟨L, hL⟩ : ∃ L, L = encs encI xs := ⟨_, rfl⟩
      rw [← hL] at hany hlen2
      have HL := hide hL
      obtain ⟨done, pend, v, hdp, hst⟩ := hany
      have hF := Flush_any w.heap.size (w.heap.size + 1) (w.heap.size + 1 + 1) z done pend v wr hst (by rw [← List.length_append, hdp]; exact hlen2)
      rw [hdp] at hF
      have HF := hide hF
      have HB := hide hbel
      have hlt2 : ¬ (k : Int) < (k : Int) := by omega
      clear hnx hlen hall hL hst hdp hF
      go_wp2_with fail
      refine (unhide HF).mono ?_
      rintro e w3 ⟨v3, rfl, hst3, hb3⟩
      have c0 : w3.cell? ⟨w.heap.size, 0, none⟩ = some v3 := hst3.T.cell 0
      obtain ⟨A3, c3, rfl, hc3, hcm3, hr3⟩ := own_slice hst3.own
      have HST := hide hst3
      have HR3 := hide hr3
      have HB3 := hide hb3
      have hz3 := hst3.T.lt
      clear hst3 hr3 hb3
      go_wp2
      go_ret2
      have hb := unhide HB
      have hL := unhide HL
      subst hL
      refine ⟨A3, c3, rfl, hc3, hcm3, RB.sub (unhide HR3) (fun b hb2 => ⟨by have := hb2.1; omega, hb2.2⟩), hb.trans ((unhide HB3).mono (Nat.le_refl _))⟩
end Go.Proofs.Ytapkehellkdkjaa
