/-
  The closure of impl.StreamPutText, impl.written over texts. Conditions: at most 100 texts of at most 65536 bytes.
-/
import Derived.Test.YtapkehellkdkjaaDoorWriteStr3
import Derived.Test.YtapkehellkdkjaaDoorWritten
namespace Go.Proofs.YtapkehellkdkjaaDoor
set_option linter.unusedSimpArgs false
set_option linter.unusedVariables false
set_option linter.unusedVariables false
open Go.RowKit
/-- The bytes of a text. -/
def encS (s : List UInt8) : List UInt8 := encT ((s.length : Nat) : Int) ++ s
def strV (s : List UInt8) : Value := .string ⟨s.toArray⟩
theorem encS_len (s : List UInt8) (h : s.length ≤ 65536) : (encS s).length ≤ 65545 := by
  have := (encT_len ((s.length : Nat) : Int)).1
  unfold encS
  rw [List.length_append]
  omega
theorem encs_lenM {α : Type} (enc : α → List UInt8) (c : Nat) : ∀ (xs : List α), (∀ x ∈ xs, (enc x).length ≤ c) → (encs enc xs).length ≤ c * xs.length
  | [], _ => by simp [encs]
  | x :: xs, hc => by
    have h1 := hc x (by simp)
    have h2 := encs_lenM enc c xs fun y hy => hc y (by simp [hy])
    unfold encs at h2 ⊢
    rw [List.map_cons, List.flatten_cons, List.length_append, List.length_cons, Nat.mul_succ]
    omega
theorem WriteString_any (t b m z : Nat) (bs s : List UInt8) (hs : s.length ≤ 65536) (w : World) (h : WrAny w t b m z bs) (hl : bs.length + s.length ≤ 1099511000000) :
    Calls Tryd.prog 10 #[.pointer (some ⟨m, 0, none⟩), .string ⟨s.toArray⟩] w (WrP t b m z (bs ++ encS s) w) := by
  unfold encS encT
  split
  · exact WriteString_1 t b m z bs s (by omega) (by omega) w h hl
  split
  · exact WriteString_2 t b m z bs s (by omega) (by omega) w h hl
  split
  · exact WriteString_3 t b m z bs s (by omega) (by omega) w h hl
  · exact WriteString_5 t b m z bs s (by omega) (by omega) w h hl
theorem closText_any (t b m z : Nat) (bs s : List UInt8) (hs : s.length ≤ 65536) (w : World) (h : WrAny w t b m z bs) (hl : bs.length ≤ 6560000) :
    Calls Tryd.prog 9 #[.pointer (some ⟨m, 0, none⟩), .string ⟨s.toArray⟩] w (WrP t b m z (bs ++ encS s) w) := by
  have hW := WriteString_any t b m z bs s hs w h (by omega)
  have HW := hide hW
  clear h hW
  go_enter Tryd.func9, Tryd.ntmps9
  go_wp2_with (go_at_call 10; refine (unhide HW).mono ?_; rintro e w1 ⟨rfl, h1', h2'⟩; have H1 := hide h1'; have H2 := hide h2'; clear h1' h2')
  go_ret
  exact ⟨rfl, unhide H1, unhide H2⟩
set_option maxRecDepth 100000 in
set_option maxHeartbeats 1600000 in
theorem written_closText (z : Nat) (hz1 : 18 ≤ z) (hz2 : z ≤ 65536) (S : Nat → Prop) (A : Option Addr) (xs : List (List UInt8)) (n c : Nat) (w : World) (hn : n = xs.length) (hr : Reads w S 1 A n (xs.map strV)) (hS : Old w S) (hx : ∀ x ∈ xs, x.length ≤ 65536) (hl : n ≤ 100) (hc : n ≤ c) :
    Calls Tryd.prog 8 #[.int .i64 z, .slice A n c, .func (.func 9) #[] #[]] w (Written (encs encS xs) w) := by
  have hz3 : (0 : Int) ≤ z := by omega
  have HN := hide hn
  have HR := hide hr
  have HX := hide hx
  clear hn hr hx
  go_enter Tryd.func8, Tryd.ntmps8
  go_wp2_with (go_at_call 13; go_loud (refine (newWriter w.heap.size z _ hz1 hz2 (by simp) (Blk.new w _ _)).mono ?_; rintro e w1 ⟨rfl, hw1, hb1⟩))
  have hbw : Below w.heap.size w w1 := Below.trans (by repeat (first | with_reducible exact Below.refl _ _ | with_reducible exact x | with_reducible refine Below.alloc ?_ (by first | omega | (simp; omega) | (simp; done)) _ | with_reducible refine Below.setCell ?_ (by first | omega | (simp; omega) | (simp; done)) _ | with_reducible refine Below.drew ?_ | with_reducible refine below_drewN ?_ _)) (hb1.mono (by simp))
  have hw2 : WrAny w1 w.heap.size (w.heap.size + 1) (w.heap.size + 1 + 1) z [] := by simpa using hw1
  have HW2 := hide hw2
  have HBW := hide hbw
  clear hw1 hb1 hw2 hbw
  go_loopw [19] (fun i wr => WrittenRel encS w z xs i wr) (fun i _ => n - (intOf i).toNat)
  case atStart => exact ⟨0, Nat.zero_le _, rfl, unhide HW2, unhide HBW⟩
  case round =>
    obtain ⟨k, hk, rfl, hany, hbel⟩ := hrel
    have hnx := unhide HN
    have hlen := encs_lenM encS 65545 (xs.take k) (fun x hx => encS_len x (unhide HX x (List.mem_of_mem_take hx)))
    rw [List.length_take] at hlen
    have hlen2 : (encs encS (xs.take k)).length ≤ 6560000 := by omega
    by_cases hlt : k < n
    · have hkx : k < xs.length := by omega
      obtain ⟨ad, u, hA, hSad, hu, hcell⟩ := Reads.at_ (unhide HR) hlt
      subst hA
      have hux : u = .string ⟨(xs[k]).toArray⟩ := by
        rw [List.getElem?_map, List.getElem?_eq_getElem hkx] at hu
        exact (Option.some.inj hu).symm
      subst hux
      have hbd0 := unhide HX xs[k] (List.getElem_mem hkx)
      obtain ⟨x, hcr, hbd, HF1, HS1⟩ : ∃ x : List UInt8, wr.cell? (ad.add k) = some (.string ⟨x.toArray⟩) ∧ (x.length ≤ 65536) ∧ Hid (Calls Tryd.prog 9 #[.pointer (some ⟨w.heap.size + 1 + 1, 0, none⟩), .string ⟨x.toArray⟩] wr (WrP w.heap.size (w.heap.size + 1) (w.heap.size + 1 + 1) z (encs encS (xs.take k) ++ encS x) wr)) ∧ Hid (encs encS (xs.take (k + 1)) = encs encS (xs.take k) ++ encS x) :=
        ⟨xs[k], (World.cell?_of_block (hbel.block _ (by rw [block_of_add]; exact hS _ hSad))).trans hcell, hbd0, closText_any w.heap.size (w.heap.size + 1) (w.heap.size + 1 + 1) z (encs encS (xs.take k)) xs[k] hbd0 wr hany (by omega), encs_snoc encS xs k hkx⟩
      clear hnx hu hcell hlen hany hkx hbd0
      have hlt2 : (k : Int) < (n : Int) := by omega
      have hk0 : (0 : Int) ≤ (k : Int) := by omega
      go_wp2_with (go_at_call 9; go_loud (refine (unhide HF1).mono ?_; rintro e w3 ⟨rfl, h1', h2'⟩; have H1 := hide h1'; have H2 := hide (hbel.trans (h2'.mono (by have := hbel.size; omega))); clear h1' h2'))
      go_roundw
      case rel => exact ⟨k + 1, by have := unhide HN; omega, by go_num, by rw [unhide HS1]; exact unhide H1, unhide H2⟩
      case measure => simp [intOf]; omega
    · obtain rfl : k = n := by omega
      have hall : xs.take k = xs := List.take_of_length_le (by omega)
      rw [hall] at hany hlen2
      obtain ⟨L, hL⟩ : ∃ L, L = encs encS xs := ⟨_, rfl⟩
      rw [← hL] at hany hlen2
      have HL := hide hL
      obtain ⟨done, pend, v, hdp, hst⟩ := hany
      have hF := Flush_any w.heap.size (w.heap.size + 1) (w.heap.size + 1 + 1) z done pend v wr hst (by rw [← List.length_append, hdp]; omega)
      rw [hdp] at hF
      have HF := hide hF
      have HB := hide hbel
      have hlt2 : ¬ (k : Int) < (k : Int) := by omega
      clear hnx hlen hall hL hst hdp hF
      go_wp2_with fail
      refine (unhide HF).mono ?_
      rintro e w3 ⟨v3, rfl, hst3, hb3⟩
      have c0 : w3.cell? ⟨w.heap.size, 0, none⟩ = some v3 := hst3.T.cell 0
      obtain ⟨A3, c3, rfl, hc3, hcm3, hr3⟩ := own_slice hst3.own
      have HST := hide hst3
      have HR3 := hide hr3
      have HB3 := hide hb3
      have hz3 := hst3.T.lt
      clear hst3 hr3 hb3
      go_wp2
      go_ret2
      have hb := unhide HB
      have hL := unhide HL
      subst hL
      refine ⟨A3, c3, rfl, hc3, hcm3, RB.sub (unhide HR3) (fun b hb2 => ⟨by have := hb2.1; omega, hb2.2⟩), hb.trans ((unhide HB3).mono (Nat.le_refl _))⟩
end Go.Proofs.YtapkehellkdkjaaDoor
