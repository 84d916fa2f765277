/-
  laws.headsInOrder over the heads of texts that a Writer wrote. Conditions: at most 100 numbers of 32 bits.
-/
import Derived.Test.YtapkehellkdkjaaTakeHead
import Derived.Test.YtapkehellkdkjaaWritten
import Derived.Test.YtapkehellkdkjaaSPut
namespace Go.Proofs.Ytapkehellkdkjaa
set_option linter.unusedSimpArgs false
set_option linter.unusedVariables false
set_option linter.unusedVariables false
open Go.RowKit
def HdRel (w : World) (S : Nat → Prop) (xs : List Int) (d i : Value) (wr : World) : Prop :=
  ∃ (k : Nat) (A : Option Addr) (n c : Nat), i = .int .i64 k ∧ d = .slice A n c ∧ k ≤ xs.length ∧ n = (encs encT (xs.drop k)).length ∧ n ≤ c ∧ c ≤ 9223372036854775807 ∧ RB wr S A (encs encT (xs.drop k)) ∧ Below w.heap.size w wr
set_option maxRecDepth 100000 in
set_option maxHeartbeats 1600000 in
theorem headsInOrder_any (S S2 : Nat → Prop) (A : Option Addr) (n c : Nat) (K : Option Addr) (xs : List Int) (m kc : Nat) (w : World) (hn : n = (encs encT xs).length) (hr : RB w S A (encs encT xs)) (hc : n ≤ c) (hcm : c ≤ 9223372036854775807) (hS : Old w S) (hm : m = xs.length) (hk : Reads w S2 1 K m (xs.map (Value.int .u32))) (hx : ∀ x ∈ xs, 0 ≤ x ∧ x ≤ 4294967295) (hS2 : Old w S2) (hmk : m ≤ kc) (hm100 : m ≤ 100) :
    Calls Try.prog 8 #[.slice A n c, .bool true, .int .i64 6, .slice K m kc] w (TrueR w) := by
  have HN := hide hn
  have HR := hide hr
  have HM := hide hm
  have HX := hide hx
  clear hn hr hm hx
  go_enter Try.func8, Try.ntmps8
  go_wp2
  go_loopw [0, 17] (fun d i wr => HdRel w S xs d i wr) (fun _ i _ => m - (intOf i).toNat)
  case atStart => exact ⟨0, A, n, c, rfl, rfl, Nat.zero_le _, unhide HN, hc, hcm, unhide HR, Below.refl _ _⟩
  case round =>
    obtain ⟨k, A', n', c', rfl, rfl, hkl, hn', hnc', hcm', hrr, hbel⟩ := hrel
    have hold : Old wr S := old_below hbel hS
    have hmm := unhide HM
    by_cases hlt : k < m
    · have hkx : k < xs.length := by omega
      obtain ⟨ad, u, rfl, hSb, hu, hcell⟩ := hk.at_ hlt
      have hux : u = .int .u32 xs[k] := by
        rw [List.getElem?_map, List.getElem?_eq_getElem hkx] at hu
        exact (Option.some.inj hu).symm
      subst hux
      have hbd := unhide HX xs[k] (List.getElem_mem hkx)
      have hen : encs encT (xs.drop k) = encT xs[k] ++ encs encT (xs.drop (k + 1)) := by
        rw [List.drop_eq_getElem_cons hkx]
        rfl
      have l0 := hS2 _ hSb
      replace hcell : wr.cell? (ad.add k) = some (.int .u32 xs[k]) := (World.cell?_of_block (hbel.block _ (by rw [block_of_add]; exact l0))).trans hcell
      generalize xs[k] = x at *
      obtain ⟨z, rfl⟩ := Int.eq_ofNat_of_zero_le hbd.1
      have hT := fun (W : World) (h1 : RB W S A' (encs encT (xs.drop k))) (h2 : Old W S) => takeHead_T z hbd.1 hbd.2 S A' _ _ n' c' W hen h1 hn' hnc' hcm' h2
      simp only [Int.toNat_natCast] at hT
      generalize encs encT (xs.drop k) = bs at *
      have HT := hide (hT wr hrr hold)
      have HBEL := hide hbel
      have hk0 : (0 : Int) ≤ (k : Int) := by omega
      have hk1 : (k : Int) < (m : Int) := by omega
      have hz : (z : Int) ≤ 4294967295 := hbd.2
      clear hT hrr hn' hen hbd hu hmm hbel hold
      go_wp2_with (go_at_call 15; go_loud (refine (unhide HT).mono ?_; rintro e w1 ⟨A1, n1, c1, rfl, hn1, hc1, hcm1, hr1, hb1⟩; have HN1 := hide hn1; have HR1 := hide hr1; have HB1 := hide ((unhide HBEL).trans (hb1.mono (unhide HBEL).size)); clear hn1 hr1 hb1))
      go_roundw
      case rel => exact ⟨k + 1, A1, n1, c1, by go_num, rfl, by omega, unhide HN1, hc1, hcm1, unhide HR1, unhide HB1⟩
      case measure => simp [intOf]; omega
    · have hkm : k = xs.length := by omega
      rw [hkm, List.drop_length] at hn'
      have hn0 : n' = 0 := by rw [hn']; rfl
      subst hn0
      have hk1 : ¬ (k : Int) < (m : Int) := by omega
      have HB := hide hbel
      clear hn' hkm hmm hbel hrr
      go_wp2
      go_ret
      exact ⟨rfl, unhide HB⟩
end Go.Proofs.Ytapkehellkdkjaa
