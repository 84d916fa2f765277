/-
  laws.inSet at string: the values of a list, each once, by their order. Conditions: at most 100.
-/
import Derived.Test.YtlnpiigdjjadiaaInSetP
import Derived.Test.YtlnpiigdjjadiaaSetS
namespace Go.Proofs.Ytlnpiigdjjadiaa
set_option linter.unusedSimpArgs false
set_option linter.unusedVariables false
set_option linter.unusedVariables false
open Go.RowKit
theorem infoS_string : (Try.prog.info? 9).map (fun i => (i.zero, i.size, i.bytes)) = some (some (.string ⟨#[]⟩), 1, 16) := by kernel_rfl
set_option maxRecDepth 100000 in
set_option maxHeartbeats 3200000 in
theorem inSet_string (S : Nat → Prop) (A : Option Addr) (zs : List Str) (n c : Nat) (w : World) (hn : n = zs.length) (hn2 : n ≤ 100) (hr : Reads w S 1 A n (zs.map encS)) (hS : Old w S) :
    Calls Try.prog 9 #[.slice A n c] w fun e w' => ∃ v, e = .returned v ∧ w'.ownsRow w.heap.size 9 1 v (setS zs).length ((setS zs).map encS) ∧ Below w.heap.size w w' := by
  obtain ⟨i0, hi0, hz0, hz1', hz2'⟩ := info_parts infoS_string
  have HN := hide hn
  have HR := hide hr
  clear hn hr
  go_enter Try.func9, Try.ntmps9
  go_wp2
  go_loopw [3, 10] (fun o i wr => ∃ (k : Nat) (K : Option Addr) (m kc : Nat), k ≤ n ∧ i = .int .i64 k ∧ o = .slice K m kc ∧ m = (setS (zs.take k)).length ∧ wr.ownsRow w.heap.size 9 1 (.slice K m kc) m ((setS (zs.take k)).map encS) ∧ Below w.heap.size w wr) (fun _ i _ => n - (intOf i).toNat)
  case atStart => exact ⟨0, _, 0, 0, Nat.zero_le _, rfl, rfl, by simp [setS], by have h := World.ownsRow_made (e := 9) (size := 1) w #[] 0 (Nat.le_refl _) (Nat.zero_le _) rfl; simpa [setS] using h, (by repeat (first | with_reducible exact Below.refl _ _ | with_reducible exact x | with_reducible refine Below.alloc ?_ (by first | omega | (simp; omega) | (simp; done)) _ | with_reducible refine Below.setCell ?_ (by first | omega | (simp; omega) | (simp; done)) _ | with_reducible refine Below.drew ?_ | with_reducible refine below_drewN ?_ _))⟩
  case round =>
    obtain ⟨k, K, m, kc, hk, rfl, rfl, hm, hown, hbel⟩ := hrel
    have hnx := unhide HN
    by_cases hlt : k < n
    · have hkx : k < zs.length := by omega
      obtain ⟨ad, u, rfl, hSb, hu, hcell0⟩ := (unhide HR).at_ hlt
      rw [List.getElem?_map, List.getElem?_eq_getElem hkx] at hu
      obtain rfl := Option.some.inj hu
      have hcell : wr.cell? (ad.add k) = some (encS zs[k]) := (World.cell?_of_block (hbel.block _ (by rw [block_of_add]; exact hS _ hSb))).trans hcell0
      have hset : setS (zs.take (k + 1)) = insS zs[k] (setS (zs.take k)) := by
        rw [List.take_succ_eq_append_getElem hkx]
        exact setS_snoc _ _
      have hml : m ≤ 100 := by
        have := setS_len (zs.take k)
        rw [List.length_take] at this
        omega
      generalize zs[k] = x at *
      generalize hys : setS (zs.take k) = ys at *
      obtain ⟨_, _, hv, hcv, hcmv, hRD⟩ := own_slice hown
      obtain ⟨rfl, _, rfl⟩ := Value.slice.inj hv
      have HOWN := hide hown
      have HBEL := hide hbel
      have HM := hide hm
      have HSET := hide hset
      have HRD := hide hRD
      have hk0 : (0 : Int) ≤ (k : Int) := by omega
      have hk1 : (k : Int) < (n : Int) := by omega
      unfold maxLen at hcmv
      clear hnx hu hcell0 hown hbel hm hset hRD hv hys
      obtain ⟨a, ha⟩ : ∃ a, a = aheadS x ys := ⟨_, rfl⟩
      have ham : a ≤ m := by rw [ha, unhide HM]; exact aheadS_le x ys
      have HAH := hide ha
      clear ha
      go_wp2_with fail
      go_loopw [6] (fun i wi => ∃ j : Nat, j ≤ a ∧ i = .int .i64 j ∧ wi = wr) (fun i _ => a - (intOf i).toNat)
      case atStart => exact ⟨0, Nat.zero_le _, rfl, rfl⟩
      case round =>
        obtain ⟨j, hj, rfl, rfl⟩ := hrel
        by_cases hja : j < a
        · obtain ⟨h2, h3⟩ := aheadS_lt x ys j (by rw [← unhide HAH]; exact hja)
          obtain ⟨kd, u2, rfl, _, hu2, hc2⟩ := (unhide HRD).at_ (k := j) (by rw [unhide HM]; exact h2)
          rw [List.getElem?_map, List.getElem?_eq_getElem h2] at hu2
          obtain rfl := Option.some.inj hu2
          have hjm : (j : Int) < (m : Int) := by have := unhide HM; omega
          have hj0 : (0 : Int) ≤ (j : Int) := by omega
          generalize ys[j] = y at *
          have hbl := less_yes h3
          clear hu2
          go_wp2_with fail
          go_roundw
          case rel => exact ⟨j + 1, hja, by go_num, by first | trivial | rfl⟩
          case measure => simp [intOf]; omega
        · obtain rfl : j = a := by omega
          have hj0 : (0 : Int) ≤ (j : Int) := by omega
          have HINS : Hid (ys[j]? ≠ some x → insS x ys = ys.take j ++ x :: ys.drop j) := by
            intro h
            unfold insS
            rw [← unhide HAH, if_neg h]
          have HKEEP : Hid (ys[j]? = some x → insS x ys = ys) := by
            intro h
            unfold insS
            rw [← unhide HAH, if_pos h]
          have E1 := run_append_any (P := Try.prog) ((wr.alloc (.cells #[encS x] 9)).drew) wr.heap.size 23 23 9 i0 (.string ⟨#[]⟩) 1 16 Try.underlying23 hi0 hz0 hz1' hz2' rfl (by omega) (.slice (some ⟨wr.heap.size, 0, none⟩) 1 1) 1 [encS x] (own_one' (Blk.newS' wr) (Nat.le_refl _)) (cutA K kc j 1) (m - j) (kc - j) ((ys.drop j).map encS)
            (by
              have h := ((unhide HRD).cut (k := j) (cap := kc) ham hcv).keep (w' := (wr.alloc (.cells #[encS x] 9)).drew) (fun b hb => Below.heap_alloc wr _ b hb.2)
              rw [Nat.mul_one, ← List.map_drop] at h
              exact h) (strs_one _) (by unfold maxLen; omega) (by omega) (by simp)
          obtain ⟨v1, w1, hE1, hown1, hg1, hat1⟩ := E1
          obtain ⟨K1, c1, rfl, hc1, hcm1, hr1⟩ := own_slice hown1
          have E2 : ∃ v2 w2, (Builtin.append_ #[23, 23] 23 #[.slice K j j, .slice K1 (1 + (m - j)) c1]).run Try.prog w1 = .ok v2 w2 ∧ w2.ownsRow w1.heap.size 9 1 v2 (j + (1 + (m - j))) ((ys.take j).map encS ++ ([encS x] ++ (ys.drop j).map encS)) ∧ w1.grownBy w2 none := by
            have hrk : Reads w1 (fun b => b < wr.heap.size) 1 K j ((ys.take j).map encS) := by
              have h := ((unhide HRD).take (k := j) ham).keep (w' := w1) (fun b hb => (hg1.block b (by simp; omega) (by simp [Value.ownBlock]; omega)).trans (Below.heap_alloc wr _ b hb.2))
              rw [Nat.mul_one, ← List.map_take] at h
              exact h.sub fun b hb => hb.2
            obtain ⟨k1, hk1, _, hcell1⟩ := hr1.2 (by omega)
            subst hk1
            have hl1 : ([encS x] ++ (ys.drop j).map encS).length = (1 + (m - j)) * 1 := hr1.1
            have ho1 : ∀ u ∈ ([encS x] ++ (ys.drop j).map encS), u.oneCell' = true := strs_one (x :: ys.drop j)
            rcases K with _ | kd
            · have hj0' : j = 0 := by
                rcases (unhide HOWN).2 with ⟨hv, hn⟩ | ⟨g, cap, cur, hv, _⟩
                · omega
                · exact absurd (Value.slice.inj hv).1 (by simp)
              subst hj0'
              obtain ⟨v2, w2, h1, h2, h3, _⟩ := run_append_any (P := Try.prog) w1 w1.heap.size 23 23 9 i0 (.string ⟨#[]⟩) 1 16 Try.underlying23 hi0 hz0 hz1' hz2' rfl (by omega) (.slice none 0 0) 0 [] (World.ownsRow_nil _ _ _ _) (some k1) (1 + (m - 0)) c1 _ hr1 ho1 (by unfold maxLen; omega) (by omega) (Nat.le_refl _)
              exact ⟨v2, w2, h1, by simpa using h2, h3⟩
            · obtain ⟨v2, w2, h1, h2, h3⟩ := run_append_arg_grows (P := Try.prog) w1 23 23 9 i0 (.string ⟨#[]⟩) 1 16 Try.underlying23 hi0 hz0 hz1' hz2' rfl (by omega) kd j j ((ys.take j).map encS) hrk.1 (fun q u hu => by
                have hq : 0 < j := by
                  have hl := hrk.1
                  rcases Nat.eq_zero_or_pos j with h0 | h0
                  · rw [h0, Nat.zero_mul] at hl
                    have e := List.eq_nil_of_length_eq_zero hl
                    rw [h0, e] at hu
                    simp at hu
                  · exact h0
                obtain ⟨ad', e, _, hc⟩ := hrk.2 hq
                injection e with e
                subst e
                exact hc q u hu) k1 (1 + (m - j)) c1 _ hl1 hcell1 (by omega) (by unfold maxLen; omega) (by omega)
              exact ⟨v2, w2, h1, h2, h3⟩
          obtain ⟨v2, w2, hE2, hown2, hg2⟩ := E2
          obtain ⟨K2, c2, rfl, hc2, hcm2, hr2⟩ := own_slice hown2
          have HOWN1 := hide hown1
          have HG1 := hide hg1
          have HAT1 := hide hat1
          have HOWN2 := hide hown2
          have HG2 := hide hg2
          have HE1 := hide hE1
          have HE2 := hide hE2
          clear hE1 hE2
          have b1 : (j : Int) ≤ (m : Int) := by omega
          have b2 : (j : Int) ≤ (kc : Int) := by omega
          have b3 : ((j : Int)).toNat = j := rfl
          clear hown1 hg1 hat1 hr1 hown2 hg2 hr2
          by_cases hjm : j < m
          · have h2 : j < ys.length := by have := unhide HM; omega
            obtain ⟨kd, u2, rfl, _, hu2, hc2'⟩ := (unhide HRD).at_ (k := j) hjm
            rw [List.getElem?_map, List.getElem?_eq_getElem h2] at hu2
            obtain rfl := Option.some.inj hu2
            have hnl : ¬ ys[j] < x := by
              have h4 := aheadS_at x ys (by rw [← unhide HAH]; exact h2)
              have e : ys[aheadS x ys]? = ys[j]? := by rw [← unhide HAH]
              rw [List.getElem?_eq_getElem h2, List.getElem?_eq_getElem (by rw [← unhide HAH]; exact h2)] at e
              rw [← Option.some.inj e]
              exact h4
            have hys : ys[j]? = some ys[j] := List.getElem?_eq_getElem h2
            have HYS := hide hys
            have hjm2 : (j : Int) < (m : Int) := by omega
            generalize ys[j] = y at *
            have hbl := less_no hnl
            clear hu2 hys
            by_cases hxy : y = x
            · subst hxy
              go_wp2_with fail
              go_roundw
              case rel => exact ⟨k + 1, some kd, m, kc, hlt, by go_num, rfl, by rw [unhide HSET, unhide HKEEP (unhide HYS)]; exact unhide HM, by rw [unhide HSET, unhide HKEEP (unhide HYS)]; exact unhide HOWN, unhide HBEL⟩
              case measure => simp [intOf]; omega
            · have hxy2 : (y == x) = false := by simpa using hxy
              go_wp2_with fail
              go_region_held3 (fun _ => True) (trivial) ((first | (refine step_append_run rfl (.tmp 45) (.tmp 48) _ (by rfl) _ _ _ _ (by rfl) (by rfl) (unhide HE1) ?_) | (refine step_append_run rfl (.tmp 43) (.tmp 49) _ (by rfl) _ _ _ _ (by rfl) (by rfl) (unhide HE2) ?_)))
              go_wp2_with fail
              go_roundw
              case rel =>
                have hins := unhide HINS (by rw [unhide HYS]; intro e; exact hxy (Option.some.inj e))
                have hb1 : Below w.heap.size w w1 := ((unhide HBEL).alloc (unhide HBEL).size _).drew.grown (unhide HG1) (by have := (unhide HBEL).size; simp; omega) (fun q hq => by simp [Value.ownBlock] at hq; have := (unhide HBEL).size; omega)
                have hb2 : Below w.heap.size w w2 := hb1.grown (unhide HG2) hb1.size (fun q hq => by cases hq)
                have hlen : (insS x ys).length = j + (1 + (m - j)) := by
                  rw [hins, List.length_append, List.length_cons, List.length_take, List.length_drop, ← unhide HM]
                  omega
                refine ⟨k + 1, K2, j + (1 + (m - j)), c2, hlt, by go_num, rfl, by rw [unhide HSET, hlen], ?_, hb2⟩
                rw [unhide HSET, hins, List.map_append, List.map_cons]
                have h := own_baseS (b' := w.heap.size) (unhide HOWN2) hb1.size
                simpa using h
              case measure => simp [intOf]; omega
          · have hjm2 : ¬ (j : Int) < (m : Int) := by omega
            go_wp2_with fail
            go_region_held3 (fun _ => True) (trivial) ((first | (refine step_append_run rfl (.tmp 45) (.tmp 48) _ (by rfl) _ _ _ _ (by rfl) (by rfl) (unhide HE1) ?_) | (refine step_append_run rfl (.tmp 43) (.tmp 49) _ (by rfl) _ _ _ _ (by rfl) (by rfl) (unhide HE2) ?_)))
            go_wp2_with fail
            go_roundw
            case rel =>
              have hins := unhide HINS (by rw [List.getElem?_eq_none (by have := unhide HM; omega)]; simp)
              have hb1 : Below w.heap.size w w1 := ((unhide HBEL).alloc (unhide HBEL).size _).drew.grown (unhide HG1) (by have := (unhide HBEL).size; simp; omega) (fun q hq => by simp [Value.ownBlock] at hq; have := (unhide HBEL).size; omega)
              have hb2 : Below w.heap.size w w2 := hb1.grown (unhide HG2) hb1.size (fun q hq => by cases hq)
              have hlen : (insS x ys).length = j + (1 + (m - j)) := by
                rw [hins, List.length_append, List.length_cons, List.length_take, List.length_drop, ← unhide HM]
                omega
              refine ⟨k + 1, K2, j + (1 + (m - j)), c2, hlt, by go_num, rfl, by rw [unhide HSET, hlen], ?_, hb2⟩
              rw [unhide HSET, hins, List.map_append, List.map_cons]
              have h := own_baseS (b' := w.heap.size) (unhide HOWN2) hb1.size
              simpa using h
            case measure => simp [intOf]; omega
    · obtain rfl : k = n := by omega
      have hlt2 : ¬ (k : Int) < (k : Int) := by omega
      have hall : zs.take k = zs := List.take_of_length_le (by omega)
      rw [hall] at hown hm
      have HOWN := hide hown
      have HBEL := hide hbel
      have HM := hide hm
      clear hnx hown hbel hm hall
      go_wp2_with fail
      go_ret
      exact ⟨_, rfl, by rw [← unhide HM]; exact unhide HOWN, unhide HBEL⟩
end Go.Proofs.Ytlnpiigdjjadiaa
