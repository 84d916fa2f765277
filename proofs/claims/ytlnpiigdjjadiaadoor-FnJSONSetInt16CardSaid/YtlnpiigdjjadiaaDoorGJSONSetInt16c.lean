/-
  Lemmas, 3 texts in one: InSetP, SetLaw, InSetint16. Each says its conditions.
-/
import Derived.Test.YtlnpiigdjjadiaaDoorGJSONSetInt16a
import Derived.Test.YtlnpiigdjjadiaaDoorGJSONSetInt16b
import Derived.Deep.QuietTactic
import Derived.BigQuiet
import Derived.BigRegion
import Derived.BigGuardPart
import Derived.ArgAppend
import Derived.Deep.RegionWith
import Derived.Deep.RegionHeld3

/-
  Plain: a list's values, each once, by their order.
-/
namespace Go.Proofs.YtlnpiigdjjadiaaDoor
set_option linter.unusedSimpArgs false
set_option linter.unusedVariables false
open Go.RowKit
theorem Blk.newS' (w : World) {t : TypeId} {cs : Array Value} : Blk ((w.alloc (.cells cs t)).drew) w.heap.size t cs := Blk.new w t cs
theorem ints_one (k : IntKind) (xs : List Int) : ∀ u ∈ xs.map (Value.int k), u.oneCell' = true := by
  intro u hu
  obtain ⟨x, _, rfl⟩ := List.mem_map.1 hu
  rfl
theorem own_one' {w : World} {g : Nat} {t : TypeId} {u : Value} {base : Nat} (h : Blk w g t #[u]) (hb : base ≤ g) : w.ownsRow base t 1 (.slice (some ⟨g, 0, none⟩) 1 1) 1 [u] := ⟨rfl, .inr ⟨g, 1, #[u], rfl, hb, h, Nat.le_refl _, by unfold maxLen; omega, rfl, rfl⟩⟩
theorem step_append_run {P : Program} {ops : Array Oper} {o : Oper} {a : Act} {w : World} {K : Act → World → Prop} {Q : Exit → Act → World → Prop} {E : Prop} (hgd : o.guard = none) (s x : Operand) (t : TypeId)
    (ho : o.op = .call { callee := .builtin .append, args := #[s, x], argTypes := #[t, t] }) (sv xv v : Value) (w' : World) (hs : a.eval s = sv) (hx : a.eval x = xv) (hrun : (Builtin.append_ #[t, t] o.type #[sv, xv]).run P w = .ok v w') (h : K (a.put o.dst v) w') :
    if Region.wanted o (yielded ops a.tmps) = true then Oper.wp P o a w K Q else E := by
  have hw : Region.wanted o (yielded ops a.tmps) = true := by simp [Region.wanted, hgd]
  rw [if_pos hw]
  unfold Oper.wp execOp
  simp only [ho, resolve, invoke, builtin, Sem.run_bind, Sem.run_pure, Result.andThen_ok, List.map_toArray, List.map_cons, List.map_nil, hs, hx, hrun]
  exact h
theorem own_baseS {w : World} {b b' : Nat} {e : TypeId} {size : Nat} {v : Value} {n : Nat} {xs : List Value} (h : w.ownsRow b e size v n xs) (hb : b' ≤ b) : w.ownsRow b' e size v n xs := by
  refine ⟨h.1, ?_⟩
  rcases h.2 with h1 | ⟨g, cap, cur, rfl, h1, h2⟩
  · exact .inl h1
  · exact .inr ⟨g, cap, cur, rfl, Nat.le_trans hb h1, h2⟩
/-- How many stand ahead of x. -/
def ahead (x : Int) : List Int → Nat
  | [] => 0
  | y :: ys => if y < x then ahead x ys + 1 else 0
theorem ahead_le (x : Int) : ∀ ys, ahead x ys ≤ ys.length
  | [] => Nat.le_refl _
  | y :: ys => by
    unfold ahead
    split
    · have := ahead_le x ys
      simp
      omega
    · omega
theorem ahead_lt (x : Int) : ∀ (ys : List Int) (j : Nat) (h : j < ahead x ys), ∃ h2 : j < ys.length, ys[j] < x
  | [], j, h => by simp [ahead] at h
  | y :: ys, j, h => by
    unfold ahead at h
    split at h
    · rename_i hy
      rcases j with _ | j
      · exact ⟨by simp, hy⟩
      · obtain ⟨h2, h3⟩ := ahead_lt x ys j (by omega)
        exact ⟨by simp; omega, by simpa using h3⟩
    · omega
theorem ahead_at (x : Int) : ∀ (ys : List Int) (h : ahead x ys < ys.length), ¬ ys[ahead x ys] < x
  | [], h => by simp at h
  | y :: ys, h => by
    by_cases hy : y < x
    · have e : ahead x (y :: ys) = ahead x ys + 1 := by simp [ahead, hy]
      have h2 : ahead x ys < ys.length := by rw [e] at h; simp at h; omega
      have h3 := ahead_at x ys h2
      have e2 : (y :: ys)[ahead x (y :: ys)] = ys[ahead x ys] := by
        have : (y :: ys)[ahead x (y :: ys)]? = ys[ahead x ys]? := by rw [e]; rfl
        rw [List.getElem?_eq_getElem h, List.getElem?_eq_getElem h2] at this
        exact Option.some.inj this
      rw [e2]
      exact h3
    · have e : ahead x (y :: ys) = 0 := by simp [ahead, hy]
      have e2 : (y :: ys)[ahead x (y :: ys)] = y := by
        have : (y :: ys)[ahead x (y :: ys)]? = some y := by rw [e]; rfl
        rw [List.getElem?_eq_getElem h] at this
        exact Option.some.inj this
      rw [e2]
      exact hy
/-- x laid into a list that is in order, unless it is there. -/
def insL (x : Int) (ys : List Int) : List Int := if ys[ahead x ys]? = some x then ys else ys.take (ahead x ys) ++ x :: ys.drop (ahead x ys)
def setL (zs : List Int) : List Int := zs.foldl (fun ys x => insL x ys) []
theorem setL_snoc (zs : List Int) (x : Int) : setL (zs ++ [x]) = insL x (setL zs) := by simp [setL]
theorem insL_len (x : Int) (ys : List Int) : (insL x ys).length ≤ ys.length + 1 := by
  unfold insL
  split
  · omega
  · rw [List.length_append, List.length_cons, List.length_take, List.length_drop]
    have := ahead_le x ys
    omega
theorem setL_len (zs : List Int) : (setL zs).length ≤ zs.length := by
  have h : ∀ (zs acc : List Int), (zs.foldl (fun ys x => insL x ys) acc).length ≤ acc.length + zs.length := by
    intro zs
    induction zs with
    | nil => intro acc; simp
    | cons z zs ih =>
      intro acc
      have h1 := ih (insL z acc)
      have h2 := insL_len z acc
      rw [List.foldl_cons, List.length_cons]
      omega
  have := h zs []
  simpa [setL] using this
end Go.Proofs.YtlnpiigdjjadiaaDoor

/-
  Plain: the values of a list, each once, by their order, are the one list that is in order and has just these values.
-/
namespace Go.Proofs.YtlnpiigdjjadiaaDoor
set_option linter.unusedSimpArgs false
set_option linter.unusedVariables false
/-- Each less than all behind it. -/
def Asc (l : List Int) : Prop := l.Pairwise (· < ·)
theorem Asc.ext : ∀ (a b : List Int), Asc a → Asc b → (∀ x, x ∈ a ↔ x ∈ b) → a = b
  | [], [], _, _, _ => rfl
  | [], y :: b, _, _, h => by have := (h y).2 (by simp); simp at this
  | x :: a, [], _, _, h => by have := (h x).1 (by simp); simp at this
  | x :: a, y :: b, ha, hb, h => by
    obtain ⟨hx, ha'⟩ := List.pairwise_cons.1 ha
    obtain ⟨hy, hb'⟩ := List.pairwise_cons.1 hb
    have e : x = y := by
      rcases List.mem_cons.1 ((h x).1 (by simp)) with h1 | h1
      · exact h1
      · rcases List.mem_cons.1 ((h y).2 (by simp)) with h2 | h2
        · exact h2.symm
        · have := hy x h1
          have := hx y h2
          omega
    subst e
    congr 1
    refine Asc.ext a b ha' hb' fun z => ⟨fun hz => ?_, fun hz => ?_⟩
    · rcases List.mem_cons.1 ((h z).1 (by simp [hz])) with h1 | h1
      · have := hx z hz
        omega
      · exact h1
    · rcases List.mem_cons.1 ((h z).2 (by simp [hz])) with h1 | h1
      · have := hy z hz
        omega
      · exact h1
theorem insL_nil (x : Int) : insL x [] = [x] := by simp [insL, ahead]
theorem insL_cons (x y : Int) (ys : List Int) : insL x (y :: ys) = if y < x then y :: insL x ys else if y = x then y :: ys else x :: y :: ys := by
  by_cases h : y < x
  · have e : ahead x (y :: ys) = ahead x ys + 1 := by simp [ahead, h]
    unfold insL
    rw [e, if_pos h]
    simp only [List.getElem?_cons_succ, List.take_succ_cons, List.drop_succ_cons]
    split <;> simp
  · have e : ahead x (y :: ys) = 0 := by simp [ahead, h]
    unfold insL
    rw [e, if_neg h]
    simp only [List.getElem?_cons_zero, List.take_zero, List.drop_zero, Option.some.injEq, List.nil_append]
theorem insL_mem (x : Int) : ∀ (ys : List Int) (z : Int), z ∈ insL x ys ↔ z = x ∨ z ∈ ys
  | [], z => by simp [insL_nil]
  | y :: ys, z => by
    rw [insL_cons]
    have ih := insL_mem x ys z
    split
    · rw [List.mem_cons, ih, List.mem_cons]
      constructor
      · rintro (h | h | h) <;> simp [h]
      · rintro (h | h | h) <;> simp [h]
    · split
      · rename_i h
        subst h
        simp
      · simp
theorem insL_asc (x : Int) : ∀ (ys : List Int), Asc ys → Asc (insL x ys)
  | [], _ => by rw [insL_nil]; exact List.pairwise_singleton _ _
  | y :: ys, h => by
    obtain ⟨hy, h'⟩ := List.pairwise_cons.1 h
    rw [insL_cons]
    split
    · rename_i hlt
      refine List.pairwise_cons.2 ⟨fun z hz => ?_, insL_asc x ys h'⟩
      rcases (insL_mem x ys z).1 hz with rfl | hz
      · exact hlt
      · exact hy z hz
    · split
      · exact h
      · refine List.pairwise_cons.2 ⟨fun z hz => ?_, h⟩
        rcases List.mem_cons.1 hz with rfl | hz
        · omega
        · have := hy z hz
          omega
theorem setL_both (zs : List Int) : Asc (setL zs) ∧ ∀ x, x ∈ setL zs ↔ x ∈ zs := by
  have h : ∀ (zs acc : List Int), Asc acc → Asc (zs.foldl (fun ys x => insL x ys) acc) ∧ ∀ x, x ∈ zs.foldl (fun ys x => insL x ys) acc ↔ x ∈ acc ∨ x ∈ zs := by
    intro zs
    induction zs with
    | nil => intro acc ha; exact ⟨ha, fun x => by simp⟩
    | cons z zs ih =>
      intro acc ha
      have h1 := ih (insL z acc) (insL_asc z acc ha)
      refine ⟨h1.1, fun x => ?_⟩
      rw [List.foldl_cons, h1.2 x, insL_mem, List.mem_cons]
      constructor
      · rintro ((h | h) | h) <;> simp [h]
      · rintro (h | h | h) <;> simp [h]
  have h2 := h zs [] List.Pairwise.nil
  exact ⟨h2.1, fun x => by rw [show setL zs = zs.foldl (fun ys x => insL x ys) [] from rfl, h2.2 x]; simp⟩
/-- The one list. -/
theorem setL_eq {zs ks : List Int} (h1 : Asc ks) (h2 : ∀ x, x ∈ ks ↔ x ∈ zs) : ks = setL zs :=
  Asc.ext _ _ h1 (setL_both zs).1 fun x => (h2 x).trans ((setL_both zs).2 x).symm
end Go.Proofs.YtlnpiigdjjadiaaDoor

/-
  laws.inSet at int16: the values of a list, each once, by their order. Conditions: at most 100.
-/
namespace Go.Proofs.YtlnpiigdjjadiaaDoor
set_option linter.unusedSimpArgs false
set_option linter.unusedVariables false
set_option linter.unusedVariables false
open Go.RowKit
theorem infoS_int16 : (Tryd.prog.info? 55).map (fun i => (i.zero, i.size, i.bytes)) = some (some (.int .i16 0), 1, 2) := by kernel_rfl
set_option maxRecDepth 100000 in
set_option maxHeartbeats 3200000 in
theorem inSet_int16 (S : Nat → Prop) (A : Option Addr) (zs : List Int) (n c : Nat) (w : World) (hn : n = zs.length) (hn2 : n ≤ 100) (hr : Reads w S 1 A n (zs.map (Value.int .i16))) (hS : Old w S) :
    Calls Tryd.prog 23 #[.slice A n c] w fun e w' => ∃ v, e = .returned v ∧ w'.ownsRow w.heap.size 55 1 v (setL zs).length ((setL zs).map (Value.int .i16)) ∧ Below w.heap.size w w' := by
  obtain ⟨i0, hi0, hz0, hz1', hz2'⟩ := info_parts infoS_int16
  have HN := hide hn
  have HR := hide hr
  clear hn hr
  go_enter Tryd.func23, Tryd.ntmps23
  go_wp2
  go_loopw [3, 10] (fun o i wr => ∃ (k : Nat) (K : Option Addr) (m kc : Nat), k ≤ n ∧ i = .int .i64 k ∧ o = .slice K m kc ∧ m = (setL (zs.take k)).length ∧ wr.ownsRow w.heap.size 55 1 (.slice K m kc) m ((setL (zs.take k)).map (Value.int .i16)) ∧ Below w.heap.size w wr) (fun _ i _ => n - (intOf i).toNat)
  case atStart => exact ⟨0, _, 0, 0, Nat.zero_le _, rfl, rfl, by simp [setL], by have h := World.ownsRow_made (e := 55) (size := 1) w #[] 0 (Nat.le_refl _) (Nat.zero_le _) rfl; simpa [setL] using h, (by repeat (first | with_reducible exact Below.refl _ _ | with_reducible exact x | with_reducible refine Below.alloc ?_ (by first | omega | (simp; omega) | (simp; done)) _ | with_reducible refine Below.setCell ?_ (by first | omega | (simp; omega) | (simp; done)) _ | with_reducible refine Below.drew ?_ | with_reducible refine below_drewN ?_ _))⟩
  case round =>
    obtain ⟨k, K, m, kc, hk, rfl, rfl, hm, hown, hbel⟩ := hrel
    have hnx := unhide HN
    by_cases hlt : k < n
    · have hkx : k < zs.length := by omega
      obtain ⟨ad, u, rfl, hSb, hu, hcell0⟩ := (unhide HR).at_ hlt
      rw [List.getElem?_map, List.getElem?_eq_getElem hkx] at hu
      obtain rfl := Option.some.inj hu
      have hcell : wr.cell? (ad.add k) = some (.int .i16 zs[k]) := (World.cell?_of_block (hbel.block _ (by rw [block_of_add]; exact hS _ hSb))).trans hcell0
      have hset : setL (zs.take (k + 1)) = insL zs[k] (setL (zs.take k)) := by
        rw [List.take_succ_eq_append_getElem hkx]
        exact setL_snoc _ _
      have hml : m ≤ 100 := by
        have := setL_len (zs.take k)
        rw [List.length_take] at this
        omega
      generalize zs[k] = x at *
      generalize hys : setL (zs.take k) = ys at *
      obtain ⟨_, _, hv, hcv, hcmv, hRD⟩ := own_slice hown
      obtain ⟨rfl, _, rfl⟩ := Value.slice.inj hv
      have HOWN := hide hown
      have HBEL := hide hbel
      have HM := hide hm
      have HSET := hide hset
      have HRD := hide hRD
      have hk0 : (0 : Int) ≤ (k : Int) := by omega
      have hk1 : (k : Int) < (n : Int) := by omega
      unfold maxLen at hcmv
      clear hnx hu hcell0 hown hbel hm hset hRD hv hys
      obtain ⟨a, ha⟩ : ∃ a, a = ahead x ys := ⟨_, rfl⟩
      have ham : a ≤ m := by rw [ha, unhide HM]; exact ahead_le x ys
      have HAH := hide ha
      clear ha
      go_wp2_with fail
      go_loopw [6] (fun i wi => ∃ j : Nat, j ≤ a ∧ i = .int .i64 j ∧ wi = wr) (fun i _ => a - (intOf i).toNat)
      case atStart => exact ⟨0, Nat.zero_le _, rfl, rfl⟩
      case round =>
        obtain ⟨j, hj, rfl, rfl⟩ := hrel
        by_cases hja : j < a
        · obtain ⟨h2, h3⟩ := ahead_lt x ys j (by rw [← unhide HAH]; exact hja)
          obtain ⟨kd, u2, rfl, _, hu2, hc2⟩ := (unhide HRD).at_ (k := j) (by rw [unhide HM]; exact h2)
          rw [List.getElem?_map, List.getElem?_eq_getElem h2] at hu2
          obtain rfl := Option.some.inj hu2
          have hjm : (j : Int) < (m : Int) := by have := unhide HM; omega
          have hj0 : (0 : Int) ≤ (j : Int) := by omega
          generalize ys[j] = y at *
          clear hu2
          go_wp2_with fail
          go_roundw
          case rel => exact ⟨j + 1, hja, by go_num, by first | trivial | rfl⟩
          case measure => simp [intOf]; omega
        · obtain rfl : j = a := by omega
          have hj0 : (0 : Int) ≤ (j : Int) := by omega
          have HINS : Hid (ys[j]? ≠ some x → insL x ys = ys.take j ++ x :: ys.drop j) := by
            intro h
            unfold insL
            rw [← unhide HAH, if_neg h]
          have HKEEP : Hid (ys[j]? = some x → insL x ys = ys) := by
            intro h
            unfold insL
            rw [← unhide HAH, if_pos h]
          have E1 := run_append_any (P := Tryd.prog) ((wr.alloc (.cells #[.int .i16 x] 55)).drew) wr.heap.size 53 53 55 i0 (.int .i16 0) 1 2 Tryd.underlying53 hi0 hz0 hz1' hz2' rfl (by omega) (.slice (some ⟨wr.heap.size, 0, none⟩) 1 1) 1 [.int .i16 x] (own_one' (Blk.newS' wr) (Nat.le_refl _)) (cutA K kc j 1) (m - j) (kc - j) ((ys.drop j).map (Value.int .i16))
            (by
              have h := ((unhide HRD).cut (k := j) (cap := kc) ham hcv).keep (w' := (wr.alloc (.cells #[.int .i16 x] 55)).drew) (fun b hb => Below.heap_alloc wr _ b hb.2)
              rw [Nat.mul_one, ← List.map_drop] at h
              exact h) (ints_one _ _) (by unfold maxLen; omega) (by omega) (by simp)
          obtain ⟨v1, w1, hE1, hown1, hg1, hat1⟩ := E1
          obtain ⟨K1, c1, rfl, hc1, hcm1, hr1⟩ := own_slice hown1
          have E2 : ∃ v2 w2, (Builtin.append_ #[53, 53] 53 #[.slice K j j, .slice K1 (1 + (m - j)) c1]).run Tryd.prog w1 = .ok v2 w2 ∧ w2.ownsRow w1.heap.size 55 1 v2 (j + (1 + (m - j))) ((ys.take j).map (Value.int .i16) ++ ([.int .i16 x] ++ (ys.drop j).map (Value.int .i16))) ∧ w1.grownBy w2 none := by
            have hrk : Reads w1 (fun b => b < wr.heap.size) 1 K j ((ys.take j).map (Value.int .i16)) := by
              have h := ((unhide HRD).take (k := j) ham).keep (w' := w1) (fun b hb => (hg1.block b (by simp; omega) (by simp [Value.ownBlock]; omega)).trans (Below.heap_alloc wr _ b hb.2))
              rw [Nat.mul_one, ← List.map_take] at h
              exact h.sub fun b hb => hb.2
            obtain ⟨k1, hk1, _, hcell1⟩ := hr1.2 (by omega)
            subst hk1
            have hl1 : ([Value.int .i16 x] ++ (ys.drop j).map (Value.int .i16)).length = (1 + (m - j)) * 1 := hr1.1
            have ho1 : ∀ u ∈ ([Value.int .i16 x] ++ (ys.drop j).map (Value.int .i16)), u.oneCell' = true := ints_one .i16 (x :: ys.drop j)
            rcases K with _ | kd
            · have hj0' : j = 0 := by
                rcases (unhide HOWN).2 with ⟨hv, hn⟩ | ⟨g, cap, cur, hv, _⟩
                · omega
                · exact absurd (Value.slice.inj hv).1 (by simp)
              subst hj0'
              obtain ⟨v2, w2, h1, h2, h3, _⟩ := run_append_any (P := Tryd.prog) w1 w1.heap.size 53 53 55 i0 (.int .i16 0) 1 2 Tryd.underlying53 hi0 hz0 hz1' hz2' rfl (by omega) (.slice none 0 0) 0 [] (World.ownsRow_nil _ _ _ _) (some k1) (1 + (m - 0)) c1 _ hr1 ho1 (by unfold maxLen; omega) (by omega) (Nat.le_refl _)
              exact ⟨v2, w2, h1, by simpa using h2, h3⟩
            · obtain ⟨v2, w2, h1, h2, h3⟩ := run_append_arg_grows (P := Tryd.prog) w1 53 53 55 i0 (.int .i16 0) 1 2 Tryd.underlying53 hi0 hz0 hz1' hz2' rfl (by omega) kd j j ((ys.take j).map (Value.int .i16)) hrk.1 (fun q u hu => by
                have hq : 0 < j := by
                  have hl := hrk.1
                  rcases Nat.eq_zero_or_pos j with h0 | h0
                  · rw [h0, Nat.zero_mul] at hl
                    have e := List.eq_nil_of_length_eq_zero hl
                    rw [h0, e] at hu
                    simp at hu
                  · exact h0
                obtain ⟨ad', e, _, hc⟩ := hrk.2 hq
                injection e with e
                subst e
                exact hc q u hu) k1 (1 + (m - j)) c1 _ hl1 hcell1 (by omega) (by unfold maxLen; omega) (by omega)
              exact ⟨v2, w2, h1, h2, h3⟩
          obtain ⟨v2, w2, hE2, hown2, hg2⟩ := E2
          obtain ⟨K2, c2, rfl, hc2, hcm2, hr2⟩ := own_slice hown2
          have HOWN1 := hide hown1
          have HG1 := hide hg1
          have HAT1 := hide hat1
          have HOWN2 := hide hown2
          have HG2 := hide hg2
          have HE1 := hide hE1
          have HE2 := hide hE2
          clear hE1 hE2
          have b1 : (j : Int) ≤ (m : Int) := by omega
          have b2 : (j : Int) ≤ (kc : Int) := by omega
          have b3 : ((j : Int)).toNat = j := rfl
          clear hown1 hg1 hat1 hr1 hown2 hg2 hr2
          by_cases hjm : j < m
          · have h2 : j < ys.length := by have := unhide HM; omega
            obtain ⟨kd, u2, rfl, _, hu2, hc2'⟩ := (unhide HRD).at_ (k := j) hjm
            rw [List.getElem?_map, List.getElem?_eq_getElem h2] at hu2
            obtain rfl := Option.some.inj hu2
            have hnl : ¬ ys[j] < x := by
              have h4 := ahead_at x ys (by rw [← unhide HAH]; exact h2)
              have e : ys[ahead x ys]? = ys[j]? := by rw [← unhide HAH]
              rw [List.getElem?_eq_getElem h2, List.getElem?_eq_getElem (by rw [← unhide HAH]; exact h2)] at e
              rw [← Option.some.inj e]
              exact h4
            have hys : ys[j]? = some ys[j] := List.getElem?_eq_getElem h2
            have HYS := hide hys
            have hjm2 : (j : Int) < (m : Int) := by omega
            generalize ys[j] = y at *
            clear hu2 hys
            by_cases hxy : y = x
            · subst hxy
              go_wp2_with fail
              go_roundw
              case rel => exact ⟨k + 1, some kd, m, kc, hlt, by go_num, rfl, by rw [unhide HSET, unhide HKEEP (unhide HYS)]; exact unhide HM, by rw [unhide HSET, unhide HKEEP (unhide HYS)]; exact unhide HOWN, unhide HBEL⟩
              case measure => simp [intOf]; omega
            · have hxy2 : (y == x) = false := by simpa using hxy
              go_wp2_with fail
              go_region_held3 (fun _ => True) (trivial) ((first | (refine step_append_run rfl (.tmp 45) (.tmp 48) _ (by rfl) _ _ _ _ (by rfl) (by rfl) (unhide HE1) ?_) | (refine step_append_run rfl (.tmp 43) (.tmp 49) _ (by rfl) _ _ _ _ (by rfl) (by rfl) (unhide HE2) ?_)))
              go_wp2_with fail
              go_roundw
              case rel =>
                have hins := unhide HINS (by rw [unhide HYS]; intro e; exact hxy (Option.some.inj e))
                have hb1 : Below w.heap.size w w1 := ((unhide HBEL).alloc (unhide HBEL).size _).drew.grown (unhide HG1) (by have := (unhide HBEL).size; simp; omega) (fun q hq => by simp [Value.ownBlock] at hq; have := (unhide HBEL).size; omega)
                have hb2 : Below w.heap.size w w2 := hb1.grown (unhide HG2) hb1.size (fun q hq => by cases hq)
                have hlen : (insL x ys).length = j + (1 + (m - j)) := by
                  rw [hins, List.length_append, List.length_cons, List.length_take, List.length_drop, ← unhide HM]
                  omega
                refine ⟨k + 1, K2, j + (1 + (m - j)), c2, hlt, by go_num, rfl, by rw [unhide HSET, hlen], ?_, hb2⟩
                rw [unhide HSET, hins, List.map_append, List.map_cons]
                have h := own_baseS (b' := w.heap.size) (unhide HOWN2) hb1.size
                simpa using h
              case measure => simp [intOf]; omega
          · have hjm2 : ¬ (j : Int) < (m : Int) := by omega
            go_wp2_with fail
            go_region_held3 (fun _ => True) (trivial) ((first | (refine step_append_run rfl (.tmp 45) (.tmp 48) _ (by rfl) _ _ _ _ (by rfl) (by rfl) (unhide HE1) ?_) | (refine step_append_run rfl (.tmp 43) (.tmp 49) _ (by rfl) _ _ _ _ (by rfl) (by rfl) (unhide HE2) ?_)))
            go_wp2_with fail
            go_roundw
            case rel =>
              have hins := unhide HINS (by rw [List.getElem?_eq_none (by have := unhide HM; omega)]; simp)
              have hb1 : Below w.heap.size w w1 := ((unhide HBEL).alloc (unhide HBEL).size _).drew.grown (unhide HG1) (by have := (unhide HBEL).size; simp; omega) (fun q hq => by simp [Value.ownBlock] at hq; have := (unhide HBEL).size; omega)
              have hb2 : Below w.heap.size w w2 := hb1.grown (unhide HG2) hb1.size (fun q hq => by cases hq)
              have hlen : (insL x ys).length = j + (1 + (m - j)) := by
                rw [hins, List.length_append, List.length_cons, List.length_take, List.length_drop, ← unhide HM]
                omega
              refine ⟨k + 1, K2, j + (1 + (m - j)), c2, hlt, by go_num, rfl, by rw [unhide HSET, hlen], ?_, hb2⟩
              rw [unhide HSET, hins, List.map_append, List.map_cons]
              have h := own_baseS (b' := w.heap.size) (unhide HOWN2) hb1.size
              simpa using h
            case measure => simp [intOf]; omega
    · obtain rfl : k = n := by omega
      have hlt2 : ¬ (k : Int) < (k : Int) := by omega
      have hall : zs.take k = zs := List.take_of_length_le (by omega)
      rw [hall] at hown hm
      have HOWN := hide hown
      have HBEL := hide hbel
      have HM := hide hm
      clear hnx hown hbel hm hall
      go_wp2_with fail
      go_ret
      exact ⟨_, rfl, by rw [← unhide HM]; exact unhide HOWN, unhide HBEL⟩
end Go.Proofs.YtlnpiigdjjadiaaDoor
