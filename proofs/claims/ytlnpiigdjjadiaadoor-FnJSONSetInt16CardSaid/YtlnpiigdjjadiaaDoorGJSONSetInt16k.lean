/-
  Lemmas, 2 texts in one: MjInt16, JsInt16. Each says its conditions.
-/
import Derived.Test.YtlnpiigdjjadiaaDoorGJSONSetInt16g
import Derived.Test.YtlnpiigdjjadiaaDoorGJSONSetInt16h
import Derived.Test.YtlnpiigdjjadiaaDoorGJSONSetInt16j

/-
  setof.Int16Sorted.MarshalJSON of a map that is a set: the text of the array of its keys by their order. Conditions: at most 100 keys; strconv's table of powers lies as its initialiser lays it.
-/
namespace Go.Proofs.YtlnpiigdjjadiaaDoor
set_option linter.unusedSimpArgs false
set_option linter.unusedVariables false
set_option linter.unusedVariables false
open Go.RowKit Go.Maps
/-- Bytes of one's own. -/
def MjPost (bs : List UInt8) (w : World) (e : Ending) (w' : World) : Prop :=
  ∃ A c, e = .returned (.tuple #[.slice A bs.length c, .nilIface]) ∧ bs.length ≤ c ∧ c ≤ maxLen ∧ RB w' (fun b => w.heap.size ≤ b ∧ b < w'.heap.size) A bs ∧ Below w.heap.size w w'
set_option maxRecDepth 100000 in
set_option maxHeartbeats 3200000 in
theorem mj_Int16 (b0 b nb : Nat) (zs ks : List Int) (w : World) (hT : Lib.TabBelow Tryd.prog b0 w "internal/strconv.uint64pow10" .u64 Lib.pow10Tab) (hb0 : b0 ≤ w.heap.size) (hset : SetAt_Int16 w b nb zs) (hnb : nb ≤ 100) (hb : b < w.heap.size) (hwf : ∀ x ∈ zs, -32768 ≤ x ∧ x ≤ 32767) (hks : ks = setL zs) :
    Calls Tryd.prog 38 #[.map (some b)] w (MjPost (jtext ks) w) := by
  obtain ⟨TT, hTT⟩ : ∃ TT, TT = MjPost (jtext ks) w := ⟨_, rfl⟩
  rw [← hTT]
  have HTT := hide hTT
  have hmn := mapNe_Int16 b
  have HAS := hide (asSlice_Int16 b nb zs w hset hnb hb)
  have hbd : ∀ x ∈ ks, -32768 ≤ x ∧ x ≤ 32767 := fun x hx => hwf x (((setL_both zs).2 x).1 (hks ▸ hx))
  have hit : ∀ x ∈ ks, (Lib.itoa x).length ≤ 21 := fun x hx => by
    have h := hbd x hx
    exact itoaLenJ x (by omega) (by omega)
  obtain ⟨q, hq⟩ : ∃ q, q = ks.length := ⟨_, rfl⟩
  have HQ := hide hq
  have HKS := hide hks
  have HBD := hide hbd
  have HIT := hide hit
  have HTB := hide hT
  clear hTT hset hwf hbd hit hq hks hT
  go_enter Tryd.func38, Tryd.ntmps38
  obtain ⟨i0, hi, hx0, hx1, hx2⟩ := info_parts info5
  go_wp2_with (first
    | (go_at_call 59; go_loud (refine (unhide HAS).mono ?_; rintro e w4 ⟨ad4, cap4, ks4, rfl, hasc4, hmem4, hk4, hown4, hb4⟩; have hkk := setL_eq hasc4 hmem4; rw [← unhide HKS] at hkk; have hkk2 := hkk.symm; subst hkk2; rw [← unhide HQ] at hown4 hk4 ⊢; have HRD4 := hide (Reads.of_own hown4); have HB4 := hide hb4; have hz4 := hb4.size; have HTW := hide (tabMono ((unhide HTB).on (hb4.mono hb0)) (Nat.le_trans hb0 hb4.size)); clear hown4 hb4 hasc4 hmem4))
    | (at_make; go_loud (refine wpList_make_own _ rfl _ _ 24 rfl w4.heap.size 5 i0 _ 1 Tryd.underlying24 hi hx0 hx1 _ _ _ (2 + q * 10) rfl rfl (by simp) (by rw [hx2]; omega) (by unfold maxLen; omega) (Nat.le_refl _) ?_; intro w5 hrow5 hg5; have HROW5 := hide hrow5; have HG5 := hide hg5; have hz5 := hg5.size; clear hrow5 hg5))
    | (at_builtin; go_loud (refine wpList_append_atS rfl _ _ _ rfl w4.heap.size 5 i0 _ 1 1 Tryd.underlying24 hi hx0 hx1 hx2 rfl (by decide) _ _ _ rfl ((unhide HROW5).alloc _) ⟨w5.heap.size, 0, none⟩ 1 1 [.int .u8 91] rfl rfl (cell_one_new _ _ _) (by simp [Value.oneCell']) (by unfold maxLen; omega) (by omega) (by simp; omega) ?_; intro v6 w6 hown6 hg6 hmv6; obtain ⟨A6, c6, rfl, _, _, _⟩ := own_slice hown6; have hB6 : Below w4.heap.size w4 w6 := (Below.alloc ((Below.refl _ _).grown (unhide HG5) (Nat.le_refl _) (fun j hj => by cases hj)) hz5 _).grown hg6 (by simp; omega) (fun j hj => by have := ((unhide HROW5).lt j hj).1; omega); have HOWN6 := hide hown6; have HB6 := hide hB6; clear hown6 hg6 hmv6 hB6)))
  have hqs := unhide HQ
  go_loopw [5, 24] (fun v i wr => ∃ (k c : Nat) (A : Option Addr), k ≤ q ∧ i = .int .i64 k ∧ v = .slice A (jp ks k).length c ∧ wr.ownsRow w4.heap.size 5 1 (.slice A (jp ks k).length c) (jp ks k).length ((jp ks k).map Go.Proofs.YtlnpiigdjjadiaaDoor.u8) ∧ Below w4.heap.size w4 wr) (fun _ i _ => q - (intOf i).toNat)
  case atStart => exact ⟨0, c6, A6, Nat.zero_le _, rfl, rfl, unhide HOWN6, unhide HB6⟩
  case round =>
    obtain ⟨k, c, A, hk, rfl, rfl, hown, hbel⟩ := hrel
    have hjl := jp_len ks k (unhide HIT) (by omega)
    have hzr := hbel.size
    by_cases hlt : k < q
    · obtain ⟨ad, u, had, hSb, hu, hcell⟩ := ((unhide HRD4).keep (fun b hb => hbel.block b hb.2.1)).at_ hlt
      obtain rfl := Option.some.inj had
      have hln : k < ks.length := by omega
      rw [List.getElem?_map, List.getElem?_eq_getElem hln] at hu
      obtain rfl := Option.some.inj hu
      have hbx := unhide HBD ks[k] (List.getElem_mem hln)
      have hk0 : (0 : Int) ≤ (k : Int) := by omega
      have hk1 : (k : Int) < (q : Int) := by omega
      have HT1 := hide ((unhide HTW).on hbel)
      rcases Nat.eq_zero_or_pos k with hkz | hkp
      · subst hkz
        rw [add_zero_] at hcell
        have hst : jp ks (0 + 1) = jp ks 0 ++ Lib.itoa ks[0] := jp_one ks hln
        have hq0 : (0 : Int) < (q : Int) := by omega
        have HST := hide hst
        generalize jp ks 0 = pb at *
        generalize ks[0] = x at *
        have hwx : IntKind.i64.wrap x = x := by rw [IntKind.wrap_i64]; omega
        have HOWN := hide hown
        have HBEL := hide hbel
        clear hst hown hbel had hSb hqs
        go_wp2_with (go_at_call 58; go_loud (refine (appendIntJ x (by omega) (by omega) w4.heap.size pb.length _ _ _ (unhide HOWN) hzr (by omega) (unhide HT1)).mono ?_; rintro e w7 ⟨A7, c7, rfl, hown7, hb7⟩; have HOWN7 := hide hown7; have HB7 := hide hb7; clear hown7 hb7))
        go_roundw
        case rel =>
          refine ⟨0 + 1, c7, A7, hlt, by first | rfl | go_num, by rw [unhide HST, List.length_append], ?_, (unhide HBEL).trans (unhide HB7)⟩
          rw [unhide HST, List.length_append, List.map_append]
          exact unhide HOWN7
        case measure => simp [intOf]; omega
      · have hst := jp_succ ks k hkp hln
        have hn0 : (0 : Int) < (k : Int) := by omega
        have HST := hide hst
        generalize jp ks k = pb at *
        generalize ks[k] = x at *
        have hwx : IntKind.i64.wrap x = x := by rw [IntKind.wrap_i64]; omega
        have HOWN := hide hown
        have HBEL := hide hbel
        clear hst hown hbel had hSb hqs
        go_wp2_with (first
          | (at_builtin; go_loud (refine wpList_append_atS rfl _ _ _ rfl w4.heap.size 5 i0 _ 1 1 Tryd.underlying24 hi hx0 hx1 hx2 rfl (by decide) _ _ _ rfl (own_below (unhide HOWN) (by repeat (first | with_reducible exact Below.refl _ _ | with_reducible exact x | with_reducible refine Below.alloc ?_ (by first | omega | (simp; omega) | (simp; done)) _ | with_reducible refine Below.setCell ?_ (by first | omega | (simp; omega) | (simp; done)) _ | with_reducible refine Below.drew ?_ | with_reducible refine below_drewN ?_ _))) ⟨wr.heap.size, 0, none⟩ 1 1 [.int .u8 44] rfl rfl (cell_one_new _ _ _) (by simp [Value.oneCell']) (by unfold maxLen; omega) (by omega) (by simp; omega) ?_; intro v6 w8 hown8 hg8 hmv8; obtain ⟨A8, c8, rfl, _, _, _⟩ := own_slice hown8; have hB8 : Below w4.heap.size wr w8 := (Below.alloc (Below.refl _ _) hzr _).grown hg8 (by simp; omega) (fun j hj => by have := ((unhide HOWN).lt j hj).1; omega); have HOWN8 := hide hown8; have HB8 := hide hB8; have hz8 := hg8.size; clear hown8 hg8 hmv8 hB8))
          | (go_at_call 58; go_loud (refine (appendIntJ x (by omega) (by omega) w4.heap.size (pb.length + 1) _ _ _ (unhide HOWN8) (by simp at hz8; omega) (by omega) ((unhide HT1).on (unhide HB8))).mono ?_; rintro e w7 ⟨A7, c7, rfl, hown7, hb7⟩; have HOWN7 := hide hown7; have HB7 := hide hb7; clear hown7 hb7)))
        go_roundw
        case rel =>
          have e1 : (pb ++ [44] ++ Lib.itoa x).length = pb.length + 1 + (Lib.itoa x).length := by simp; omega
          refine ⟨k + 1, c7, A7, hlt, by go_num, by rw [unhide HST, e1], ?_, ((unhide HBEL).trans (unhide HB8)).trans (unhide HB7)⟩
          rw [unhide HST, e1, List.map_append, List.map_append]
          exact unhide HOWN7
        case measure => simp [intOf]; omega
    · obtain rfl : k = q := by omega
      have hk1 : ¬ (k : Int) < (k : Int) := by omega
      have hfin : jtext ks = jp ks k ++ [93] := by
        unfold jtext jp
        rw [List.take_of_length_le (by omega)]
        rfl
      have HFIN := hide hfin
      generalize jp ks k = pb at *
      have HOWN := hide hown
      have HBEL := hide hbel
      clear hfin hown hbel hqs
      go_wp2_with (at_builtin; go_loud (refine wpList_append_atS rfl _ _ _ rfl w4.heap.size 5 i0 _ 1 1 Tryd.underlying24 hi hx0 hx1 hx2 rfl (by decide) _ _ _ rfl (own_below (unhide HOWN) (by repeat (first | with_reducible exact Below.refl _ _ | with_reducible exact x | with_reducible refine Below.alloc ?_ (by first | omega | (simp; omega) | (simp; done)) _ | with_reducible refine Below.setCell ?_ (by first | omega | (simp; omega) | (simp; done)) _ | with_reducible refine Below.drew ?_ | with_reducible refine below_drewN ?_ _))) ⟨wr.heap.size, 0, none⟩ 1 1 [.int .u8 93] rfl rfl (cell_one_new _ _ _) (by simp [Value.oneCell']) (by unfold maxLen; omega) (by omega) (by simp; omega) ?_; intro v6 w8 hown8 hg8 hmv8; obtain ⟨A8, c8, rfl, hc8, hm8, hr8⟩ := own_slice hown8; have hB8 : Below w4.heap.size w4 w8 := ((unhide HBEL).alloc (unhide HBEL).size _).grown hg8 (by simp; omega) (fun j hj => by have := ((unhide HOWN).lt j hj).1; omega); have HR8 := hide hr8; have HB8 := hide hB8; clear hown8 hg8 hmv8 hB8 hr8))
      rw [unhide HTT]
      have hB8 := unhide HB8
      have hr8 := unhide HR8
      have e1 : (jtext ks).length = pb.length + 1 := by rw [unhide HFIN]; simp
      refine ⟨A8, c8, by rw [e1], by rw [e1]; exact hc8, hm8, ?_, (unhide HB4).trans (hB8.mono (unhide HB4).size)⟩
      unfold RB
      rw [e1, unhide HFIN, List.map_append]
      exact hr8.sub (fun b hb => ⟨by have := hb.1; omega, hb.2⟩)
end Go.Proofs.YtlnpiigdjjadiaaDoor

/-
  impl.JSONSetInt16: the map is filled with the values, MarshalJSON writes its text. Conditions: at most 100 values; strconv's table of powers lies as its initialiser lays it.
-/
namespace Go.Proofs.YtlnpiigdjjadiaaDoor
set_option linter.unusedSimpArgs false
set_option linter.unusedVariables false
set_option linter.unusedVariables false
open Go.RowKit Go.Maps
theorem wfJ_Int16 {x : Int} (h : (Lit.int .i16 x).wf = true) : -32768 ≤ x ∧ x ≤ 32767 := by
  simp [Lit.wf, IntKind.min, IntKind.max, IntKind.signed, IntKind.bits] at h
  omega
set_option maxRecDepth 100000 in
set_option maxHeartbeats 3200000 in
theorem js_Int16 (b0 : Nat) (S : Nat → Prop) (A : Option Addr) (zs ks : List Int) (n c : Nat) (w : World) (hT : Lib.TabBelow Tryd.prog b0 w "internal/strconv.uint64pow10" .u64 Lib.pow10Tab) (hb0 : b0 ≤ w.heap.size) (hn : n = zs.length) (hn2 : n ≤ 100) (hr : Reads w S 1 A n (zs.map (Value.int .i16))) (hS : Old w S) (hwf : ∀ x ∈ zs, (Lit.int .i16 x).wf = true) (hks : ks = setL zs) :
    Calls Tryd.prog 22 #[.slice A n c] w fun e w' => e = .returned (.string ⟨(jtext ks).toArray⟩) ∧ Below w.heap.size w w' := by
  have hmm := @run_makeMap Tryd.prog
  have HN := hide hn
  have HR := hide hr
  have HWF := hide hwf
  have HT := hide hT
  have HKS := hide hks
  obtain ⟨bs, hbs⟩ : ∃ bs, bs = jtext ks := ⟨_, rfl⟩
  rw [← hbs]
  have HBS := hide hbs
  clear hn hr hwf hT hks hbs
  go_enter Tryd.func22, Tryd.ntmps22
  go_wp2
  go_loopw [11] (fun i wr => ∃ k : Nat, k ≤ n ∧ i = .int .i64 k ∧ SetAt_Int16 wr w.heap.size k (zs.take k) ∧ Below w.heap.size w wr ∧ w.heap.size < wr.heap.size) (fun i _ => n - (intOf i).toNat)
  case atStart => exact ⟨0, Nat.zero_le _, rfl, ⟨_, World.ownsMap_made _ _ _ _, fun x => by simp [Maps.has]⟩, (by repeat (first | with_reducible exact Below.refl _ _ | with_reducible exact x | with_reducible refine Below.alloc ?_ (by first | omega | (simp; omega) | (simp; done)) _ | with_reducible refine Below.setCell ?_ (by first | omega | (simp; omega) | (simp; done)) _ | with_reducible refine Below.drew ?_ | with_reducible refine below_drewN ?_ _)), by simp⟩
  case round =>
    obtain ⟨k, hk, rfl, ⟨D, hown, hD⟩, hbel, hsz⟩ := hrel
    have hnx := unhide HN
    by_cases hlt : k < n
    · have hkx : k < zs.length := by omega
      obtain ⟨ad, u, rfl, hSb, hu, hcell0⟩ := (unhide HR).at_ hlt
      rw [List.getElem?_map, List.getElem?_eq_getElem hkx] at hu
      obtain rfl := Option.some.inj hu
      have hcell : wr.cell? (ad.add k) = some (.int .i16 zs[k]) := (World.cell?_of_block (hbel.block _ (by rw [block_of_add]; exact hS _ hSb))).trans hcell0
      have hw := unhide HWF zs[k] (List.getElem_mem hkx)
      have hkey : keyOf Tryd.prog 55 (.int .i16 zs[k]) = some (.int .i16 zs[k]) := keyOf_int_mk Tryd.underlying55 hw
      have hbx := wfJ_Int16 hw
      have hst : zs.take (k + 1) = zs.take k ++ [zs[k]] := List.take_succ_eq_append_getElem hkx
      generalize zs[k] = x at *
      have HST := hide hst
      have HD := hide hD
      have HBEL := hide hbel
      have HSZ := hide hsz
      have HISM := hide hown.isMap
      have hkl : WideAt.IsKeyLit (Lit.int .i16 x) := by trivial
      have hk0 : (0 : Int) ≤ (k : Int) := by omega
      have hk1 : (k : Int) < (n : Int) := by omega
      clear hnx hu hcell0 hst hD hbel hsz
      go_wp2_with (at_mapUpdate; refine wpList_mapUpdate_own _ rfl _ _ _ 86 rfl 55 77 lawK_Int16 Tryd.underlying86 (unitElem (H := Unit)) w.heap.size k D rfl hown (by unfold maxLen; omega) _ _ _ rfl rfl hkey _ [] unitElem_mk ?_; intro w1 hown1 hgrow1)
      go_roundw
      case rel =>
        refine ⟨k + 1, hlt, by go_num, ⟨_, hown1, fun y => ?_⟩, (unhide HBEL).grown hgrow1 (unhide HBEL).size (fun j hj => by cases hj; exact Nat.le_refl _), Nat.lt_of_lt_of_le (unhide HSZ) hgrow1.size⟩
        rw [unhide HST]
        by_cases hyx : y = x
        · subst hyx
          rw [Maps.has_put_same (unhide HISM) hkl]
          simp
        · rw [Maps.has_put_other (fun e => hyx (by injection e)), unhide HD y]
          simp [hyx]
      case measure => simp [intOf]; omega
    · obtain rfl : k = n := by omega
      have hall : zs.take k = zs := List.take_of_length_le (by omega)
      rw [hall] at hD
      have hlt2 : ¬ (k : Int) < (k : Int) := by omega
      have HMJ := hide (mj_Int16 b0 w.heap.size k zs ks wr ((unhide HT).on (hbel.mono hb0)) (by omega) ⟨D, hown, hD⟩ hn2 hsz (fun x hx => wfJ_Int16 (unhide HWF x hx)) (unhide HKS))
      have HBEL := hide hbel
      have hzw := hbel.size
      rw [← unhide HBS] at HMJ
      obtain ⟨l, hl⟩ : ∃ l, l = bs.length := ⟨_, rfl⟩
      have HL := hide hl
      clear hown hD hbel hall hnx hsz hl
      go_wp2_with (go_at_call 38; go_loud (refine (unhide HMJ).mono ?_; unfold MjPost; rintro e w2 ⟨A2, c2, rfl, hc2, hm2, hr2, hb2⟩; have hcv := run_string_of_bytes (P := Tryd.prog) 24 9 5 Tryd.underlying24 Tryd.underlying5 Tryd.underlying9 hr2 c2; rw [← unhide HL] at hcv hc2 ⊢; have HB2 := hide hb2; clear hr2 hb2))
      go_ret
      exact ⟨rfl, (unhide HBEL).trans ((unhide HB2).mono hzw)⟩
end Go.Proofs.YtlnpiigdjjadiaaDoor
