/-
  The walk of the law FnPutSetInt64. No condition.
-/
import Derived.Test.YtlnpiigdjjadiaaSortCint64
import Derived.Test.YtlnpiigdjjadiaaInSetint64
import Derived.Test.YtlnpiigdjjadiaaSetRead
import Derived.Test.YtlnpiigdjjadiaaIsSet
import Derived.Test.YtlnpiigdjjadiaaRow
import Derived.Test.YtlnpiigdjjadiaaSPut
import Derived.Test.YtlnpiigdjjadiaaOutS
namespace Go.Proofs.Ytlnpiigdjjadiaa
set_option linter.unusedSimpArgs false
set_option linter.unusedVariables false
set_option linter.unusedVariables false
open Go.RowKit
/-- The bytes of the set of a list. -/
def setBytes_int64 (zs : List Int) : List UInt8 := part_int64 (setL zs).length (setL zs) (setL zs).length
theorem putSet_int64 (S : Nat → Prop) (A B : Option Addr) (bs : List UInt8) (zs : List Int) (n c nb cb : Nat) (w : World) (hn : n = zs.length) (hn2 : n ≤ 100) (hr : Reads w S 1 A n (zs.map (Value.int .i64))) (hS : Old w S) (hwf : ∀ x ∈ zs, (Lit.int .i64 x).wf = true)
    (hnb : nb = bs.length) (hrb : RB w S B bs) (hlb : nb ≤ 1000000) (hne : zs ≠ []) :
    Calls Try.prog 13 #[.slice B nb cb, .slice A n c] w (OutS w (bs ++ setBytes_int64 zs)) := by
  refine (fill_int64 S A B bs zs n c nb cb w (fun u w' => ∃ A' c', u = .slice A' (bs ++ setBytes_int64 zs).length c' ∧ (bs ++ setBytes_int64 zs).length ≤ c' ∧ c' ≤ maxLen ∧ RB w' (MadeS w w') A' (bs ++ setBytes_int64 zs) ∧ Below w.heap.size w w') hn hn2 hr hS hwf hnb hrb (by omega) ?_).mono ?_
  · intro W m v hset hm hown hbel hlt
    obtain ⟨A1, c1, rfl, hc1, hm1, _⟩ := own_slice hown
    refine (marshal_int64 sortC_int64 w.heap.size m bs.length c1 A1 _ zs W hset hwf hm hne hown (u8_one bs) hlt (by omega)).mono ?_
    rintro e w' ⟨v', ks, rfl, hasc, hmem, hown', hbel'⟩
    obtain rfl := setL_eq hasc hmem
    obtain ⟨A2, c2, rfl, hc2, hm2, hr2⟩ := own_slice hown'
    refine ⟨_, rfl, A2, c2, by rw [List.length_append]; rfl, by rw [List.length_append]; exact hc2, hm2, ?_, hbel.trans hbel'⟩
    have h3 := hr2.sub (T := MadeS w w') (fun b hb => ⟨by have := hb.1; omega, hb.2⟩)
    unfold RB
    rw [List.map_append, List.length_append]
    exact h3
  · rintro e w' ⟨u, rfl, A', c', rfl, h1, h2, h3, h4⟩
    exact ⟨A', c', rfl, h1, h2, h3, h4⟩
def pk_int64 : Int → Pack := fun x => .mk 2 (x % 18446744073709551616).toNat [] 0 []
def rk_int64 : Int → Pack := fun x => if 0 ≤ x then .mk 3 (x % 18446744073709551616).toNat [] 0 [] else .mk 2 (x % 18446744073709551616).toNat [] 0 []
def pc_int64 (x : Int) : List Value := [.int .i64 2, .int .u64 (IntKind.u64.wrap x), .string ⟨#[]⟩, .int .i64 0, .slice none 0 0]
theorem ps_int64 (w : World) (S : Nat → Prop) : ∀ (xs : List Int), (∀ x ∈ xs, -9223372036854775808 ≤ x ∧ x ≤ 9223372036854775807) → PacksC w S (xs.map pk_int64) (xs.flatMap pc_int64)
  | [], _ => by unfold PacksC; rfl
  | x :: xs, h => by
    have hx := h x (by simp)
    rw [List.map_cons, List.flatMap_cons]
    unfold PacksC
    refine ⟨_, _, rfl, rfl, ?_, ps_int64 w S xs fun y hy => h y (by simp [hy])⟩
    have h2 := PackC.flat w S 2 (pk_int64 x).num [] 0
    have e : (((pk_int64 x).num : Nat) : Int) = IntKind.u64.wrap x := by
      simp only [pk_int64, Pack.num]
      simp only [IntKind.wrap, IntKind.bits, IntKind.signed]
      simp
      omega
    rw [e] at h2
    exact h2
theorem setRead_int64 (ks : List Int) (hx : ∀ x ∈ ks, -9223372036854775808 ≤ x ∧ x ≤ 9223372036854775807) (hl : ks.length ≤ 100) : tPack 3 (part_int64 ks.length ks ks.length) = some (.mk 8 0 [] 0 (ks.map rk_int64), []) := by
  unfold part_int64
  rw [List.take_length]
  exact arr_read 2 encI rk_int64 ks hl (fun x _ => encI_posS x) fun x h zs => by
    have hb := hx x h
    have h := encI_read 1 x (x % 18446744073709551616).toNat zs (by omega) (by omega) (by omega)
    rw [h]
    simp only [rk_int64]
theorem setSame_int64 (ks : List Int) (hx : ∀ x ∈ ks, -9223372036854775808 ≤ x ∧ x ≤ 9223372036854775807) : samePk (.mk 8 0 [] 0 (ks.map rk_int64)) (.mk 8 0 [] 0 (ks.map pk_int64)) = true := by
  have h := samePs_map rk_int64 pk_int64 ks fun x h => by
    have hb := hx x h
    simp only [pk_int64, rk_int64]
    split
    · simp [samePk, samePs, nk]
      omega
    · simp [samePk, samePs]
  simp [samePk, h]
theorem setGood_int64 (ks : List Int) (hx : ∀ x ∈ ks, -9223372036854775808 ≤ x ∧ x ≤ 9223372036854775807) (hl : ks.length ≤ 100) : GoodP (.mk 8 0 [] 0 (ks.map rk_int64)) ∧ GoodPs (ks.map pk_int64) := by
  refine ⟨⟨by omega, by rw [List.length_map]; omega, goodPs_flat rk_int64 ks fun x h => ?_⟩, goodPs_flat pk_int64 ks fun x h => ?_⟩
  · have hb := hx x h
    simp only [rk_int64]
    repeat' split
    all_goals exact ⟨by omega, by simp, trivial⟩
  · have hb := hx x h
    simp only [pk_int64]
    exact ⟨by omega, by simp, trivial⟩
set_option maxRecDepth 100000 in
theorem awake_int64 (w : World) : Calls Try.prog 13 #[.slice none 0 0, .slice (some ⟨w.heap.size, 0, none⟩) 1 1] (w.alloc (.cells #[.int .i64 5] 2)) fun e w' => ∃ A c, e = .returned (.slice A 2 c) ∧ Below w.heap.size w w' := by
  refine (putSet_int64 (fun b => b = w.heap.size) (some ⟨w.heap.size, 0, none⟩) none [] [5] 1 1 0 0 (w.alloc (.cells #[.int .i64 5] 2)) rfl (by omega) (reads_blkS (S := fun b => b = w.heap.size) (t := 2) (cs := #[.int .i64 5]) (Blk.newS rfl) rfl 1 1 rfl) (fun b hb => by subst hb; simp) (by intro x hx; simp at hx; subst hx; rfl) rfl ⟨rfl, fun h => absurd h (by simp)⟩ (by omega) (by simp)).mono ?_
  rintro e w' ⟨A, c, rfl, h1, h2, h3, h4⟩
  have e2 : ([] ++ setBytes_int64 [5]).length = 2 := by decide +kernel
  rw [e2]
  exact ⟨A, c, rfl, Below.trans (by repeat (first | with_reducible exact Below.refl _ _ | with_reducible exact x | with_reducible refine Below.alloc ?_ (by first | omega | (simp; omega) | (simp; done)) _ | with_reducible refine Below.setCell ?_ (by first | omega | (simp; omega) | (simp; done)) _ | with_reducible refine Below.drew ?_ | with_reducible refine below_drewN ?_ _)) (h4.mono (by simp))⟩
theorem FnPutSetInt64_far (A D : Option Addr) (n cap l dcap : Nat) (w : World) (h : 2147483647 < n ∨ 2147483647 < l) : Calls Try.prog 5 #[.slice A n cap, .slice D l dcap] w (TrueR w) := by
  by_cases h1 : 2147483647 < n
  · have h2 : (2147483647 : Int) < (n : Int) := by omega
    clear h
    go_enter Try.func5, Try.ntmps5
    go_wp2
    go_ret
    exact ⟨rfl, Below.refl _ _⟩
  · have h2 : ¬ (2147483647 : Int) < (n : Int) := by omega
    have h3 : (2147483647 : Int) < (l : Int) := by omega
    clear h
    go_enter Try.func5, Try.ntmps5
    go_wp2
    go_ret
    exact ⟨rfl, Below.refl _ _⟩
set_option maxHeartbeats 800000 in
theorem FnPutSetInt64_not (A D : Option Addr) (n cap l dcap : Nat) (w : World) (h' : n ≤ 2147483647) (hl' : l ≤ 2147483647) (h : 200 < n ∨ 100 < l) : Calls Try.prog 5 #[.slice A n cap, .slice D l dcap] w (TrueR w) := by
  have hf := few_any A n cap
  have h1 : ¬ (2147483647 : Int) < (n : Int) := by omega
  have h2 : ¬ (2147483647 : Int) < (l : Int) := by omega
  have hcase : 200 < n ∨ (n ≤ 200 ∧ 100 < l) := by omega
  have hn9 : n ≤ 9223372036854775807 := by omega
  clear h
  rcases hcase with hc | ⟨hc, hc2⟩
  · have hd : decide (n ≤ 200) = false := by simp; omega
    rw [hd] at hf
    have HF := hide hf
    clear hf hc hd
    go_enter Try.func5, Try.ntmps5
    go_wp2_with (first
      | (go_at_call 13; go_loud (refine (awake_int64 w).mono ?_; rintro e w1 ⟨A1, c1, rfl, hb1⟩))
      | (go_at_call 8; go_loud (refine (unhide HF _ hn9).mono ?_; rintro e w2 ⟨rfl, rfl⟩)))
    go_ret
    exact ⟨rfl, hb1⟩
  · have hd : decide (n ≤ 200) = true := by simp; omega
    have h3 : (100 : Int) < (l : Int) := by omega
    rw [hd] at hf
    have HF := hide hf
    clear hf hc hd hc2
    go_enter Try.func5, Try.ntmps5
    go_wp2_with (first
      | (go_at_call 13; go_loud (refine (awake_int64 w).mono ?_; rintro e w1 ⟨A1, c1, rfl, hb1⟩))
      | (go_at_call 8; go_loud (refine (unhide HF _ hn9).mono ?_; rintro e w2 ⟨rfl, rfl⟩)))
    go_ret
    exact ⟨rfl, hb1⟩
set_option maxRecDepth 100000 in
set_option maxHeartbeats 3200000 in
theorem FnPutSetInt64_few (A D : Option Addr) (bs : List UInt8) (zs : List Int) (cap dcap l : Nat) (w : World) (h : bs.length ≤ 200) (hl : l = zs.length) (hld : l ≤ 100) (hc : bs.length ≤ cap) (hm : cap ≤ maxLen) (hr : RB w (Lt w.heap.size) A bs) (hrD : Reads w (Lt w.heap.size) 1 D l (zs.map (Value.int .i64))) (hwf : ∀ x ∈ zs, (Lit.int .i64 x).wf = true) :
    Calls Try.prog 5 #[.slice A bs.length cap, .slice D l dcap] w (TrueR w) := by
  have hm : cap ≤ 9223372036854775807 := hm
  have hd : decide (bs.length ≤ 200) = true := by simp; omega
  have hf := few_any A bs.length cap
  rw [hd] at hf
  have HF := hide hf
  have h1 : ¬ (2147483647 : Int) < (bs.length : Int) := by omega
  have h2 : ¬ (2147483647 : Int) < (l : Int) := by omega
  have h3 : ¬ (100 : Int) < (l : Int) := by omega
  have hmem : ∀ x ∈ setL zs, -9223372036854775808 ≤ x ∧ x ≤ 9223372036854775807 := fun x hx => wf_int64 (hwf x (((setL_both zs).2 x).1 hx))
  have HMEM := hide hmem
  have HWF := hide hwf
  have HL := hide hl
  have hsl : (setL zs).length ≤ 100 := by have := setL_len zs; omega
  obtain ⟨ns, hns⟩ : ∃ ns, ns = setL zs := ⟨_, rfl⟩
  obtain ⟨q, hq⟩ : ∃ q, q = ns.length := ⟨_, rfl⟩
  have hq100 : q ≤ 100 := by rw [hq, hns]; exact hsl
  have HNS := hide hns
  have HQ := hide hq
  have hsb : setBytes_int64 zs = part_int64 ns.length ns ns.length := by rw [hns]; rfl
  have HSB := hide hsb
  have hne0 : ns ≠ [] → zs ≠ [] := by
    intro h0 e
    subst e
    exact h0 (by rw [hns]; rfl)
  have HNE := hide hne0
  clear hf hd hmem hl hsl hns hq hsb hne0 hwf
  go_enter Try.func5, Try.ntmps5
  go_wp2_with (first
    | (go_at_call 13; go_loud (refine (awake_int64 w).mono ?_; rintro e w1 ⟨A1, c1, rfl, hb1⟩; have HB1 := hide hb1; have hr1 := hr.keep (stays_below (Stays.refl _ _) hb1 (Old.lt _)); have hrD1 := hrD.keep (stays_below (Stays.refl _ _) hb1 (Old.lt _)); have ho1 : Old w1 (Lt w.heap.size) := fun b hb => Nat.lt_of_lt_of_le hb hb1.size; have HIN := hide (inSet_int64 (Lt w.heap.size) D zs l dcap w1 (unhide HL) hld hrD1 ho1); clear hb1))
    | (go_at_call 8; go_loud (refine (unhide HF _ (by omega)).mono ?_; rintro e w2 ⟨rfl, rfl⟩))
    | (go_at_call 14; go_loud (refine (unhide HIN).mono ?_; rw [← unhide HNS]; rintro e w2 ⟨v2, rfl, hown2, hb2⟩; obtain ⟨A2, c2, rfl, hc2, hm2, hrd2⟩ := own_slice hown2; rw [← unhide HQ] at hc2 hrd2 ⊢; have HRD2 := hide hrd2; have HB2 := hide hb2; clear hown2 hb2 hrd2)))
  go_loopw [6, 33] (fun v i wr => ∃ (k : Nat) (K : Option Addr) (kc : Nat), i = .int .i64 k ∧ k ≤ q ∧ v = .slice K k kc ∧ wr.ownsRow w2.heap.size 31 5 (.slice K k kc) k ((ns.take k).flatMap pc_int64) ∧ Below w2.heap.size w2 wr) (fun _ i _ => q - (intOf i).toNat)
  case atStart => exact ⟨0, none, 0, rfl, Nat.zero_le _, rfl, World.ownsRow_nil _ _ _ _, Below.refl _ _⟩
  case round =>
    obtain ⟨k, K, kc, rfl, hk, rfl, hown, hbel⟩ := hrel
    by_cases hlt : k < q
    · obtain ⟨ad, u, rfl, hSb, hu, hcell⟩ := ((unhide HRD2).keep (fun b hb => hbel.block b hb.2)).at_ hlt
      have hln : k < ns.length := by have := unhide HQ; omega
      have hux : u = .int .i64 ns[k] := by
        rw [List.getElem?_map, List.getElem?_eq_getElem hln] at hu
        simpa using hu.symm
      have htk : (ns.take (k + 1)).flatMap pc_int64 = (ns.take k).flatMap pc_int64 ++ pc_int64 ns[k] := by
        rw [List.take_succ_eq_append_getElem hln, List.flatMap_append]
        simp
      have hbd := (unhide HMEM) ns[k] (by rw [← unhide HNS]; exact List.getElem_mem hln)
      generalize ns[k] = x at *
      subst hux
      have HTK := hide htk
      have HOWN := hide hown
      have HBEL := hide hbel
      have hk0 : (0 : Int) ≤ (k : Int) := by omega
      have hk1 : (k : Int) < (q : Int) := by omega
      have hwr1 : IntKind.i64.wrap x = x := by
        simp only [IntKind.wrap, IntKind.bits, IntKind.signed]
        simp
        omega
      
      clear htk hu hown hbel
      go_wp2_with (at_builtin; go_loud (obtain ⟨i0, hi0, hiz, his, hib⟩ := info_parts info30; refine wpList_append_any (S := fun _ => True) _ rfl _ _ 27 rfl w2.heap.size 31 i0 _ 5 64 Try.underlying27 hi0 hiz his hib ?x1 ?x2 (.slice K k kc) k ((ns.take k).flatMap pc_int64) ?x3 ?x4 (some ⟨wr.heap.size, 0, none⟩) 1 1 (pc_int64 x) ?x5 ?x6 (fives) ?x7 ?x8 ?x9 ?_; (case x1 => rfl); (case x2 => omega); (case x3 => rfl); (case x4 => exact own_below (unhide HOWN) (by repeat (first | with_reducible exact Below.refl _ _ | with_reducible exact x | with_reducible refine Below.alloc ?_ (by first | omega | (simp; omega) | (simp; done)) _ | with_reducible refine Below.setCell ?_ (by first | omega | (simp; omega) | (simp; done)) _ | with_reducible refine Below.drew ?_ | with_reducible refine below_drewN ?_ _))); (case x5 => rfl); (case x6 => exact reads_blkS (S := fun _ => True) (t := 31) (cs := (pc_int64 x).toArray) (Blk.newS rfl) trivial 5 1 rfl); (case x7 => unfold maxLen; omega); (case x8 => omega); (case x9 => have := (unhide HBEL).size; simp; omega); clear hi0 hiz his hib; intro v6 w6 hown6 hgr6 hat6; obtain ⟨K6, kc6, rfl, _, _, _⟩ := own_slice hown6; have hB6 : Below w2.heap.size w2 w6 := (Below.alloc (unhide HBEL) (unhide HBEL).size _).grown hgr6 (by have := (unhide HBEL).size; simp; omega) (fun j hj => by have := (unhide HOWN).lt j hj; omega); have HO6 := hide hown6; have HB6 := hide hB6; clear hown6 hB6 hgr6 hat6))
      go_roundw
      case rel => exact ⟨k + 1, K6, kc6, by go_num, by omega, rfl, by rw [unhide HTK]; exact unhide HO6, unhide HB6⟩
      case measure => simp [intOf]; omega
    · obtain rfl : k = q := by omega
      have hk1 : ¬ (k : Int) < (k : Int) := by omega
      have hall : ns.take k = ns := List.take_of_length_le (by have := unhide HQ; omega)
      rw [hall] at hown
      obtain ⟨K', kc', hv, hkc, hkm, hRk⟩ := own_slice hown
      obtain ⟨rfl, _, rfl⟩ := Value.slice.inj hv
      have hB1 := unhide HB1
      have hB2 := unhide HB2
      have hw2 : Below w.heap.size w w2 := hB1.trans (hB2.mono hB1.size)
      have hwr : Below w.heap.size w wr := hw2.trans (hbel.mono hw2.size)
      have HRK := hide hRk
      have HW := hide hwr
      have hzr := hwr.size
      unfold maxLen at hkm
      by_cases hk0 : k = 0
      · subst hk0
        have h0 : ((0 : Nat) : Int) = 0 := rfl
        clear hRk hown hbel hall hv hB1 hB2 hw2 hwr
        go_wp2
        go_ret
        exact ⟨rfl, unhide HW⟩
      · have hk00 : ¬ (k : Int) = 0 := by omega
        have hz0 := (unhide HNE) (by intro e; have := unhide HQ; rw [e] at this; simp at this; omega)
        have hr2 := hr.keep (fun b hb => hwr.block b hb)
        have hrD2 := hrD.keep (fun b hb => hwr.block b hb)
        have hzw2 := hw2.size
        have ho2 : Old wr (Lt w.heap.size) := fun b hb => Nat.lt_of_lt_of_le hb hwr.size
        have HRD := hide hrD2
        have HB5 := hide hbel
        clear hRk hown hbel hall hv hB1 hB2 hw2 hwr hrD2
        go_wp2_with (first
          | (at_builtin; go_loud (obtain ⟨i0, hi0, hz0', hz1', hz2⟩ := info_parts info5; refine wpList_append_any (S := Lt w.heap.size) _ rfl _ _ _ rfl wr.heap.size 5 i0 _ 1 1 Try.underlying22 hi0 hz0' hz1' hz2 ?x1 ?x2 (.slice (some ⟨wr.heap.size, 0, none⟩) 0 0) 0 [] ?x3 ?x8 A bs.length cap (bs.map Go.Proofs.Ytlnpiigdjjadiaa.u8) ?x4 ?x5 (u8_one bs) ?c3 ?x7 ?c4 ?_; (case x1 => rfl); (case x2 => omega); (case x3 => rfl); (case x4 => rfl); (case x5 => exact hr2.keep (by go_simp)); (case x7 => omega); (case x8 => exact World.ownsRow_made _ #[] 0 (Nat.le_refl _) (Nat.zero_le _) rfl); (case c3 => unfold maxLen; omega); (case c4 => simp); clear hi0 hz0' hz1' hz2; intro v3 w3 hown3 hgrow3 hat3; have hb3 : Below wr.heap.size wr w3 := ((by repeat (first | with_reducible exact Below.refl _ _ | with_reducible refine Below.alloc ?_ (by first | omega | (simp; omega) | (simp; done)) _ | with_reducible refine Below.drew ?_ | with_reducible refine below_drewN ?_ _)) : Below wr.heap.size wr (wr.alloc _)).grown hgrow3 (by simp) (fun k hk => by simp [Value.ownBlock] at hk; omega); obtain ⟨A3, c3, rfl, hc3, hcm3, hr3⟩ := own_slice hown3; have HB3 := hide hb3; have hz3 := hb3.size; clear hown3 hgrow3 hat3))
          | (go_at_call 13; go_loud (refine (putSet_int64 (fun b => b < w3.heap.size) D A3 bs zs l dcap _ c3 w3 (unhide HL) hld (((unhide HRD).keep (fun b hb => (unhide HB3).block b (by have : b < w.heap.size := hb; omega))).sub (fun b hb => by have : b < w.heap.size := hb; show b < w3.heap.size; omega)) (fun b hb => hb) (unhide HWF) (by first | rfl | simp | omega) (by have h := hr3.sub (T := fun b => b < w3.heap.size) (fun b hb => hb.2); unfold RB; simpa using h) (by first | omega | (simp; omega)) hz0).mono ?_; rw [unhide HSB]; rintro e w4 ⟨A4, c4, rfl, hc4, hcm4, hr4, hb4⟩; rw [List.length_append] at hc4 ⊢; have HB4 := hide hb4; have HR4 := hide hr4; have HC4 := hide hc4; have hz4 := hb4.size; clear hb4 hr4 hc4))
          | (go_at_call 10; go_loud (refine (isSet_ok bs (part_int64 ns.length ns ns.length) (.mk 8 0 [] 0 (ns.map rk_int64)) (ns.map pk_int64) A A4 K bs.length _ k cap c4 kc (ns.flatMap pc_int64) (Lt w.heap.size) (MadeS w3 w4) (fun b => w2.heap.size ≤ b ∧ b < wr.heap.size) w4 ?o1 ?o2 ?o3 rfl rfl ?n3 ?r1 (unhide HR4) hc (unhide HC4) hm ?m2 ?l1 ?c3 ?m3 ?r3 ?p3 ?g1 ?g2 ?g3 ?t1 ?t2).mono ?_; (case o1 => exact fun b hb => by have : b < w.heap.size := hb; omega); (case o2 => exact fun b hb => hb.2); (case o3 => exact fun b hb => by omega); (case n3 => rw [List.length_map]; exact unhide HQ); (case r1 => exact ((hr2.keep (fun b hb => (unhide HB3).block b (by have : b < w.heap.size := hb; omega))).keep (fun b hb => (unhide HB4).block b (by have : b < w.heap.size := hb; omega)))); (case m2 => exact hcm4); (case l1 => have := part_len_int64 ns.length ns ns.length (Nat.le_refl _); have := unhide HQ; omega); (case c3 => rw [List.length_map, ← unhide HQ]; exact hkc); (case m3 => unfold maxLen; omega); (case r3 => rw [List.length_map, ← unhide HQ]; exact ((unhide HRK).keep (fun b hb => (unhide HB3).block b (by omega))).keep (fun b hb => (unhide HB4).block b (by omega))); (case p3 => exact ps_int64 _ _ ns (by rw [unhide HNS]; exact unhide HMEM)); (case g1 => exact (setGood_int64 ns (by rw [unhide HNS]; exact unhide HMEM) (by have := unhide HQ; omega)).1); (case g2 => exact (setGood_int64 ns (by rw [unhide HNS]; exact unhide HMEM) (by have := unhide HQ; omega)).2); (case g3 => rw [List.length_map, ← unhide HQ]; omega); (case t1 => exact setRead_int64 ns (by rw [unhide HNS]; exact unhide HMEM) (by have := unhide HQ; omega)); (case t2 => exact setSame_int64 ns (by rw [unhide HNS]; exact unhide HMEM)); rintro e w5 ⟨rfl, hb5⟩; have HB5' := hide hb5; clear hb5)))
        go_ret
        refine ⟨rfl, ?_⟩
        have k1 := unhide HW
        have k3 := (unhide HB3).mono k1.size
        have k4 := (unhide HB4).mono (Nat.le_trans k1.size (unhide HB3).size)
        have k5 := (unhide HB5').mono (Nat.le_trans (Nat.le_trans k1.size (unhide HB3).size) (unhide HB4).size)
        exact ((k1.trans k3).trans k4).trans k5
theorem FnPutSetInt64_walk (A : Option Addr) (n cap : Nat) (zs : List Int) (D : Option Addr) (l dcap : Nat) (ds : List Int) (w : World) (hrow : RowIn .u8 w A n cap zs) (hrowD : RowIn .i64 w D l dcap ds) :
    Calls Try.prog 5 #[.slice A n cap, .slice D l dcap] w fun e w' => e = .returned (.bool true) ∧ Below w.heap.size w w' := by
  obtain ⟨hrD, hlD, hcD, hmD, hwfD⟩ := ints_of_row hrowD
  obtain ⟨bs, rfl, hr, hc, hm⟩ := bytes_of_row hrow
  by_cases hf : 2147483647 < bs.length ∨ 2147483647 < l
  · exact FnPutSetInt64_far A D _ cap l dcap w hf
  by_cases h2 : 200 < bs.length ∨ 100 < l
  · exact FnPutSetInt64_not A D _ cap l dcap w (by omega) (by omega) h2
  · exact FnPutSetInt64_few A D bs (ds.take l) cap dcap l w (by omega) hlD.symm (by omega) hc hm hr hrD hwfD
end Go.Proofs.Ytlnpiigdjjadiaa
