/-
  Lemmas, 2 texts in one: UmByte, GsByte. Each says its conditions.
-/
import Derived.Test.YtlnpiigdjjadiaaDoorGGetSetBytel
import Derived.Test.YtlnpiigdjjadiaaDoorGGetSetByteg
import Derived.Test.YtlnpiigdjjadiaaDoorGGetSetByter

/-
  setof.ByteSorted.UnmarshalMsg and impl.GetSetByte of bytes that are an array of such values. Conditions: msgp.ErrShortBytes is not nil, at most 100 values.
-/
namespace Go.Proofs.YtlnpiigdjjadiaaDoor
set_option linter.unusedSimpArgs false
set_option linter.unusedVariables false
set_option linter.unusedVariables false
open Go.RowKit Go.Maps
theorem mapEq_Byte (w : World) : (binOp BinOp.eql 73 (.map none) (.map none)).run Tryd.prog w = .ok (.bool true) w := by kernel_rfl
/-- What UnmarshalMsg leaves: the set behind the pointer, the rest of the bytes. -/
def UmPost_Byte (S : Nat → Prop) (g : Nat) (zb : List UInt8) (xs : List Int) (w : World) (e : Ending) (w' : World) : Prop :=
  ∃ A' n' c' mb nb, e = .returned (.tuple #[.slice A' n' c', .nilIface]) ∧ n' = zb.length ∧ n' ≤ c' ∧ c' ≤ maxLen ∧ RB w' S A' zb ∧
      w'.cell? ⟨g, 0, none⟩ = some (.map (some mb)) ∧ w'.frozen? ⟨g, 0, none⟩ = false ∧ nb ≤ 100 ∧ w.heap.size ≤ mb ∧ mb < w'.heap.size ∧ SetAt_Byte w' mb nb xs ∧ w.grownBy w' (some g)
theorem mapMade_Byte (x : Int) (w : World) : (Instr.makeMap 73 (some (.int .u32 x))).run Tryd.prog w = .ok (.map (some w.heap.size)) (w.alloc (.map #[] 0)) := by
  simp [Instr.makeMap, run_underlying Tryd.underlying73, asInt, asIntOf]
set_option maxRecDepth 100000 in
set_option maxHeartbeats 3200000 in
theorem um_Byte (S : Nat → Prop) (A : Option Addr) (bs : List UInt8) (n c g m : Nat) (rest : Nat → List UInt8) (xs : List Int) (w : World) (hE : ErrAt w) (hn : n = bs.length) (hr : RB w S A bs) (hc : n ≤ c) (hcm : c ≤ maxLen) (hS : Old w S) (hgS : ¬ S g) (hg : Blk w g 73 #[.map none])
    (hgE : 0 ≠ g) (hb0 : ∃ b r, bs = b :: r ∧ b.toNat ≠ 192) (hA : arrH bs = some (m, rest 0)) (hm : m = xs.length) (hm2 : m ≤ 100) (hx : ∀ k (h : k < xs.length), uint8V (rest k) = some (.int .u8 xs[k], rest (k + 1))) (hwf : ∀ x ∈ xs, (Lit.int .u8 x).wf = true) :
    Calls Tryd.prog 32 #[.pointer (some ⟨g, 0, none⟩), .slice A n c] w (UmPost_Byte S g (rest m) xs w) := by
  have hmm := mapMade_Byte
  have hme := mapEq_Byte
  have hcm9 : c ≤ 9223372036854775807 := by unfold maxLen at hcm; omega
  have HNIL := hide (isNil_no S A bs n c w hn hr hc hb0)
  have HRA := hide (readArr_any S A bs n c w hE hn hr hc hcm9 hS)
  rw [hA] at HRA
  have HX := hide hx
  have HWF := hide hwf
  have HM := hide hm
  have HE := hide hE
  have hgl := hg.lt
  clear hn hr hb0 hA hx hwf hm hE
  go_enter Tryd.func32, Tryd.ntmps32
  go_wp2_with (first
    | (go_at_call 39; go_loud (refine (unhide HNIL).mono ?_; rintro e w1 ⟨rfl, rfl⟩))
    | (go_at_call 40; go_loud (refine (unhide HRA).mono ?_; rintro e w2 ⟨hb2, A2, n2, c2, rfl, hn2, hc2, hm2', hr2⟩; have HR2 := hide hr2; have HN2 := hide hn2; have HB2 := hide hb2; have hcg2 := (Blk.cell (hg.below hb2 hgl) 0); have hfg2 := (Blk.frozen (hg.below hb2 hgl) 0); have hz2 := hb2.size; have HG2 := hide (hg.below hb2 hgl); clear hr2 hn2 hb2)))
  go_loopw [1, 34] (fun d i wr => ∃ (k : Nat) (A3 : Option Addr) (n3 c3 : Nat), k ≤ m ∧ i = .int .u32 k ∧ d = .slice A3 n3 c3 ∧ n3 = (rest k).length ∧ n3 ≤ c3 ∧ c3 ≤ maxLen ∧ RB wr S A3 (rest k) ∧ SetAt_Byte wr w2.heap.size k (xs.take k) ∧ Below w2.heap.size w2 wr ∧ w2.heap.size < wr.heap.size) (fun _ i _ => m - (intOf i).toNat)
  case atStart => exact ⟨0, A2, n2, c2, Nat.zero_le _, rfl, rfl, unhide HN2, hc2, hm2', (unhide HR2).keep (stays_alloc (fun b hb => by have := hS b hb; omega) (Stays.refl _ _) _), ⟨_, World.ownsMap_made _ _ _ _, fun x => by simp [Maps.has]⟩, (by repeat (first | with_reducible exact Below.refl _ _ | with_reducible exact x | with_reducible refine Below.alloc ?_ (by first | omega | (simp; omega) | (simp; done)) _ | with_reducible refine Below.setCell ?_ (by first | omega | (simp; omega) | (simp; done)) _ | with_reducible refine Below.drew ?_ | with_reducible refine below_drewN ?_ _)), by simp⟩
  case round =>
    obtain ⟨k, A3, n3, c3, hk, rfl, rfl, hn3, hc3, hm3, hr3, ⟨D, hown, hD⟩, hbel, hsz⟩ := hrel
    have hMl := unhide HM
    have ho3 : Old wr S := fun b hb => by have := hS b hb; omega
    by_cases hlt : k < m
    · have hkx : k < xs.length := by omega
      have hread := readByte_any S A3 (rest k) n3 c3 wr (((unhide HE).on (unhide HB2)).on hbel) hn3 hr3 hc3 (by unfold maxLen at hm3; omega) ho3
      rw [unhide HX k hkx] at hread
      have hw := unhide HWF xs[k] (List.getElem_mem hkx)
      have hkey : keyOf Tryd.prog 5 (.int .u8 xs[k]) = some (.int .u8 xs[k]) := keyOf_int_mk Tryd.underlying5 hw
      have hst : xs.take (k + 1) = xs.take k ++ [xs[k]] := List.take_succ_eq_append_getElem hkx
      generalize xs[k] = x at *
      have HREAD := hide hread
      have HST := hide hst
      have HD := hide hD
      have HBEL := hide hbel
      have HSZ := hide hsz
      have HOWN := hide hown
      have hkl : WideAt.IsKeyLit (Lit.int .u8 x) := by trivial
      have hk0 : (0 : Int) ≤ (k : Int) := by omega
      have hk1 : (k : Int) < (m : Int) := by omega
      have hk32 : IntKind.u32.wrap ((k : Int) + 1) = (k : Int) + 1 := by
        simp only [IntKind.wrap, IntKind.bits, IntKind.signed]
        simp
        omega
      clear hread hst hD hbel hsz hn3 hr3 hMl hown
      go_wp2_with (first
        | (go_at_call 47; go_loud (refine (unhide HREAD).mono ?_; rintro e w4 ⟨hb4, A4, n4, c4, rfl, hn4, hc4, hm4, hr4⟩; have hown4 := (unhide HOWN).kept (only_of_below hb4 none) (by simp); have HISM := hide hown4.isMap; have HR4 := hide hr4; have HN4 := hide hn4; have HB4 := hide ((unhide HBEL).trans (hb4.mono (unhide HBEL).size)); have HZ4 := hide (Nat.lt_of_lt_of_le (unhide HSZ) hb4.size); clear hr4 hn4 hb4))
        | (at_mapUpdate; go_loud (refine wpList_mapUpdate_own _ rfl _ _ _ 73 rfl 5 77 lawK_Byte Tryd.underlying73 (unitElem (H := Unit)) w2.heap.size k D rfl hown4 (by unfold maxLen; omega) _ _ _ rfl rfl hkey _ [] unitElem_mk ?_; intro w5 hown5 hgrow5; have HOWN5 := hide hown5; have HG5 := hide hgrow5; clear hown5 hgrow5)))
      go_roundw
      case rel =>
        refine ⟨k + 1, A4, n4, c4, hlt, by first | rfl | go_num | (simp; done), rfl, unhide HN4, hc4, hm4, (unhide HR4).keep (fun b hb => (unhide HG5).block b (by have := hS b hb; have := unhide HZ4; omega) (by intro e; injection e with e; have := hS b hb; omega)), ⟨_, unhide HOWN5, fun y => ?_⟩, (unhide HB4).grown (unhide HG5) (unhide HB4).size (fun j hj => by cases hj; exact Nat.le_refl _), Nat.lt_of_lt_of_le (unhide HZ4) (unhide HG5).size⟩
        rw [unhide HST]
        by_cases hyx : y = x
        · subst hyx
          rw [Maps.has_put_same (unhide HISM) hkl]
          simp
        · rw [Maps.has_put_other (fun e => hyx (by injection e)), unhide HD y]
          simp [hyx]
      case measure => simp [intOf]; omega
    · obtain rfl : k = m := by omega
      have hall : xs.take k = xs := List.take_of_length_le (by omega)
      rw [hall] at hD
      have hlt2 : ¬ (k : Int) < (k : Int) := by omega
      have HD := hide hD
      have HBEL := hide hbel
      have HN3 := hide hn3
      have HR3 := hide hr3
      have HOWN := hide hown
      have hgw := (unhide HG2).below hbel (by omega)
      have hcg3 := hgw.cell 0
      have hfg3 := hgw.frozen 0
      have HGW := hide hgw
      clear hD hbel hn3 hr3 hown hgw hMl hall
      go_wp2
      go_ret2
      have hq := (unhide HGW).set_ 0 (.map (some w2.heap.size))
      refine ⟨A3, n3, c3, w2.heap.size, k, rfl, unhide HN3, hc3, hm3, (unhide HR3).keep (stays_setCell (fun h => hgS h) (Stays.refl _ _) _), by have := hq.cell 0; simpa using this, by have := hq.frozen 0; simpa using this, hm2, by omega, by simp; omega, ⟨D, (unhide HOWN).kept (grown_setCellS _ _ _) (by simp; omega), unhide HD⟩, ?_⟩
      exact grown_trans' (grown_trans' (only_of_below (unhide HB2) (some g)) (only_of_below (unhide HBEL) (some g)) (fun _ h => .inl h)) (grown_setCellS _ _ _) (fun _ h => .inl h)
end Go.Proofs.YtlnpiigdjjadiaaDoor

/-
  impl.GetSetByte of bytes that are an array of such values: its values, each once, by their order, and what stands behind it. Conditions: msgp.ErrShortBytes is not nil, at most 100 values.
-/
namespace Go.Proofs.YtlnpiigdjjadiaaDoor
set_option linter.unusedSimpArgs false
set_option linter.unusedVariables false
set_option linter.unusedVariables false
open Go.RowKit Go.Maps
/-- A set's values, and what stood behind it. -/
def GotS_Byte (zb : List UInt8) (ks : List Int) (w : World) (e : Ending) (w' : World) : Prop :=
  ∃ Al cl Ar cr, e = .returned (.tuple #[.slice Al ks.length cl, .slice Ar zb.length cr, .bool true]) ∧ ks.length ≤ cl ∧ cl ≤ maxLen ∧ Reads w' (Made w w') 1 Al ks.length (ks.map (Value.int .u8)) ∧ RB w' (Made w w') Ar zb ∧ Below w.heap.size w w'
theorem rb_of {w : World} {S : Nat → Prop} {A : Option Addr} {bs : List UInt8} {l : Nat} (hl : l = bs.length) (h : Reads w S 1 A l (bs.map u8)) : RB w S A bs := by
  subst hl
  exact h
theorem infoG_Byte : (Tryd.prog.info? 5).map (fun i => (i.zero, i.size, i.bytes)) = some (some (.int .u8 0), 1, 1) := by kernel_rfl
set_option maxRecDepth 100000 in
set_option maxHeartbeats 3200000 in
theorem getSet_Byte (S : Nat → Prop) (A : Option Addr) (bs : List UInt8) (n c m : Nat) (rest : Nat → List UInt8) (xs ks : List Int) (w : World) (hE : ErrAt w) (hn : n = bs.length) (hr : RB w S A bs) (hc : n ≤ c) (hcm : c ≤ maxLen) (hS : Old w S) (hlen : bs.length ≤ 1000000000)
    (hb0 : ∃ b r, bs = b :: r ∧ b.toNat ≠ 192) (hA : arrH bs = some (m, rest 0)) (hm : m = xs.length) (hm2 : m ≤ 100) (hm3 : m ≤ (rest 0).length) (hl : (rest m).length ≤ 1000000000) (hx : ∀ k (h : k < xs.length), uint8V (rest k) = some (.int .u8 xs[k], rest (k + 1))) (hwf : ∀ x ∈ xs, (Lit.int .u8 x).wf = true) (hks : ks = setL xs) :
    Calls Tryd.prog 13 #[.slice A n c] w (GotS_Byte (rest m) ks w) := by
  obtain ⟨T, hT⟩ : ∃ T, T = GotS_Byte (rest m) ks w := ⟨_, rfl⟩
  rw [← hT]
  have HT := hide hT
  have HEN := hide (enough_yes S A bs n c m (rest 0) w hE hn hr hc hcm hS hlen hb0 hA (by omega) hm3)
  have HCP := fun (W : World) (hb : Below w.heap.size w W) => copied_any S A bs n c W hn (hr.keep (fun b hb2 => hb.block b (hS b hb2))) (fun b hb2 => Nat.lt_of_lt_of_le (hS b hb2) hb.size) (by omega)
  have HCP := hide HCP
  have HUM := fun (S2 : Nat → Prop) (A2 : Option Addr) (c2 g : Nat) (W : World) (h1 : ErrAt W) (h2 : RB W S2 A2 bs) (h3 : bs.length ≤ c2) (h4 : c2 ≤ maxLen) (h5 : Old W S2) (h6 : ¬ S2 g) (h7 : Blk W g 73 #[.map none]) (h8 : 0 ≠ g) => um_Byte S2 A2 bs bs.length c2 g m rest xs W h1 rfl h2 h3 h4 h5 h6 h7 h8 hb0 hA hm hm2 hx hwf
  have HUM := hide HUM
  have HKS := hide hks
  have HE := hide hE
  have hE0 := hE.pos
  obtain ⟨zb, hzb⟩ : ∃ zb, zb = rest m := ⟨_, rfl⟩
  rw [← hzb] at HUM HT hl
  obtain ⟨lz, hlz⟩ : ∃ lz, lz = zb.length := ⟨_, rfl⟩
  have HLZ := hide hlz
  obtain ⟨lb, hlb⟩ : ∃ lb, lb = bs.length := ⟨_, rfl⟩
  have HLB := hide hlb
  rw [← hlb] at HUM
  obtain ⟨q, hq⟩ : ∃ q, q = ks.length := ⟨_, rfl⟩
  have HQ := hide hq
  clear hn hr hb0 hA hx hwf hm hE hks hlen hzb hlz hlb hq hT
  go_enter Tryd.func13, Tryd.ntmps13
  obtain ⟨i0, hi0, hiz, his, hib⟩ := info_parts infoG_Byte
  go_wp2_with (first
    | (go_at_call 24; go_loud (refine (unhide HEN).mono ?_; rintro e w1 ⟨rfl, hb1⟩; have HB1 := hide hb1; have hz1 := hb1.size; clear hb1))
    | (go_at_call 32; go_loud (refine (unhide HUM (fun b => w1.heap.size + 1 ≤ b ∧ b < w2.heap.size) A2 c2 w1.heap.size w2 ?e1 ?e2 ?e3 ?e4 ?e5 ?e6 ?e7 ?e8).mono ?_; (case e1 => exact ((unhide HE).on (unhide HB1)).on (unhide HB2)); (case e2 => exact (unhide HR2).sub (fun b hb => by simpa using hb)); (case e3 => exact hc2); (case e4 => exact hm2'); (case e5 => exact fun b hb => hb.2); (case e6 => exact fun h => by have := h.1; omega); (case e7 => exact unhide HG2); (case e8 => omega); unfold UmPost_Byte; rintro e w3 ⟨A3, n3, c3, mb, nb, rfl, hn3, hc3, hm3, hr3, hcell3, hfr3, hnb3, hmb3, hmz3, hset3, hg3⟩; have HR3 := hide hr3; have HN3 := hide hn3; have HSET3 := hide hset3; have HG3 := hide hg3; have hz3 := hg3.size; clear hr3 hn3 hset3 hg3))
    | (go_at_call 33; go_loud (refine (asSlice_Byte mb nb xs w3 (unhide HSET3) hnb3 hmz3).mono ?_; rintro e w4 ⟨ad4, cap4, ks4, rfl, hasc4, hmem4, hk4, hown4, hb4⟩; have hkk := setL_eq hasc4 hmem4; rw [← unhide HKS] at hkk; have hkk2 := hkk.symm; subst hkk2; rw [← unhide HQ] at hown4 hk4 ⊢; have HRD4 := hide (Reads.of_own hown4); have HB4 := hide hb4; have hz4 := hb4.size; clear hown4 hb4 hasc4 hmem4))
    | (go_at_call 26; go_loud (refine (unhide HCP (w1.alloc (.cells #[.map none] 73)) (by repeat (first | with_reducible exact Below.refl _ _ | with_reducible exact (unhide HB1) | with_reducible refine Below.alloc ?_ (by first | omega | (simp; omega) | (simp; done)) _ | with_reducible refine Below.setCell ?_ (by first | omega | (simp; omega) | (simp; done)) _ | with_reducible refine Below.drew ?_ | with_reducible refine below_drewN ?_ _))).mono ?_; rw [← unhide HLB]; rintro e w2 ⟨v2, rfl, hown2, hb2⟩; obtain ⟨A2, c2, rfl, hc2, hm2', hr2⟩ := own_slice hown2; have HR2 : Hid (RB w2 (fun b => (w1.alloc (.cells #[.map none] 73)).heap.size ≤ b ∧ b < w2.heap.size) A2 bs) := hide (rb_of (unhide HLB) hr2); have HG2 := hide ((Blk.new w1 73 #[.map none]).below hb2 (by simp)); have HB2 : Hid (Below w1.heap.size w1 w2) := hide (((Below.refl _ _).alloc (Nat.le_refl _) _).trans (hb2.mono (by simp))); have hz2 : w1.heap.size + 1 ≤ w2.heap.size := Nat.le_trans (by simp) hb2.size; clear hown2 hb2 hr2)))
  have hqs := unhide HQ
  go_loopw [2, 23] (fun v i wr => ∃ (k : Nat) (K : Option Addr) (kc : Nat), i = .int .i64 k ∧ k ≤ q ∧ v = .slice K k kc ∧ wr.ownsRow w4.heap.size 5 1 (.slice K k kc) k ((ks.take k).map (Value.int .u8)) ∧ Below w4.heap.size w4 wr) (fun _ i _ => q - (intOf i).toNat)
  case atStart => exact ⟨0, none, 0, rfl, Nat.zero_le _, rfl, World.ownsRow_nil _ _ _ _, Below.refl _ _⟩
  case round =>
    obtain ⟨k, K, kc, rfl, hk, rfl, hown, hbel⟩ := hrel
    by_cases hlt : k < q
    · obtain ⟨ad, u, had, hSb, hu, hcell0⟩ := ((unhide HRD4).keep (fun b hb => hbel.block b hb.2.1)).at_ hlt
      obtain rfl := Option.some.inj had
      have hln : k < ks.length := by omega
      rw [List.getElem?_map, List.getElem?_eq_getElem hln] at hu
      obtain rfl := Option.some.inj hu
      have hcell := hcell0
      have htk : (ks.take (k + 1)).map (Value.int .u8) = (ks.take k).map (Value.int .u8) ++ [.int .u8 ks[k]] := by
        rw [List.take_succ_eq_append_getElem hln, List.map_append]
        rfl
      generalize ks[k] = x at *
      have HTK := hide htk
      have HOWN := hide hown
      have HBEL := hide hbel
      have hk0 : (0 : Int) ≤ (k : Int) := by omega
      have hk1 : (k : Int) < (q : Int) := by omega
      clear htk hown hbel hcell0 had hSb hqs
      go_wp2_with (at_builtin; go_loud (refine wpList_append_atS rfl _ _ _ rfl w4.heap.size 5 i0 (.int .u8 0) 1 1 Tryd.underlying24 hi0 hiz his hib rfl (by decide) _ _ _ rfl (own_below (unhide HOWN) (by repeat (first | with_reducible exact Below.refl _ _ | with_reducible exact x | with_reducible refine Below.alloc ?_ (by first | omega | (simp; omega) | (simp; done)) _ | with_reducible refine Below.setCell ?_ (by first | omega | (simp; omega) | (simp; done)) _ | with_reducible refine Below.drew ?_ | with_reducible refine below_drewN ?_ _))) ⟨wr.heap.size, 0, none⟩ 1 1 [.int .u8 x] rfl rfl (cell_one_new _ _ _) (by simp [Value.oneCell']) (by unfold maxLen; omega) (by omega) (by have := (unhide HBEL).size; simp; omega) ?_; intro v6 w6 hown6 hgr6 hat6; obtain ⟨K6, kc6, rfl, _, _, _⟩ := own_slice hown6; have hB6 : Below w4.heap.size w4 w6 := (Below.alloc (unhide HBEL) (unhide HBEL).size _).grown hgr6 (by have := (unhide HBEL).size; simp; omega) (fun j hj => by have := (unhide HOWN).lt j hj; omega); have HO6 := hide hown6; have HB6 := hide hB6; clear hown6 hB6 hgr6 hat6))
      go_roundw
      case rel => exact ⟨k + 1, K6, kc6, by go_num, by omega, rfl, by rw [unhide HTK]; exact unhide HO6, unhide HB6⟩
      case measure => simp [intOf]; omega
    · obtain rfl : k = q := by omega
      have hk1 : ¬ (k : Int) < (k : Int) := by omega
      have hall : ks.take k = ks := List.take_of_length_le (by omega)
      rw [hall] at hown
      obtain ⟨K', kc', hv, hkc, hkm, hRk⟩ := own_slice hown
      obtain ⟨rfl, _, rfl⟩ := Value.slice.inj hv
      have hB1 := unhide HB1
      have hw2 : Below w.heap.size w w2 := hB1.trans ((unhide HB2).mono hB1.size)
      have hw3 : Below w.heap.size w w3 := hw2.grown (unhide HG3) hw2.size (fun j hj => by cases hj; exact hB1.size)
      have hw4 : Below w.heap.size w w4 := hw3.trans ((unhide HB4).mono hw3.size)
      have hwr : Below w.heap.size w wr := hw4.trans (hbel.mono hw4.size)
      have hz5 := hbel.size
      have HZR := copied_any (fun b => w1.heap.size + 1 ≤ b ∧ b < w2.heap.size) A3 zb n3 c3 wr (unhide HN3) (((unhide HR3).keep (fun b hb => (unhide HB4).block b (by have := hb.2; omega))).keep (fun b hb => hbel.block b (by have := hb.2; omega))) (fun b hb => by have := hb.2; omega) (by omega)
      rw [← unhide HLZ] at HZR
      have HZR := hide HZR
      have HW := hide hwr
      have HRK := hide hRk
      have hzr := hwr.size
      clear hown hbel hall hv hB1 hw2 hw3 hw4 hwr hRk hqs
      go_wp2_with (go_at_call 26; have hg9 := hkc; clear hg9; go_loud (refine (unhide HZR).mono ?_; rintro e w7 ⟨v7, rfl, hown7, hb7⟩; obtain ⟨A7, c7, rfl, hc7, hm7, hr7⟩ := own_slice hown7; have HR7 := hide hr7; have HB7 := hide hb7; clear hown7 hb7 hr7))
      rw [unhide HT]
      refine bodyPost_ret (v := .tuple #[.slice K k kc, .slice A7 lz c7, .bool true]) (by simp [results, Tryd.results13, go_sem]) rfl ?_
      have hwr := unhide HW
      have hb7 := unhide HB7
      have hz7 := hb7.size
      have hr7 := unhide HR7
      rw [unhide HLZ] at hr7
      rw [unhide HQ] at hkc ⊢
      have hrk := unhide HRK
      rw [unhide HQ] at hrk
      have hkr := (hrk.keep (fun b hb => hb7.block b hb.2)).sub (T := Made w w7) (fun b hb => by
        have h4 := hb.1
        have h5 := hb.2
        exact ⟨by omega, by omega⟩)
      exact ⟨K, kc, A7, c7, by rw [unhide HLZ], hkc, hkm, hkr, hr7.sub (fun b hb => ⟨by have := hb.1; omega, hb.2⟩), hwr.trans (hb7.mono hzr)⟩
end Go.Proofs.YtlnpiigdjjadiaaDoor
