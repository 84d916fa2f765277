/-
  The walk of the law FnJSONSetInt16. Conditions: strconv's table of powers lies as its initialiser lays it.
-/
import Derived.Test.YtlnpiigdjjadiaaDoorGJSONSetInt16k
import Derived.Test.YtlnpiigdjjadiaaDoorGJSONSetInt16p
import Derived.Test.YtlnpiigdjjadiaaDoorGJSONSetInt16t
import Derived.Test.YtlnpiigdjjadiaaDoorGJSONSetInt16c
import Derived.Test.YtlnpiigdjjadiaaDoorGJSONSetInt16a
namespace Go.Proofs.YtlnpiigdjjadiaaDoor
set_option linter.unusedSimpArgs false
set_option linter.unusedVariables false
set_option linter.unusedVariables false
open Go.RowKit
def TrueJ (w : World) (e : Ending) (w' : World) : Prop := e = .returned (.bool true) ∧ Below w.heap.size w w'
def pkJ_Int16 : Int → Pack := fun x => .mk 2 (x % 18446744073709551616).toNat [] 0 []
def rkJ : Int → Pack := fun x => .mk (if x < 0 then 2 else 3) (x % 18446744073709551616).toNat [] 0 []
def pcJ_Int16 (x : Int) : List Value := [.int .i64 2, .int .u64 (IntKind.u64.wrap x), .string ⟨#[]⟩, .int .i64 0, .slice none 0 0]
theorem psJ_Int16 (w : World) (S : Nat → Prop) : ∀ (xs : List Int), (∀ x ∈ xs, -32768 ≤ x ∧ x ≤ 32767) → PacksC w S (xs.map pkJ_Int16) (xs.flatMap pcJ_Int16)
  | [], _ => by unfold PacksC; rfl
  | x :: xs, h => by
    have hx := h x (by simp)
    rw [List.map_cons, List.flatMap_cons]
    unfold PacksC
    refine ⟨_, _, rfl, rfl, ?_, psJ_Int16 w S xs fun y hy => h y (by simp [hy])⟩
    have h2 := PackC.flat w S 2 (pkJ_Int16 x).num [] 0
    have e : (((pkJ_Int16 x).num : Nat) : Int) = IntKind.u64.wrap x := by
      simp only [pkJ_Int16, Pack.num]
      simp only [IntKind.wrap, IntKind.bits, IntKind.signed]
      simp
      omega
    rw [e] at h2
    exact h2
theorem psR (w : World) (S : Nat → Prop) : ∀ (xs : List Int), PacksC w S (xs.map rkJ) (xs.flatMap rc)
  | [] => by unfold PacksC; rfl
  | x :: xs => by
    rw [List.map_cons, List.flatMap_cons]
    unfold PacksC
    exact ⟨_, _, rfl, rfl, PackC.flat w S (if x < 0 then 2 else 3) _ [] 0, psR w S xs⟩
theorem kidsC {w : World} {S : Nat → Prop} {ks : List Int} {g : Int → Pack} {K : Option Addr} {k kc : Nat} {xs : List Value} (hq : k = ks.length) (h1 : k ≤ kc) (h2 : kc ≤ maxLen) (h3 : Reads w S 5 K k xs) (h4 : PacksC w S (ks.map g) xs) :
    PackC w S (.mk 8 0 [] 0 (ks.map g)) [.int .i64 8, .int .u64 0, .string ⟨#[]⟩, .int .i64 0, .slice K k kc] := by
  have e : (ks.map g).length = k := by rw [List.length_map]; exact hq.symm
  unfold PackC
  exact ⟨K, kc, xs, by rw [e]; rfl, by rw [e]; exact h1, h2, by rw [e]; exact h3, h4⟩
theorem sameJs (g g' : Int → Pack) : ∀ xs : List Int, (∀ x ∈ xs, samePk (g x) (g' x) = true) → samePs (xs.map g) (xs.map g') = true
  | [], _ => rfl
  | x :: xs, h => by
    simp only [List.map_cons, samePs, h x (by simp), sameJs g g' xs (fun y hy => h y (by simp [hy])), Bool.and_self]
theorem sameJ_Int16 (ks : List Int) (hx : ∀ x ∈ ks, -32768 ≤ x ∧ x ≤ 32767) : samePk (.mk 8 0 [] 0 (ks.map rkJ)) (.mk 8 0 [] 0 (ks.map pkJ_Int16)) = true := by
  have h := sameJs rkJ pkJ_Int16 ks fun x h => by
    have hb := hx x h
    simp only [pkJ_Int16, rkJ]
    split
    · simp [samePk, samePs]
    · simp [samePk, samePs, nk]
      omega
  simp [samePk, h]
theorem goodJs (g : Int → Pack) : ∀ xs : List Int, (∀ x ∈ xs, GoodP (g x)) → GoodPs (xs.map g)
  | [], _ => trivial
  | x :: xs, h => ⟨h x (by simp), goodJs g xs (fun y hy => h y (by simp [hy]))⟩
theorem goodJ_Int16 (ks : List Int) (hx : ∀ x ∈ ks, -32768 ≤ x ∧ x ≤ 32767) (hl : ks.length ≤ 100) : GoodP (.mk 8 0 [] 0 (ks.map rkJ)) ∧ GoodP (.mk 8 0 [] 0 (ks.map pkJ_Int16)) := by
  refine ⟨⟨by omega, by rw [List.length_map]; omega, goodJs rkJ ks fun x h => ?_⟩, ⟨by omega, by rw [List.length_map]; omega, goodJs pkJ_Int16 ks fun x h => ?_⟩⟩
  · exact ⟨by omega, by simp, trivial⟩
  · have hb := hx x h
    simp only [pkJ_Int16]
    exact ⟨by omega, by simp, trivial⟩
theorem awJ_Int16 (w : World) (hT : Lib.TabIs Tryd.prog w "internal/strconv.uint64pow10" .u64 Lib.pow10Tab) : Calls Tryd.prog 22 #[.slice (some ⟨w.heap.size, 0, none⟩) 1 1] (w.alloc (.cells #[.int .i16 5] 55)) fun e w' => ∃ t : ByteArray, e = .returned (.string t) ∧ t.size = 3 ∧ Below w.heap.size w w' := by
  refine (js_Int16 w.heap.size (fun b => b = w.heap.size) (some ⟨w.heap.size, 0, none⟩) [5] [5] 1 1 (w.alloc (.cells #[.int .i16 5] 55)) ((Lib.tabBelow_of_tabIs hT).on ((Below.refl _ _).alloc (Nat.le_refl _) _)) (by simp) rfl (by omega) (reads_blkT (S := fun b => b = w.heap.size) (t := 55) (cs := #[.int .i16 5]) (Blk.newT rfl) rfl 1 1 rfl) (fun b hb => by subst hb; simp) (by intro x hx; simp at hx; subst hx; rfl) rfl).mono ?_
  rintro e w' ⟨rfl, h5⟩
  exact ⟨_, rfl, by decide +kernel, Below.trans (by repeat (first | with_reducible exact Below.refl _ _ | with_reducible exact x | with_reducible refine Below.alloc ?_ (by first | omega | (simp; omega) | (simp; done)) _ | with_reducible refine Below.setCell ?_ (by first | omega | (simp; omega) | (simp; done)) _ | with_reducible refine Below.drew ?_ | with_reducible refine below_drewN ?_ _)) (h5.mono (by simp))⟩
theorem FnJSONSetInt16_far (A : Option Addr) (n cap : Nat) (w : World) (h : 2147483647 < n) : Calls Tryd.prog 7 #[.slice A n cap] w (TrueJ w) := by
  have h2 : (2147483647 : Int) < (n : Int) := by omega
  clear h
  go_enter Tryd.func7, Tryd.ntmps7
  go_wp2
  go_ret
  exact ⟨rfl, Below.refl _ _⟩
set_option maxRecDepth 100000 in
set_option maxHeartbeats 1600000 in
theorem FnJSONSetInt16_not (A : Option Addr) (n cap : Nat) (w : World) (hT : Lib.TabIs Tryd.prog w "internal/strconv.uint64pow10" .u64 Lib.pow10Tab) (h' : n ≤ 2147483647) (h : 100 < n ∨ n = 0) : Calls Tryd.prog 7 #[.slice A n cap] w (TrueJ w) := by
  have h1 : ¬ (2147483647 : Int) < (n : Int) := by omega
  have HAW := hide (awJ_Int16 w hT)
  clear hT
  rcases h with hc | hc
  · have h3 : (100 : Int) < (n : Int) := by omega
    clear hc
    go_enter Tryd.func7, Tryd.ntmps7
    go_wp2_with (go_at_call 22; go_loud (refine (unhide HAW).mono ?_; rintro e w1 ⟨t1, rfl, ht1, hb1⟩; have HB1 := hide hb1; clear hb1))
    go_ret
    exact ⟨rfl, unhide HB1⟩
  · subst hc
    go_enter Tryd.func7, Tryd.ntmps7
    go_wp2_with (go_at_call 22; go_loud (refine (unhide HAW).mono ?_; rintro e w1 ⟨t1, rfl, ht1, hb1⟩; have HB1 := hide hb1; clear hb1))
    go_ret
    exact ⟨rfl, unhide HB1⟩
set_option maxRecDepth 100000 in
set_option maxHeartbeats 6400000 in
theorem FnJSONSetInt16_near (A : Option Addr) (zs : List Int) (n cap : Nat) (w : World) (hT : Lib.TabIs Tryd.prog w "internal/strconv.uint64pow10" .u64 Lib.pow10Tab) (hn : n = zs.length) (hn0 : n ≠ 0) (hn2 : n ≤ 100) (hr : Reads w (Lt w.heap.size) 1 A n (zs.map (Value.int .i16))) (hwf : ∀ x ∈ zs, (Lit.int .i16 x).wf = true) :
    Calls Tryd.prog 7 #[.slice A n cap] w (TrueJ w) := by
  have h1 : ¬ (2147483647 : Int) < (n : Int) := by omega
  have h3 : ¬ (100 : Int) < (n : Int) := by omega
  have h4 : ¬ (n : Int) = 0 := by omega
  have HAW := hide (awJ_Int16 w hT)
  have HTB := hide (Lib.tabBelow_of_tabIs hT)
  have hmem : ∀ x ∈ setL zs, -32768 ≤ x ∧ x ≤ 32767 := fun x hx => wfJ_Int16 (hwf x (((setL_both zs).2 x).1 hx))
  obtain ⟨ns, hns⟩ : ∃ ns, ns = setL zs := ⟨_, rfl⟩
  rw [← hns] at hmem
  have hnne : ns ≠ [] := by
    intro e
    obtain ⟨z, l, hz⟩ := List.exists_cons_of_ne_nil (show zs ≠ [] by intro e2; rw [e2] at hn; exact hn0 (by simpa using hn))
    have h5 := ((setL_both zs).2 z).2 (by rw [hz]; simp)
    rw [← hns, e] at h5
    simp at h5
  obtain ⟨q, hq⟩ : ∃ q, q = ns.length := ⟨_, rfl⟩
  have hq100 : q ≤ 100 := by rw [hq, hns]; have := setL_len zs; omega
  have HNS := hide hns
  have HMEM := hide hmem
  have HNNE := hide hnne
  have HQ := hide hq
  have HWF := hide hwf
  have HN := hide hn
  have HR := hide hr
  clear hT hmem hnne hns hq hwf hn hr hn0
  go_enter Tryd.func7, Tryd.ntmps7
  go_wp2_with (first
    | (go_at_call 22; go_loud (refine (unhide HAW).mono ?_; rintro e w1 ⟨t1, rfl, ht1, hb1⟩; have HB1 := hide hb1; have HIN := hide (fun (o : Obj) => inSet_int16 (Lt w.heap.size) A zs n cap (w1.alloc o) (unhide HN) hn2 ((unhide HR).below (hb1.alloc hb1.size o)) (fun b hb => by have : b < w.heap.size := hb; have := hb1.size; simp; omega)); clear hb1))
    | (go_at_call 23; go_loud (refine (unhide HIN _).mono ?_; rw [← unhide HNS]; rintro e w2 ⟨v2, rfl, hown2, hb2⟩; obtain ⟨A2, c2, rfl, hc2, hm2, hrd2⟩ := own_slice hown2; rw [← unhide HQ] at hc2 hrd2 ⊢; have HRD2 := hide hrd2; have hz2 : w1.heap.size + 1 ≤ w2.heap.size := Nat.le_trans (by simp) hb2.size; have HB2 : Hid (Below w1.heap.size w1 w2) := hide (((Below.refl _ _).alloc (Nat.le_refl _) _).trans (hb2.mono (by simp))); have HV2 := hide ((Blk.new w1 29 #[.int .i64 8, .int .u64 0, .string ⟨#[]⟩, .int .i64 0, .slice none 0 0]).below hb2 (by simp)); clear hown2 hb2 hrd2)))
  go_loopw [29] (fun i wr => ∃ (k : Nat) (KA : Option Addr) (kc : Nat), i = .int .i64 k ∧ k ≤ q ∧ Blk wr w1.heap.size 29 #[.int .i64 8, .int .u64 0, .string ⟨#[]⟩, .int .i64 0, .slice KA k kc] ∧ wr.ownsRow w2.heap.size 29 5 (.slice KA k kc) k ((ns.take k).flatMap pcJ_Int16) ∧ w2.grownBy wr (some w1.heap.size)) (fun i _ => q - (intOf i).toNat)
  case atStart => exact ⟨0, none, 0, rfl, Nat.zero_le _, unhide HV2, World.ownsRow_nil _ _ _ _, World.grownBy.refl _ _⟩
  case round =>
    obtain ⟨k, KA, kc, rfl, hk, hB, hown, hgr⟩ := hrel
    obtain ⟨⟨a0, a1, a2, a3, a4⟩, ⟨f0, f1, f2, f3, f4⟩⟩ := five_cells hB
    have hBl := hB.lt
    have hzr := hgr.size
    by_cases hlt : k < q
    · obtain ⟨ad, u, rfl, hSb, hu, hcell⟩ := ((unhide HRD2).keep (fun b hb => hgr.block b hb.2 (by intro e; injection e with e; have := hb.1; simp at this; omega))).at_ hlt
      have hln : k < ns.length := by have := unhide HQ; omega
      have hux : u = .int .i16 ns[k] := by
        rw [List.getElem?_map, List.getElem?_eq_getElem hln] at hu
        simpa using hu.symm
      have htk : (ns.take (k + 1)).flatMap pcJ_Int16 = (ns.take k).flatMap pcJ_Int16 ++ pcJ_Int16 ns[k] := by
        rw [List.take_succ_eq_append_getElem hln, List.flatMap_append]
        simp
      have hbd := unhide HMEM ns[k] (List.getElem_mem hln)
      generalize ns[k] = x at *
      subst hux
      have hw64 : IntKind.i64.wrap x = x := by rw [IntKind.wrap_i64]; omega
      have HTK := hide htk
      have HOWN := hide hown
      have HGR := hide hgr
      have HBK := hide hB
      have hk0 : (0 : Int) ≤ (k : Int) := by omega
      have hk1 : (k : Int) < (q : Int) := by omega
      clear htk hu hown hgr hB
      go_wp2_with (at_builtin; go_loud (obtain ⟨i0, hi0, hiz, his, hib⟩ := info_parts infoPkT; refine wpList_append_any (S := fun _ => True) _ rfl _ _ 27 rfl w2.heap.size 29 i0 _ 5 64 Tryd.underlying27 hi0 hiz his hib ?x1 ?x2 (.slice KA k kc) k ((ns.take k).flatMap pcJ_Int16) ?x3 ?x4 (some ⟨wr.heap.size, 0, none⟩) 1 1 (pcJ_Int16 x) ?x5 ?x6 (fivesT) ?x7 ?x8 ?x9 ?_; (case x1 => rfl); (case x2 => omega); (case x3 => rfl); (case x4 => exact own_below (unhide HOWN) (by repeat (first | with_reducible exact Below.refl _ _ | with_reducible exact x | with_reducible refine Below.alloc ?_ (by first | omega | (simp; omega) | (simp; done)) _ | with_reducible refine Below.setCell ?_ (by first | omega | (simp; omega) | (simp; done)) _ | with_reducible refine Below.drew ?_ | with_reducible refine below_drewN ?_ _))); (case x5 => rfl); (case x6 => exact reads_blkT (S := fun _ => True) (t := 29) (cs := (pcJ_Int16 x).toArray) (Blk.newT rfl) trivial 5 1 rfl); (case x7 => unfold maxLen; omega); (case x8 => omega); (case x9 => simp; omega); clear hi0 hiz his hib; intro v6 w6 hown6 hgr6 hat6; obtain ⟨K6, kc6, rfl, _, _, _⟩ := own_slice hown6; have hG6 : w2.grownBy w6 (some w1.heap.size) := grown_trans' (grown_trans' (unhide HGR) (World.grownBy_alloc _ _ none) (fun _ h => by cases h)) hgr6 (fun j hj => .inr (by have := ((unhide HOWN).lt j hj).1; omega)); have hBk6 := ((unhide HBK).alloc (.cells (pcJ_Int16 x).toArray 29)).grown hgr6 (fun e => by have := ((unhide HOWN).lt _ e.symm).1; omega); have hzk6 := hBk6.lt; obtain ⟨⟨b0, b1, b2, b3, b4⟩, ⟨g0, g1, g2, g3, g4⟩⟩ := five_cells hBk6; have HBK6 := hide hBk6; have HO6 := hide hown6; have HG6 := hide hG6; clear hown6 hG6 hgr6 hat6 hBk6))
      go_roundw
      case rel =>
        refine ⟨k + 1, K6, kc6, by go_num, by omega, ?_, ?_, grown_trans' (unhide HG6) (grownSetJ _ _ _) (fun j hj => .inl (by cases hj; rfl))⟩
        · have h := (unhide HBK6).set_ 4 (.slice K6 (k + 1) kc6)
          simpa using h
        · rw [unhide HTK]
          exact (unhide HO6).kept (grownSetJ _ _ _) (Or.inr (fun e => by have h := ((unhide HO6).lt _ e).1; revert h; simp <;> omega))
      case measure => simp [intOf]; omega
    · obtain rfl : k = q := by omega
      have hk1 : ¬ (k : Int) < (k : Int) := by omega
      have hall : ns.take k = ns := List.take_of_length_le (by have := unhide HQ; omega)
      rw [hall] at hown
      obtain ⟨K', kc', hv, hkc, hkm, hRk⟩ := own_slice hown
      obtain ⟨rfl, _, rfl⟩ := Value.slice.inj hv
      have e : (ns.map pkJ_Int16).length = k := by rw [List.length_map]; exact (unhide HQ).symm
      have hpc : PackC wr (fun b => w2.heap.size ≤ b ∧ b < wr.heap.size) (.mk 8 0 [] 0 (ns.map pkJ_Int16)) [.int .i64 8, .int .u64 0, .string ⟨#[]⟩, .int .i64 0, .slice KA k kc] := by
        unfold PackC
        exact ⟨KA, kc, ns.flatMap pcJ_Int16, by rw [e]; rfl, by rw [e]; exact hkc, hkm, by rw [e]; exact hRk, psJ_Int16 _ _ ns (unhide HMEM)⟩
      have hb1 := unhide HB1
      have hw2 : Below w.heap.size w w2 := hb1.trans ((unhide HB2).mono hb1.size)
      have hwr : Below w.heap.size w wr := hw2.grown hgr hw2.size (fun j hj => by cases hj; exact hb1.size)
      have HJS := hide (js_Int16 w.heap.size (Lt w.heap.size) A zs ns n cap wr ((unhide HTB).on hwr) hwr.size (unhide HN) hn2 ((unhide HR).below hwr) (fun b hb => Nat.lt_of_lt_of_le hb hwr.size) (unhide HWF) (unhide HNS))
      obtain ⟨TX, hTX⟩ : ∃ TX : ByteArray, TX = ⟨(jtext ns).toArray⟩ := ⟨_, rfl⟩
      rw [← hTX] at HJS
      have HRJ := hide (fun (W : World) => readJSON_any TX ns k W (by rw [hTX]) (unhide HNNE) (unhide HQ) hq100 (fun x hx => by have h := unhide HMEM x hx; unfold Num64; omega))
      have HPC := hide hpc
      have HBV := hide hB
      have HW := hide hwr
      have hzw := hwr.size
      clear hpc hB hwr hw2 hb1 hRk hv hown hall hgr e hTX
      go_wp2_with (first
        | (go_at_call 18; go_loud (refine (unhide HRJ _).mono ?_; unfold RJPost; rintro e w4 ⟨K4, kc4, rfl, hown4, hb4⟩; obtain ⟨K5, kc5, hv5, hkc5, hkm5, hR5⟩ := own_slice hown4; obtain ⟨rfl, _, rfl⟩ := Value.slice.inj hv5; have hV4 := ((unhide HBV).below (unhide HB3) (by omega)).below hb4 (by omega); obtain ⟨⟨z0, z1, z2, z3, z4⟩, ⟨y0, y1, y2, y3, y4⟩⟩ := five_cells hV4; have hzv := hV4.lt; have hz4 := hb4.size; have HR5 := hide hR5; have HB4 := hide hb4; clear hown4 hb4 hV4 hR5 hv5))
        | (go_at_call 22; have hg9 := hkc; clear hg9; go_loud (refine (unhide HJS).mono ?_; rintro e w3 ⟨rfl, hb3⟩; have HB3 := hide hb3; have hz3 := hb3.size; clear hb3))
        | (go_at_call 19; go_loud (refine (samePack_any (.mk 8 0 [] 0 (ns.map rkJ)) (.mk 8 0 [] 0 (ns.map pkJ_Int16)) _ _ _ _ _ _ _ _ _ _ (fun b => w3.heap.size ≤ b ∧ b < w4.heap.size) (fun b => w2.heap.size ≤ b ∧ b < wr.heap.size) _ ?o1 ?o2 ?p1 ?p2 (goodJ_Int16 ns (unhide HMEM) (by have := unhide HQ; omega)).1 (goodJ_Int16 ns (unhide HMEM) (by have := unhide HQ; omega)).2).mono ?_; (case o1 => exact fun b hb => by have := hb.2; simp; omega); (case o2 => exact fun b hb => by have := hb.2; simp; omega); (case p1 => exact PackC.keep (stays_alloc (fun b hb => hb.2) (Stays.refl _ _) _) _ _ (kidsC (unhide HQ) hkc5 hkm5 (unhide HR5) (psR _ _ ns))); (case p2 => exact PackC.keep (stays_alloc (fun b hb => by have := hb.2; omega) (Stays.trans (Stays.trans (Stays.refl _ _) (fun b hb => (unhide HB3).block b (by have := hb.2; omega))) (fun b hb => (unhide HB4).block b (by have := hb.2; omega))) _) _ _ (unhide HPC)); rw [sameJ_Int16 ns (unhide HMEM)]; rintro e w5 ⟨rfl, hb5⟩; have HB5 := hide hb5; clear hb5)))
      go_ret
      have h3 := (unhide HW).trans ((unhide HB3).mono hzw)
      have h4 := h3.trans ((unhide HB4).mono h3.size)
      have h5 := h4.alloc h4.size (.cells #[.int .i64 8, .int .u64 0, .string ⟨#[]⟩, .int .i64 0, .slice K4 k kc4] 29)
      exact ⟨rfl, h5.trans ((unhide HB5).mono h5.size)⟩
theorem FnJSONSetInt16_walk (A : Option Addr) (n cap : Nat) (zs : List Int) (w : World) (hT : Lib.TabIs Tryd.prog w "internal/strconv.uint64pow10" .u64 Lib.pow10Tab) (hrow : RowIn .i16 w A n cap zs) :
    Calls Tryd.prog 7 #[.slice A n cap] w fun e w' => e = .returned (.bool true) ∧ Below w.heap.size w w' := by
  obtain ⟨hr, hl, hc, hm, hwf⟩ := ints_of_row hrow
  by_cases hf : 2147483647 < n
  · exact FnJSONSetInt16_far A n cap w hf
  by_cases h2 : 100 < n ∨ n = 0
  · exact FnJSONSetInt16_not A n cap w hT (by omega) h2
  · exact FnJSONSetInt16_near A (zs.take n) n cap w hT hl.symm (by omega) (by omega) hr hwf
end Go.Proofs.YtlnpiigdjjadiaaDoor
