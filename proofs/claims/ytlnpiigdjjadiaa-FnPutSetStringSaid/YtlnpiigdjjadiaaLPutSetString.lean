/-
  The walk of the law FnPutSetString. No condition.
-/
import Derived.Test.YtlnpiigdjjadiaaSortCstring
import Derived.Test.YtlnpiigdjjadiaaInSetstring
import Derived.Test.YtlnpiigdjjadiaaSetReadS
import Derived.Test.YtlnpiigdjjadiaaIsSet
import Derived.Test.YtlnpiigdjjadiaaRow
import Derived.Test.YtlnpiigdjjadiaaSPut
import Derived.Test.YtlnpiigdjjadiaaOutS
namespace Go.Proofs.Ytlnpiigdjjadiaa
set_option linter.unusedSimpArgs false
set_option linter.unusedVariables false
set_option linter.unusedVariables false
open Go.RowKit
/-- The bytes of the set of a list. -/
def setBytes_string (zs : List Str) : List UInt8 := part_string (setS zs).length (setS zs) (setS zs).length
theorem putSet_string (S : Nat → Prop) (A B : Option Addr) (bs : List UInt8) (zs : List Str) (n c nb cb : Nat) (w : World) (hn : n = zs.length) (hn2 : n ≤ 100) (hr : Reads w S 1 A n (zs.map encS)) (hS : Old w S) (hwf : ∀ x ∈ zs, x.length ≤ 1000)
    (hnb : nb = bs.length) (hrb : RB w S B bs) (hlb : nb ≤ 1000000) (hne : zs ≠ []) :
    Calls Try.prog 7 #[.slice B nb cb, .slice A n c] w (OutS w (bs ++ setBytes_string zs)) := by
  refine (fill_string S A B bs zs n c nb cb w (fun u w' => ∃ A' c', u = .slice A' (bs ++ setBytes_string zs).length c' ∧ (bs ++ setBytes_string zs).length ≤ c' ∧ c' ≤ maxLen ∧ RB w' (MadeS w w') A' (bs ++ setBytes_string zs) ∧ Below w.heap.size w w') hn hn2 hr hS (fun x h => by have := hwf x h; unfold maxLen; omega) hnb hrb (by omega) ?_).mono ?_
  · intro W m v hset hm hown hbel hlt
    obtain ⟨A1, c1, rfl, hc1, hm1, _⟩ := own_slice hown
    refine (marshal_string sortC_string w.heap.size m bs.length c1 A1 _ zs W hset hwf hm hne hown (u8_one bs) hlt (by omega)).mono ?_
    rintro e w' ⟨v', ks, rfl, hasc, hmem, hown', hbel'⟩
    obtain rfl := setS_eq hasc hmem
    obtain ⟨A2, c2, rfl, hc2, hm2, hr2⟩ := own_slice hown'
    refine ⟨_, rfl, A2, c2, by rw [List.length_append]; rfl, by rw [List.length_append]; exact hc2, hm2, ?_, hbel.trans hbel'⟩
    have h3 := hr2.sub (T := MadeS w w') (fun b hb => ⟨by have := hb.1; omega, hb.2⟩)
    unfold RB
    rw [List.map_append, List.length_append]
    exact h3
  · rintro e w' ⟨u, rfl, A', c', rfl, h1, h2, h3, h4⟩
    exact ⟨A', c', rfl, h1, h2, h3, h4⟩
def pk_string : Str → Pack := fun x => .mk 6 0 x 0 []
def pc_string (x : Str) : List Value := [.int .i64 6, .int .u64 0, .string ⟨x.toArray⟩, .int .i64 0, .slice none 0 0]
theorem ps_string (w : World) (S : Nat → Prop) : ∀ (xs : List Str), PacksC w S (xs.map pk_string) (xs.flatMap pc_string)
  | [] => by unfold PacksC; rfl
  | x :: xs => by
    rw [List.map_cons, List.flatMap_cons]
    unfold PacksC
    exact ⟨_, _, rfl, rfl, PackC.flat w S 6 0 x 0, ps_string w S xs⟩
theorem setRead_string (ks : List Str) (hx : ∀ x ∈ ks, x.length ≤ 1000) (hl : ks.length ≤ 100) : tPack 3 (part_string ks.length ks ks.length) = some (.mk 8 0 [] 0 (ks.map pk_string), []) := by
  unfold part_string
  rw [List.take_length]
  exact arr_readS 2 encT pk_string ks hl (fun x _ => encT_pos x) fun x h zs => encT_read 1 x (hx x h) zs
theorem setSame_string (ks : List Str) : samePk (.mk 8 0 [] 0 (ks.map pk_string)) (.mk 8 0 [] 0 (ks.map pk_string)) = true := by
  have h := samePs_mapS pk_string pk_string ks fun x h => by simp [pk_string, samePk, samePs]
  simp [samePk, h]
theorem setGood_string (ks : List Str) (hl : ks.length ≤ 100) : GoodP (.mk 8 0 [] 0 (ks.map pk_string)) ∧ GoodPs (ks.map pk_string) :=
  ⟨⟨by omega, by rw [List.length_map]; omega, goodPs_flatS pk_string ks fun x h => ⟨by omega, by simp, trivial⟩⟩, goodPs_flatS pk_string ks fun x h => ⟨by omega, by simp, trivial⟩⟩
set_option maxRecDepth 100000 in
theorem awake_string (w : World) : Calls Try.prog 7 #[.slice none 0 0, .slice (some ⟨w.heap.size, 0, none⟩) 1 1] (w.alloc (.cells #[encS [97]] 9)) fun e w' => ∃ A c, e = .returned (.slice A 3 c) ∧ Below w.heap.size w w' := by
  refine (putSet_string (fun b => b = w.heap.size) (some ⟨w.heap.size, 0, none⟩) none [] [[97]] 1 1 0 0 (w.alloc (.cells #[encS [97]] 9)) rfl (by omega) (reads_blkS (S := fun b => b = w.heap.size) (t := 9) (cs := #[encS [97]]) (Blk.newS rfl) rfl 1 1 rfl) (fun b hb => by subst hb; simp) (by intro x hx; simp at hx; subst hx; simp) rfl ⟨rfl, fun h => absurd h (by simp)⟩ (by omega) (by simp)).mono ?_
  rintro e w' ⟨A, c, rfl, h1, h2, h3, h4⟩
  have e2 : ([] ++ setBytes_string [[97]]).length = 3 := by decide +kernel
  rw [e2]
  exact ⟨A, c, rfl, Below.trans (by repeat (first | with_reducible exact Below.refl _ _ | with_reducible exact x | with_reducible refine Below.alloc ?_ (by first | omega | (simp; omega) | (simp; done)) _ | with_reducible refine Below.setCell ?_ (by first | omega | (simp; omega) | (simp; done)) _ | with_reducible refine Below.drew ?_ | with_reducible refine below_drewN ?_ _)) (h4.mono (by simp))⟩
def FitsR (w : World) (e : Ending) (w' : World) : Prop := ∃ b : Bool, e = .returned (.bool b) ∧ w = w'
def FitsRel (n : Nat) (i : Value) : Prop := ∃ k : Nat, i = .int .i64 k ∧ k ≤ n
set_option maxRecDepth 100000 in
set_option maxHeartbeats 800000 in
theorem zzFits2_any (S : Nat → Prop) (A : Option Addr) (xs : List (List UInt8)) (n c : Nat) (w : World) (hn : n = xs.length) (hr : Reads w S 1 A n (xs.map encS)) (hc : n ≤ c) (hcm : c ≤ 9223372036854775807) :
    Calls Try.prog 6 #[.slice A n c] w (FitsR w) := by
  have HN := hide hn
  have HR := hide hr
  clear hn hr
  by_cases hf : 2147483647 < n
  · have h1 : (2147483647 : Int) < (n : Int) := by omega
    go_enter Try.func6, Try.ntmps6
    go_wp2
    go_ret
    exact ⟨_, rfl, rfl⟩
  have h1 : ¬ (2147483647 : Int) < (n : Int) := by omega
  go_enter Try.func6, Try.ntmps6
  go_wp2
  go_loop [10] (fun i => FitsRel n i) (fun i => n - (intOf i).toNat)
  case atStart => exact ⟨0, rfl, Nat.zero_le _⟩
  case round =>
    obtain ⟨k, rfl, hk⟩ := hrel
    by_cases hlt : k < n
    · obtain ⟨ad, u, rfl, hSb, hu, hcell⟩ := (unhide HR).at_ hlt
      have hln : k < xs.length := by have := unhide HN; omega
      have hux : u = encS xs[k] := by
        rw [List.getElem?_map, List.getElem?_eq_getElem hln] at hu
        simpa using hu.symm
      generalize xs[k] = x at *
      subst hux
      replace hcell : w.cell? (ad.add k) = some (.string ⟨x.toArray⟩) := hcell
      have hk0 : (0 : Int) ≤ (k : Int) := by omega
      have hk1 : (k : Int) < (n : Int) := by omega
      have hsz : (⟨x.toArray⟩ : ByteArray).size = x.length := by simp [ByteArray.size]
      clear hu
      by_cases hbig : 2147483647 < x.length
      · have hb : (2147483647 : Int) < (x.length : Int) := by omega
        go_wp2
        go_ret
        exact ⟨_, rfl, rfl⟩
      · have hb : ¬ (2147483647 : Int) < (x.length : Int) := by omega
        go_wp2
        go_round
        case rel => exact ⟨k + 1, by go_num, by omega⟩
        case measure => simp [intOf]; omega
    · have hk1 : ¬ (k : Int) < (n : Int) := by omega
      go_wp2
      go_ret
      exact ⟨_, rfl, rfl⟩
/-- What the frame says of a slice of texts that came in. -/
abbrev RowStr (w : World) (a : Option Addr) (len cap : Nat) (ss : List ByteArray) : Prop :=
  (a = none ∧ len = 0 ∧ cap = 0 ∧ ss = []) ∨ ∃ x, a = some x ∧ len ≤ cap ∧ cap ≤ maxLen ∧ ss.length = cap ∧ (∀ i, i < ss.length → w.cell? (x.add i) = some (.string (ss.getD i ByteArray.empty)))
theorem strs_of_row {w : World} {a : Option Addr} {len cap : Nat} {ss : List ByteArray} (h : RowStr w a len cap ss) :
    ∃ xs : List (List UInt8), len = xs.length ∧ Reads w (Lt w.heap.size) 1 a len (xs.map encS) ∧ len ≤ cap ∧ cap ≤ maxLen := by
  rcases h with ⟨rfl, rfl, rfl, rfl⟩ | ⟨x, rfl, hl, hm, hz, hc⟩
  · exact ⟨[], rfl, Reads.none_, Nat.le_refl _, Nat.zero_le _⟩
  · have hlen : ((ss.take len).map fun s => s.data.toList).length = len := by rw [List.length_map, List.length_take]; omega
    refine ⟨(ss.take len).map fun s => s.data.toList, hlen.symm, ⟨by rw [List.length_map, hlen]; omega, fun h => ⟨x, rfl, ?_, ?_⟩⟩, hl, hm⟩
    · have h0 := hc 0 (by omega)
      apply Classical.byContradiction
      intro hn
      have hx : w.heap[x.block]? = none := Array.getElem?_eq_none (by simp [Lt] at hn; omega)
      simp [World.cell?, Addr.add, hx] at h0
    · intro j u hu
      simp only [List.getElem?_map, List.getElem?_take] at hu
      split at hu
      · rename_i hj
        have hjz : j < ss.length := by omega
        rw [List.getElem?_eq_getElem hjz] at hu
        simp only [Option.map_some, Option.some.injEq] at hu
        rw [hc j hjz, ← hu]
        simp [encS, List.getD_eq_getElem?_getD, List.getElem?_eq_getElem hjz]
      · simp at hu
theorem FnPutSetString_far (A D : Option Addr) (n cap l dcap : Nat) (w : World) (h1 : 2147483647 < n) : Calls Try.prog 3 #[.slice A n cap, .slice D l dcap] w (TrueR w) := by
  have h2 : (2147483647 : Int) < (n : Int) := by omega
  go_enter Try.func3, Try.ntmps3
  go_wp2
  go_ret
  exact ⟨rfl, Below.refl _ _⟩
set_option maxHeartbeats 800000 in
theorem FnPutSetString_not (A D : Option Addr) (n cap l dcap : Nat) (w : World) (h' : n ≤ 2147483647) (hl' : l ≤ 9223372036854775807) (hZ : Calls Try.prog 6 #[.slice D l dcap] w (FitsR w)) (h : 200 < n ∨ 100 < l) : Calls Try.prog 3 #[.slice A n cap, .slice D l dcap] w (TrueR w) := by
  have HZ := hide hZ
  have hf := few_any A n cap
  have h1 : ¬ (2147483647 : Int) < (n : Int) := by omega
  have hcase : 200 < n ∨ (n ≤ 200 ∧ 100 < l) := by omega
  have hn9 : n ≤ 9223372036854775807 := by omega
  clear h hZ
  rcases hcase with hc | ⟨hc, hc2⟩
  · have hd : decide (n ≤ 200) = false := by simp; omega
    rw [hd] at hf
    have HF := hide hf
    clear hf hc hd
    go_enter Try.func3, Try.ntmps3
    go_wp2_with fail
    refine (unhide HZ).mono ?_
    rintro e w0 ⟨b0, rfl, rfl⟩
    rcases b0 with _ | _
    · go_wp2
      go_ret
      exact ⟨rfl, Below.refl _ _⟩
    go_wp2_with (first
      | (go_at_call 7; go_loud (refine (awake_string w).mono ?_; rintro e w1 ⟨A1, c1, rfl, hb1⟩))
      | (go_at_call 8; go_loud (refine (unhide HF _ hn9).mono ?_; rintro e w2 ⟨rfl, rfl⟩)))
    go_ret
    exact ⟨rfl, hb1⟩
  · have hd : decide (n ≤ 200) = true := by simp; omega
    have h3 : (100 : Int) < (l : Int) := by omega
    rw [hd] at hf
    have HF := hide hf
    clear hf hc hd
    go_enter Try.func3, Try.ntmps3
    go_wp2_with fail
    refine (unhide HZ).mono ?_
    rintro e w0 ⟨b0, rfl, rfl⟩
    rcases b0 with _ | _
    · go_wp2
      go_ret
      exact ⟨rfl, Below.refl _ _⟩
    go_wp2_with (first
      | (go_at_call 7; go_loud (refine (awake_string w).mono ?_; rintro e w1 ⟨A1, c1, rfl, hb1⟩))
      | (go_at_call 8; go_loud (refine (unhide HF _ hn9).mono ?_; rintro e w2 ⟨rfl, rfl⟩)))
    go_ret
    exact ⟨rfl, hb1⟩
set_option maxRecDepth 100000 in
set_option maxHeartbeats 3200000 in
theorem FnPutSetString_few (A D : Option Addr) (bs : List UInt8) (zs : List Str) (cap dcap l : Nat) (w : World) (h : bs.length ≤ 200) (hl : l = zs.length) (hld : l ≤ 100) (hc : bs.length ≤ cap) (hm : cap ≤ maxLen) (hr : RB w (Lt w.heap.size) A bs) (hrD : Reads w (Lt w.heap.size) 1 D l (zs.map encS)) (hZ : Calls Try.prog 6 #[.slice D l dcap] w (FitsR w)) :
    Calls Try.prog 3 #[.slice A bs.length cap, .slice D l dcap] w (TrueR w) := by
  have hm : cap ≤ 9223372036854775807 := hm
  have HZ := hide hZ
  have hd : decide (bs.length ≤ 200) = true := by simp; omega
  have hf := few_any A bs.length cap
  rw [hd] at hf
  have HF := hide hf
  have h1 : ¬ (2147483647 : Int) < (bs.length : Int) := by omega
  have h3 : ¬ (100 : Int) < (l : Int) := by omega
  have HL := hide hl
  have hsl : (setS zs).length ≤ 100 := by have := setS_len zs; omega
  obtain ⟨ns, hns⟩ : ∃ ns, ns = setS zs := ⟨_, rfl⟩
  obtain ⟨q, hq⟩ : ∃ q, q = ns.length := ⟨_, rfl⟩
  have hq100 : q ≤ 100 := by rw [hq, hns]; exact hsl
  have HNS := hide hns
  have HQ := hide hq
  have hsb : setBytes_string zs = part_string ns.length ns ns.length := by rw [hns]; rfl
  have HSB := hide hsb
  have hne0 : ns ≠ [] → zs ≠ [] := by
    intro h0 e
    subst e
    exact h0 (by rw [hns]; rfl)
  have HNE := hide hne0
  clear hf hd hl hsl hns hq hsb hne0 hZ
  go_enter Try.func3, Try.ntmps3
  go_wp2_with fail
  refine (unhide HZ).mono ?_
  rintro e w0 ⟨b0, rfl, rfl⟩
  rcases b0 with _ | _
  · go_wp2
    go_ret
    exact ⟨rfl, Below.refl _ _⟩
  go_wp2_with (first
    | (go_at_call 7; go_loud (refine (awake_string w).mono ?_; rintro e w1 ⟨A1, c1, rfl, hb1⟩; have HB1 := hide hb1; have hr1 := hr.keep (stays_below (Stays.refl _ _) hb1 (Old.lt _)); have hrD1 := hrD.keep (stays_below (Stays.refl _ _) hb1 (Old.lt _)); have ho1 : Old w1 (Lt w.heap.size) := fun b hb => Nat.lt_of_lt_of_le hb hb1.size; have HIN := hide (inSet_string (Lt w.heap.size) D zs l dcap w1 (unhide HL) hld hrD1 ho1); have HRD1 := hide hrD1; clear hb1 hrD1))
    | (go_at_call 8; go_loud (refine (unhide HF _ (by omega)).mono ?_; rintro e w2 ⟨rfl, rfl⟩)))
  go_loop [34] (fun i => ∃ k : Nat, i = .int .i64 k ∧ k ≤ l ∧ ∀ x ∈ zs.take k, x.length ≤ 1000) (fun i => l - (intOf i).toNat)
  case atStart => exact ⟨0, rfl, Nat.zero_le _, by simp⟩
  case round =>
  obtain ⟨k0, rfl, hk0, hlen⟩ := hrel
  by_cases hlt0 : k0 < l
  · obtain ⟨ad, u, rfl, hSb, hu, hcell⟩ := (unhide HRD1).at_ hlt0
    have hln : k0 < zs.length := by have := unhide HL; omega
    have hux : u = encS zs[k0] := by
      rw [List.getElem?_map, List.getElem?_eq_getElem hln] at hu
      simpa using hu.symm
    have htk := List.take_succ_eq_append_getElem hln
    generalize zs[k0] = x at *
    subst hux
    replace hcell : w1.cell? (ad.add k0) = some (.string ⟨x.toArray⟩) := hcell
    have hi0 : (0 : Int) ≤ (k0 : Int) := by omega
    have hi1 : (k0 : Int) < (l : Int) := by omega
    have hsz : (⟨x.toArray⟩ : ByteArray).size = x.length := by simp [ByteArray.size]
    have HTK := hide htk
    have HLEN := hide hlen
    clear hu htk hlen
    by_cases hbig : 1000 < x.length
    · have hb : (1000 : Int) < (x.length : Int) := by omega
      go_wp2
      go_ret
      exact ⟨rfl, unhide HB1⟩
    · have hb : ¬ (1000 : Int) < (x.length : Int) := by omega
      go_wp2
      go_round
      case rel =>
        refine ⟨k0 + 1, by go_num, by omega, ?_⟩
        rw [unhide HTK]
        intro y hy
        rcases List.mem_append.1 hy with h | h
        · exact unhide HLEN y h
        · simp at h
          subst h
          omega
      case measure => simp [intOf]; omega
  obtain rfl : k0 = l := by omega
  have hlt1 : ¬ (k0 : Int) < (k0 : Int) := by omega
  have hwf : ∀ x ∈ zs, x.length ≤ 1000 := by
    rw [List.take_of_length_le (by have := unhide HL; omega)] at hlen
    exact hlen
  have HWF := hide hwf
  have HMEM : Hid (∀ x ∈ setS zs, x.length ≤ 1000) := hide (fun x hx => hwf x (((setS_both zs).2 x).1 hx))
  clear hlen hwf
  go_wp2_with (go_at_call 9; go_loud (refine (unhide HIN).mono ?_; rw [← unhide HNS]; rintro e w2 ⟨v2, rfl, hown2, hb2⟩; obtain ⟨A2, c2, rfl, hc2, hm2, hrd2⟩ := own_slice hown2; rw [← unhide HQ] at hc2 hrd2 ⊢; have HRD2 := hide hrd2; have HB2 := hide hb2; clear hown2 hb2 hrd2))
  go_loopw [8, 46] (fun v i wr => ∃ (k : Nat) (K : Option Addr) (kc : Nat), i = .int .i64 k ∧ k ≤ q ∧ v = .slice K k kc ∧ wr.ownsRow w2.heap.size 31 5 (.slice K k kc) k ((ns.take k).flatMap pc_string) ∧ Below w2.heap.size w2 wr) (fun _ i _ => q - (intOf i).toNat)
  case atStart => exact ⟨0, none, 0, rfl, Nat.zero_le _, rfl, World.ownsRow_nil _ _ _ _, Below.refl _ _⟩
  case round =>
    obtain ⟨k, K, kc, rfl, hk, rfl, hown, hbel⟩ := hrel
    by_cases hlt : k < q
    · obtain ⟨ad, u, rfl, hSb, hu, hcell⟩ := ((unhide HRD2).keep (fun b hb => hbel.block b hb.2)).at_ hlt
      have hln : k < ns.length := by have := unhide HQ; omega
      have hux : u = encS ns[k] := by
        rw [List.getElem?_map, List.getElem?_eq_getElem hln] at hu
        simpa using hu.symm
      have htk : (ns.take (k + 1)).flatMap pc_string = (ns.take k).flatMap pc_string ++ pc_string ns[k] := by
        rw [List.take_succ_eq_append_getElem hln, List.flatMap_append]
        simp
      have hbd := (unhide HMEM) ns[k] (by rw [← unhide HNS]; exact List.getElem_mem hln)
      generalize ns[k] = x at *
      subst hux
      replace hcell : wr.cell? (ad.add k) = some (.string ⟨x.toArray⟩) := hcell
      have HTK := hide htk
      have HOWN := hide hown
      have HBEL := hide hbel
      have hk0 : (0 : Int) ≤ (k : Int) := by omega
      have hk1 : (k : Int) < (q : Int) := by omega
      clear htk hu hown hbel
      go_wp2_with (at_builtin; go_loud (obtain ⟨i0, hi0, hiz, his, hib⟩ := info_parts info30; refine wpList_append_any (S := fun _ => True) _ rfl _ _ 27 rfl w2.heap.size 31 i0 _ 5 64 Try.underlying27 hi0 hiz his hib ?x1 ?x2 (.slice K k kc) k ((ns.take k).flatMap pc_string) ?x3 ?x4 (some ⟨wr.heap.size, 0, none⟩) 1 1 (pc_string x) ?x5 ?x6 (fives) ?x7 ?x8 ?x9 ?_; (case x1 => rfl); (case x2 => omega); (case x3 => rfl); (case x4 => exact own_below (unhide HOWN) (by repeat (first | with_reducible exact Below.refl _ _ | with_reducible exact x | with_reducible refine Below.alloc ?_ (by first | omega | (simp; omega) | (simp; done)) _ | with_reducible refine Below.setCell ?_ (by first | omega | (simp; omega) | (simp; done)) _ | with_reducible refine Below.drew ?_ | with_reducible refine below_drewN ?_ _))); (case x5 => rfl); (case x6 => exact reads_blkS (S := fun _ => True) (t := 31) (cs := (pc_string x).toArray) (Blk.newS rfl) trivial 5 1 rfl); (case x7 => unfold maxLen; omega); (case x8 => omega); (case x9 => have := (unhide HBEL).size; simp; omega); clear hi0 hiz his hib; intro v6 w6 hown6 hgr6 hat6; obtain ⟨K6, kc6, rfl, _, _, _⟩ := own_slice hown6; have hB6 : Below w2.heap.size w2 w6 := (Below.alloc (unhide HBEL) (unhide HBEL).size _).grown hgr6 (by have := (unhide HBEL).size; simp; omega) (fun j hj => by have := (unhide HOWN).lt j hj; omega); have HO6 := hide hown6; have HB6 := hide hB6; clear hown6 hB6 hgr6 hat6))
      go_roundw
      case rel => exact ⟨k + 1, K6, kc6, by go_num, by omega, rfl, by rw [unhide HTK]; exact unhide HO6, unhide HB6⟩
      case measure => simp [intOf]; omega
    · obtain rfl : k = q := by omega
      have hk1 : ¬ (k : Int) < (k : Int) := by omega
      have hall : ns.take k = ns := List.take_of_length_le (by have := unhide HQ; omega)
      rw [hall] at hown
      obtain ⟨K', kc', hv, hkc, hkm, hRk⟩ := own_slice hown
      obtain ⟨rfl, _, rfl⟩ := Value.slice.inj hv
      have hB1 := unhide HB1
      have hB2 := unhide HB2
      have hw2 : Below w.heap.size w w2 := hB1.trans (hB2.mono hB1.size)
      have hwr : Below w.heap.size w wr := hw2.trans (hbel.mono hw2.size)
      have HRK := hide hRk
      have HW := hide hwr
      have hzr := hwr.size
      unfold maxLen at hkm
      by_cases hk0 : k = 0
      · subst hk0
        have h0 : ((0 : Nat) : Int) = 0 := rfl
        clear hRk hown hbel hall hv hB1 hB2 hw2 hwr
        go_wp2
        go_ret
        exact ⟨rfl, unhide HW⟩
      · have hk00 : ¬ (k : Int) = 0 := by omega
        have hz0 := (unhide HNE) (by intro e; have := unhide HQ; rw [e] at this; simp at this; omega)
        have hr2 := hr.keep (fun b hb => hwr.block b hb)
        have hrD2 := hrD.keep (fun b hb => hwr.block b hb)
        have hzw2 := hw2.size
        have ho2 : Old wr (Lt w.heap.size) := fun b hb => Nat.lt_of_lt_of_le hb hwr.size
        have HRD := hide hrD2
        have HB5 := hide hbel
        clear hRk hown hbel hall hv hB1 hB2 hw2 hwr hrD2
        go_wp2_with (first
          | (at_builtin; go_loud (obtain ⟨i0, hi0, hz0', hz1', hz2⟩ := info_parts info5; refine wpList_append_any (S := Lt w.heap.size) _ rfl _ _ _ rfl wr.heap.size 5 i0 _ 1 1 Try.underlying22 hi0 hz0' hz1' hz2 ?x1 ?x2 (.slice (some ⟨wr.heap.size, 0, none⟩) 0 0) 0 [] ?x3 ?x8 A bs.length cap (bs.map Go.Proofs.Ytlnpiigdjjadiaa.u8) ?x4 ?x5 (u8_one bs) ?c3 ?x7 ?c4 ?_; (case x1 => rfl); (case x2 => omega); (case x3 => rfl); (case x4 => rfl); (case x5 => exact hr2.keep (by go_simp)); (case x7 => omega); (case x8 => exact World.ownsRow_made _ #[] 0 (Nat.le_refl _) (Nat.zero_le _) rfl); (case c3 => unfold maxLen; omega); (case c4 => simp); clear hi0 hz0' hz1' hz2; intro v3 w3 hown3 hgrow3 hat3; have hb3 : Below wr.heap.size wr w3 := ((by repeat (first | with_reducible exact Below.refl _ _ | with_reducible refine Below.alloc ?_ (by first | omega | (simp; omega) | (simp; done)) _ | with_reducible refine Below.drew ?_ | with_reducible refine below_drewN ?_ _)) : Below wr.heap.size wr (wr.alloc _)).grown hgrow3 (by simp) (fun k hk => by simp [Value.ownBlock] at hk; omega); obtain ⟨A3, c3, rfl, hc3, hcm3, hr3⟩ := own_slice hown3; have HB3 := hide hb3; have hz3 := hb3.size; clear hown3 hgrow3 hat3))
          | (go_at_call 7; go_loud (refine (putSet_string (fun b => b < w3.heap.size) D A3 bs zs k0 dcap _ c3 w3 (unhide HL) hld (((unhide HRD).keep (fun b hb => (unhide HB3).block b (by have : b < w.heap.size := hb; omega))).sub (fun b hb => by have : b < w.heap.size := hb; show b < w3.heap.size; omega)) (fun b hb => hb) (unhide HWF) (by first | rfl | simp | omega) (by have h := hr3.sub (T := fun b => b < w3.heap.size) (fun b hb => hb.2); unfold RB; simpa using h) (by first | omega | (simp; omega)) hz0).mono ?_; rw [unhide HSB]; rintro e w4 ⟨A4, c4, rfl, hc4, hcm4, hr4, hb4⟩; rw [List.length_append] at hc4 ⊢; have HB4 := hide hb4; have HR4 := hide hr4; have HC4 := hide hc4; have hz4 := hb4.size; clear hb4 hr4 hc4))
          | (go_at_call 10; go_loud (refine (isSet_ok bs (part_string ns.length ns ns.length) (.mk 8 0 [] 0 (ns.map pk_string)) (ns.map pk_string) A A4 K bs.length _ k cap c4 kc (ns.flatMap pc_string) (Lt w.heap.size) (MadeS w3 w4) (fun b => w2.heap.size ≤ b ∧ b < wr.heap.size) w4 ?o1 ?o2 ?o3 rfl rfl ?n3 ?r1 (unhide HR4) hc (unhide HC4) hm ?m2 ?l1 ?c3 ?m3 ?r3 ?p3 ?g1 ?g2 ?g3 ?t1 ?t2).mono ?_; (case o1 => exact fun b hb => by have : b < w.heap.size := hb; omega); (case o2 => exact fun b hb => hb.2); (case o3 => exact fun b hb => by omega); (case n3 => rw [List.length_map]; exact unhide HQ); (case r1 => exact ((hr2.keep (fun b hb => (unhide HB3).block b (by have : b < w.heap.size := hb; omega))).keep (fun b hb => (unhide HB4).block b (by have : b < w.heap.size := hb; omega)))); (case m2 => exact hcm4); (case l1 => have := part_len_string ns.length ns ns.length (Nat.le_refl _) (by rw [unhide HNS]; exact unhide HMEM); have := unhide HQ; omega); (case c3 => rw [List.length_map, ← unhide HQ]; exact hkc); (case m3 => unfold maxLen; omega); (case r3 => rw [List.length_map, ← unhide HQ]; exact ((unhide HRK).keep (fun b hb => (unhide HB3).block b (by omega))).keep (fun b hb => (unhide HB4).block b (by omega))); (case p3 => exact ps_string _ _ ns); (case g1 => exact (setGood_string ns (by have := unhide HQ; omega)).1); (case g2 => exact (setGood_string ns (by have := unhide HQ; omega)).2); (case g3 => rw [List.length_map, ← unhide HQ]; omega); (case t1 => exact setRead_string ns (by rw [unhide HNS]; exact unhide HMEM) (by have := unhide HQ; omega)); (case t2 => exact setSame_string ns); rintro e w5 ⟨rfl, hb5⟩; have HB5' := hide hb5; clear hb5)))
        go_ret
        refine ⟨rfl, ?_⟩
        have k1 := unhide HW
        have k3 := (unhide HB3).mono k1.size
        have k4 := (unhide HB4).mono (Nat.le_trans k1.size (unhide HB3).size)
        have k5 := (unhide HB5').mono (Nat.le_trans (Nat.le_trans k1.size (unhide HB3).size) (unhide HB4).size)
        exact ((k1.trans k3).trans k4).trans k5
theorem FnPutSetString_walk (A : Option Addr) (n cap : Nat) (zs : List Int) (D : Option Addr) (l dcap : Nat) (ds : List ByteArray) (w : World) (hrow : RowIn .u8 w A n cap zs) (hrowD : RowStr w D l dcap ds) :
    Calls Try.prog 3 #[.slice A n cap, .slice D l dcap] w fun e w' => e = .returned (.bool true) ∧ Below w.heap.size w w' := by
  obtain ⟨xs, hlD, hrD, hcD, hmD⟩ := strs_of_row hrowD
  obtain ⟨bs, rfl, hr, hc, hm⟩ := bytes_of_row hrow
  have hZ := zzFits2_any (Lt w.heap.size) D xs l dcap w hlD hrD hcD (by unfold maxLen at hmD; omega)
  by_cases hf : 2147483647 < bs.length
  · exact FnPutSetString_far A D _ cap l dcap w hf
  by_cases h2 : 200 < bs.length ∨ 100 < l
  · exact FnPutSetString_not A D _ cap l dcap w (by omega) (by unfold maxLen at hmD; omega) hZ h2
  · exact FnPutSetString_few A D bs xs cap dcap l w (by omega) hlD (by omega) hc hm hr hrD hZ
end Go.Proofs.Ytlnpiigdjjadiaa
