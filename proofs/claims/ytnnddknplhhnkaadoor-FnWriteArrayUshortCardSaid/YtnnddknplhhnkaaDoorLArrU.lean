/-
  The walk of the law FnWriteArrayUshort. No condition.
-/
import Derived.Test.YtnnddknplhhnkaaDoorArrU
namespace Go.Proofs.YtnnddknplhhnkaaDoor
set_option linter.unusedSimpArgs false
set_option linter.unusedVariables false
open Go.RowKit
/-- The cells of an element as a value. -/
def kidU (x : Int) : List Value := [.int .i64 3, .int .u64 (((x.toNat : Nat) : Int)), .string ⟨#[]⟩, .slice none 0 0, .int .i64 0, .slice none 0 0]
def kidsU (ns : List Int) : List Value := ns.flatMap kidU
def avsU (ns : List Int) : List AV := ns.map fun x => .mk 3 (x.toNat) [] [] 0 []
theorem kidsU_snoc (ns : List Int) (x : Int) : kidsU (ns ++ [x]) = kidsU ns ++ kidU x := by simp [kidsU]
theorem avscU (w : World) (S : Nat → Prop) : ∀ ns : List Int, AVsC w S (avsU ns) (kidsU ns)
  | [] => by
    show AVsC w S [] []
    unfold AVsC
    rfl
  | x :: r => by
    show AVsC w S (AV.mk 3 (x.toNat) [] [] 0 [] :: avsU r) (kidU x ++ kidsU r)
    unfold AVsC
    refine ⟨_, _, rfl, rfl, ?_, avscU w S r⟩
    unfold kidU
    skip
    exact AVC.plain w S 3 (x.toNat) [] 0
theorem wantU_av (w : World) (S : Nat → Prop) (ns : List Int) (A : Option Addr) (n cap : Nat) (hn : n = ns.length) (hc : n ≤ cap) (hm : cap ≤ maxLen) (hr : Reads w S 6 A n (kidsU ns)) :
    AVC w S (.mk 23 0 [] (avsU ns) 0 []) [.int .i64 23, .int .u64 0, .string ⟨#[]⟩, .slice A n cap, .int .i64 0, .slice none 0 0] := by
  subst hn
  have hl : (avsU ns).length = ns.length := by simp [avsU]
  unfold AVC
  refine ⟨A, cap, kidsU ns, none, 0, [], by rw [hl]; rfl, by rw [hl]; exact hc, hm, by rw [hl]; exact hr, avscU w S ns, Nat.le_refl _, Nat.zero_le _, Reads.none_, by unfold AVsC; rfl⟩
theorem six_onesU {k n o : Int} {t : ByteArray} {K D : Option Addr} {kn kc dn dc : Nat} : ∀ u ∈ [Value.int .i64 k, .int .u64 n, .string t, .slice K kn kc, .int .i64 o, .slice D dn dc], u.oneCell' = true := by
  intro u hu
  simp only [List.mem_cons, List.not_mem_nil, or_false] at hu
  rcases hu with rfl | rfl | rfl | rfl | rfl | rfl <;> rfl
set_option maxHeartbeats 400000 in
theorem FnWriteArrayUshort_far (A : Option Addr) (n cap : Nat) (w : World) (h : 2147483647 < n) (hm : n ≤ 9223372036854775807) : Calls Tryd.prog 6 #[.slice A n cap] w fun e w' => e = .returned (.bool true) ∧ Below w.heap.size w w' := by
  go_enter Tryd.func6, Tryd.ntmps6
  go_wp2
  go_ret
  exact ⟨rfl, Below.refl _ _⟩
set_option maxRecDepth 100000 in
set_option maxHeartbeats 1600000 in
theorem FnWriteArrayUshort_near (A : Option Addr) (ns : List Int) (n cap : Nat) (hn : n = ns.length) (hc : n ≤ cap) (hcm : cap ≤ 9223372036854775807) (hn1 : n ≤ 2147483647) (hwf : ∀ x ∈ ns, 0 ≤ x ∧ x ≤ 65535) (w : World) (hr : Reads w (Lt w.heap.size) 1 A n (ns.map (Value.int .u16))) :
    Calls Tryd.prog 6 #[.slice A n cap] w fun e w' => e = .returned (.bool true) ∧ Below w.heap.size w w' := by
  have HN := hide hn
  clear hn
  have hr1 : Reads (w.alloc (.cells #[.int .u16 5] 38)) (Lt (w.alloc (.cells #[.int .u16 5] 38)).heap.size) 1 (some ⟨w.heap.size, 0, none⟩) 1 ([5].map (Value.int .u16)) := Reads.of_blk (S := Lt (w.alloc (.cells #[.int .u16 5] 38)).heap.size) (t := 38) (cs := #[.int .u16 5]) (Blk.new _ _ _) (by simp [Lt]) 1 1 rfl
  go_enter Tryd.func6, Tryd.ntmps6
  go_wp2_with fail
  refine (implWriteArrayUshort_any (some ⟨w.heap.size, 0, none⟩) [5] 1 1 rfl (by omega) (by omega) (by omega) (by simp) _ hr1).mono ?_
  rintro e w1 ⟨A1, n1, c1, rfl, hn1', hc1, hm1, hrb1, hb1⟩
  have hw1 : Below w.heap.size w w1 := ((Below.refl w.heap.size w).alloc (Nat.le_refl _) _).trans (hb1.mono (by simp))
  have hz1 : w.heap.size + 1 ≤ w1.heap.size := by have := hb1.size; simpa using this
  have HN1 := hide hn1'
  have HW1 := hide hw1
  have HRB1 := hide hrb1
  clear hn1' hw1 hrb1 hb1 hr1
  go_wp2_with fail
  have hav : AVC (w1.alloc (.cells #[.int .i64 3, .int .u64 5, .string ⟨#[]⟩, .slice none 0 0, .int .i64 0, .slice none 0 0] 29)) (Lt (w1.heap.size + 1)) (.mk 23 0 [] (avsU [5]) 0 []) [.int .i64 23, .int .u64 0, .string ⟨#[]⟩, .slice (some ⟨w1.heap.size, 0, none⟩) 1 1, .int .i64 0, .slice none 0 0] :=
    wantU_av _ _ [5] _ 1 1 rfl (Nat.le_refl _) (by unfold maxLen; omega) (Reads.of_blk (t := 29) (cs := #[.int .i64 3, .int .u64 5, .string ⟨#[]⟩, .slice none 0 0, .int .i64 0, .slice none 0 0]) (Blk.new _ _ _) (by simp [Lt]) 6 1 rfl)
  obtain ⟨o5, hq5⟩ := arrU_read [5] (by simp) (by simp)
  have hn1' := unhide HN1
  have hl5 := arrU_len [5]
  simp only [List.length_cons, List.length_nil] at hl5
  refine (wrote_any (Made _ w1) (Lt (w1.heap.size + 1)) A1 (arrU [5]) n1 c1 _ _ _ _ _ _ _ _ _ hn1' ((unhide HRB1).keep (stays_alloc (fun x hx => hx.2) (Stays.refl _ _) _)) (by omega) (by unfold maxLen at hm1; omega) (by omega) (old_alloc (fun x hx => hx.2) _) (fun b hb => by simp [Lt] at hb ⊢; omega) hav hq5 (by unfold SameA; exact ⟨rfl, rfl, rfl, SameAs.refl _, SameAs.refl _⟩)).mono ?_
  rintro e w2 ⟨rfl, hb2⟩
  have hw2 : Below w.heap.size w w2 := ((unhide HW1).alloc (by omega) _).trans (hb2.mono (by simp; omega))
  have HW2 := hide hw2
  clear hav hq5 hn1' hl5 hb2 hw2
  go_wp2
  go_loopw [28] (fun i wr => ∃ (k : Nat) (Kv : Option Addr) (kc : Nat), i = .int .i64 k ∧ k ≤ n ∧ Blk wr w2.heap.size 29 #[.int .i64 23, .int .u64 0, .string ⟨#[]⟩, .slice Kv k kc, .int .i64 0, .slice none 0 0] ∧ wr.ownsRow (w2.heap.size + 1) 29 6 (.slice Kv k kc) k (kidsU (ns.take k)) ∧ Below w2.heap.size w2 wr) (fun i _ => n - (intOf i).toNat)
  case atStart => exact ⟨0, none, 0, rfl, Nat.zero_le _, Blk.new _ _ _, World.ownsRow_nil _ _ _ _, (by repeat (first | with_reducible exact Below.refl _ _ | with_reducible exact x | with_reducible refine Below.alloc ?_ (by first | omega | (simp; omega) | (simp; done)) _ | with_reducible refine Below.setCell ?_ (by first | omega | (simp; omega) | (simp; done)) _ | with_reducible refine Below.drew ?_ | with_reducible refine below_drewN ?_ _))⟩
  case round =>
    obtain ⟨k, Kv, kc, rfl, hk, hblk, hown, hbel⟩ := hrel
    have hwr : Below w.heap.size w wr := (unhide HW2).trans (hbel.mono (unhide HW2).size)
    have hzr : w2.heap.size < wr.heap.size := hblk.lt
    have hge : ∀ x, (Value.slice Kv k kc).ownBlock = some x → w2.heap.size + 1 ≤ x ∧ x < wr.heap.size := own_ge hown
    have HGE := hide hge
    have HOWN := hide hown
    have HBEL := hide hbel
    have HWR := hide hwr
    have HBLK := hide hblk
    obtain ⟨⟨p0, p1, p2, p3, p4, p5⟩, ⟨f0, f1, f2, f3, f4, f5⟩⟩ := six_cells hblk
    clear hge hown hbel hblk
    by_cases hlt : k < n
    · obtain ⟨ad, u, rfl, hSb, hu, hcell⟩ := (hr.below hwr).at_ hlt
      have hln : k < ns.length := by have := unhide HN; omega
      have hux : u = .int .u16 ns[k] := by
        rw [List.getElem?_map, List.getElem?_eq_getElem hln] at hu
        simpa using hu.symm
      have htk : kidsU (ns.take (k + 1)) = kidsU (ns.take k) ++ kidU ns[k] := by
        rw [List.take_succ_eq_append_getElem hln, kidsU_snoc]
      have hx := hwf ns[k] (List.getElem_mem hln)
      generalize ns[k] = x at *
      obtain ⟨X, rfl⟩ := Int.eq_ofNat_of_zero_le hx.1
      subst hux
      have HTK := hide htk
      clear htk hu hwr
      obtain ⟨i0, hi0, hiz, his, hib⟩ := info_parts info29
      go_wp2_with (at_builtin; go_loud (refine wpList_append_any (S := fun _ => True) _ rfl _ _ 27 rfl (w2.heap.size + 1) 29 i0 _ 6 88 Tryd.underlying27 hi0 hiz his hib ?x1 ?x2 (.slice Kv k kc) k (kidsU (ns.take k)) ?x3 ?x4 (some ⟨wr.heap.size, 0, none⟩) 1 1 [.int .i64 3, .int .u64 ((X : Int)), .string ⟨#[]⟩, .slice none 0 0, .int .i64 0, .slice none 0 0] ?x5 ?x6 six_onesU ?x7 ?x8 ?x9 ?_; (case x1 => rfl); (case x2 => omega); (case x3 => rfl); (case x4 => exact own_below (unhide HOWN) (by repeat (first | with_reducible exact Below.refl _ _ | with_reducible exact x | with_reducible refine Below.alloc ?_ (by first | omega | (simp; omega) | (simp; done)) _ | with_reducible refine Below.setCell ?_ (by first | omega | (simp; omega) | (simp; done)) _ | with_reducible refine Below.drew ?_ | with_reducible refine below_drewN ?_ _))); (case x5 => rfl); (case x6 => exact Reads.of_blk (t := 29) (cs := #[.int .i64 3, .int .u64 ((X : Int)), .string ⟨#[]⟩, .slice none 0 0, .int .i64 0, .slice none 0 0]) (Blk.new' rfl) trivial 6 1 rfl); (case x7 => unfold maxLen; omega); (case x8 => omega); (case x9 => simp; omega); clear hi0 hiz his hib; intro v6 w6 hown6 hgr6 hat6; have hK6 : Blk w6 w2.heap.size 29 #[.int .i64 23, .int .u64 0, .string ⟨#[]⟩, .slice Kv k kc, .int .i64 0, .slice none 0 0] := Blk.grown ((unhide HBLK).alloc _) hgr6 (fun e => by have h := unhide HGE _ e.symm; omega); obtain ⟨⟨b06, b16, b26, b36, b46, b56⟩, ⟨e06, e16, e26, e36, e46, e56⟩⟩ := six_cells hK6; have hB6 : Below w2.heap.size w2 w6 := ((unhide HBEL).alloc (by omega) _).grown hgr6 (by simp; omega) (fun k hk => by have h := unhide HGE _ hk; omega); obtain ⟨K6, kc6, rfl, hkc6, hkm6, _⟩ := own_slice hown6; have HB6 := hide hB6; have HO6 := hide hown6; have HK6 := hide hK6; clear hgr6 hown6 hat6 hK6 hB6))
      go_roundw
      case rel => exact ⟨k + 1, K6, kc6, by go_num, by omega, (unhide HK6).set_ 3 _, ownsRow_setCell_below (by rw [unhide HTK]; exact unhide HO6) (by simp) _, (unhide HB6).setCell (Nat.le_refl _) _⟩
      case measure => simp [intOf]; omega
    · obtain rfl : k = n := by omega
      by_cases h300 : 300 < k
      · have h300' : (300 : Int) < (k : Int) := by omega
        go_wp2
        go_ret
        exact ⟨rfl, unhide HWR⟩
      have h300' : ¬ (300 : Int) < (k : Int) := by omega
      have hrr : Reads wr (Lt wr.heap.size) 1 A k (ns.map (Value.int .u16)) := (hr.below hwr).sub (fun b hb => Nat.lt_of_lt_of_le hb hwr.size)
      have hav : AVC wr (Lt wr.heap.size) (.mk 23 0 [] (avsU ns) 0 []) [.int .i64 23, .int .u64 0, .string ⟨#[]⟩, .slice Kv k kc, .int .i64 0, .slice none 0 0] := by
        obtain ⟨A', c', he', h1, h2, hR⟩ := own_slice (unhide HOWN)
        simp only [Value.slice.injEq] at he'
        obtain ⟨rfl, _, rfl⟩ := he'
        rw [List.take_of_length_le (by have := unhide HN; omega)] at hR
        exact wantU_av _ _ ns _ k _ (unhide HN) h1 h2 (hR.sub fun b hb => hb.2)
      have HAV := hide hav
      clear hav hwr
      go_wp2_with fail
      refine (implWriteArrayUshort_any A ns k cap (unhide HN) hc hcm (by omega) hwf _ hrr).mono ?_
      rintro e w7 ⟨A7, n7, c7, rfl, hn7, hc7, hm7, hrb7, hb7⟩
      have hK7 := (unhide HBLK).below hb7 hzr
      obtain ⟨⟨q0, q1, q2, q3, q4, q5⟩, _⟩ := six_cells hK7
      clear hK7 p0 p1 p2 p3 p4 p5 f0 f1 f2 f3 f4 f5
      have HN7 := hide hn7
      have HRB7 := hide hrb7
      have HB7 := hide hb7
      clear hn7 hrb7 hb7
      go_wp2_with fail
      obtain ⟨oq, hq⟩ := arrU_read ns hwf (by have := unhide HN; omega)
      have hl7 := arrU_len ns
      have hln := unhide HN
      have hb7 := unhide HB7
      refine (wrote_any (Made wr w7) (Lt wr.heap.size) A7 (arrU ns) n7 c7 _ _ _ _ _ _ _ _ _ (unhide HN7) (unhide HRB7) (by have := unhide HN7; omega) (by unfold maxLen at hm7; omega) (by omega) (fun x hx => hx.2) (fun b hb => Nat.lt_of_lt_of_le hb hb7.size) ((unhide HAV).keep (Stays.of_below hb7)) hq (by unfold SameA; exact ⟨rfl, rfl, rfl, SameAs.refl _, SameAs.refl _⟩)).mono ?_
      rintro e w8 ⟨rfl, hb8⟩
      have hwr := unhide HWR
      have hend : Below w.heap.size w w8 := (hwr.trans (hb7.mono hwr.size)).trans (hb8.mono (Nat.le_trans hwr.size hb7.size))
      clear hq hl7 hln hb7 hb8
      go_wp2
      go_ret
      exact ⟨rfl, hend⟩
theorem FnWriteArrayUshort_walk (a : Option Addr) (len cap : Nat) (zs : List Int) (w : World) (h : RowIn .u16 w a len cap zs) :
    Calls Tryd.prog 6 #[.slice a len cap] w fun e w' => e = .returned (.bool true) ∧ Below w.heap.size w w' := by
  obtain ⟨hr, hl, hc, hm, hwf⟩ := ints_of_row h
  unfold maxLen at hm
  by_cases h1 : 2147483647 < len
  · exact FnWriteArrayUshort_far a len cap w h1 (by omega)
  · exact FnWriteArrayUshort_near a (zs.take len) len cap hl.symm hc hm (by omega) (fun x hx => by
      have hw := hwf x hx
      simp [Lit.wf, IntKind.signed, IntKind.bits, IntKind.min, IntKind.max] at hw
      omega) w hr
end Go.Proofs.YtnnddknplhhnkaaDoor
