/-
  The walk of the law FnWriteArrayInt. No condition.
-/
import Derived.Test.YtnnddknplhhnkaaDoorAsked
namespace Go.Proofs.YtnnddknplhhnkaaDoor
set_option linter.unusedSimpArgs false
set_option linter.unusedVariables false
open Go.RowKit
theorem six_onesI {k n o : Int} {t : ByteArray} {K D : Option Addr} {kn kc dn dc : Nat} : ∀ u ∈ [Value.int .i64 k, .int .u64 n, .string t, .slice K kn kc, .int .i64 o, .slice D dn dc], u.oneCell' = true := by
  intro u hu
  simp only [List.mem_cons, List.not_mem_nil, or_false] at hu
  rcases hu with rfl | rfl | rfl | rfl | rfl | rfl <;> rfl
set_option maxHeartbeats 400000 in
theorem FnWriteArrayInt_far (A : Option Addr) (n cap : Nat) (w : World) (h : 2147483647 < n) (hm : n ≤ 9223372036854775807) : Calls Tryd.prog 7 #[.slice A n cap] w fun e w' => e = .returned (.bool true) ∧ Below w.heap.size w w' := by
  go_enter Tryd.func7, Tryd.ntmps7
  go_wp2
  go_ret
  exact ⟨rfl, Below.refl _ _⟩
set_option maxRecDepth 100000 in
set_option maxHeartbeats 1600000 in
theorem FnWriteArrayInt_near (A : Option Addr) (ns : List Int) (n cap : Nat) (hn : n = ns.length) (hc : n ≤ cap) (hcm : cap ≤ 9223372036854775807) (hn1 : n ≤ 2147483647) (hwf : ∀ x ∈ ns, -2147483648 ≤ x ∧ x ≤ 2147483647) (w : World) (hr : Reads w (Lt w.heap.size) 1 A n (ns.map (Value.int .i32))) :
    Calls Tryd.prog 7 #[.slice A n cap] w fun e w' => e = .returned (.bool true) ∧ Below w.heap.size w w' := by
  have HN := hide hn
  clear hn
  have hr1 : Reads (w.alloc (.cells #[.int .i32 5] 21)) (Lt (w.alloc (.cells #[.int .i32 5] 21)).heap.size) 1 (some ⟨w.heap.size, 0, none⟩) 1 ([5].map (Value.int .i32)) := Reads.of_blk (S := Lt (w.alloc (.cells #[.int .i32 5] 21)).heap.size) (t := 21) (cs := #[.int .i32 5]) (Blk.new _ _ _) (by simp [Lt]) 1 1 rfl
  go_enter Tryd.func7, Tryd.ntmps7
  go_wp2_with fail
  refine (implWriteArrayInt_any (some ⟨w.heap.size, 0, none⟩) [5] 1 1 rfl (by omega) (by omega) (by omega) (by simp) (by decide) _ hr1).mono ?_
  rintro e w1 ⟨A1, n1, c1, rfl, hn1', hc1, hm1, hrb1, hb1⟩
  have hw1 : Below w.heap.size w w1 := ((Below.refl w.heap.size w).alloc (Nat.le_refl _) _).trans (hb1.mono (by simp))
  have hz1 : w.heap.size + 1 ≤ w1.heap.size := by have := hb1.size; simpa using this
  have HN1 := hide hn1'
  have HW1 := hide hw1
  have HRB1 := hide hrb1
  clear hn1' hw1 hrb1 hb1 hr1
  go_wp2_with fail
  have hav : AVC (w1.alloc (.cells #[.int .i64 8, .int .u64 5, .string ⟨#[]⟩, .slice none 0 0, .int .i64 0, .slice none 0 0] 29)) (Lt (w1.heap.size + 1)) (.mk 23 0 [] (avsI [5]) 0 []) [.int .i64 23, .int .u64 0, .string ⟨#[]⟩, .slice (some ⟨w1.heap.size, 0, none⟩) 1 1, .int .i64 0, .slice none 0 0] :=
    wantI_av _ _ [5] _ 1 1 rfl (Nat.le_refl _) (by unfold maxLen; omega) (Reads.of_blk (t := 29) (cs := #[.int .i64 8, .int .u64 5, .string ⟨#[]⟩, .slice none 0 0, .int .i64 0, .slice none 0 0]) (Blk.new _ _ _) (by simp [Lt]) 6 1 rfl)
  obtain ⟨o5, hq5⟩ := arrI_read [5] ⟨by simp, by decide⟩ (by simp)
  have hn1' := unhide HN1
  have hl5 := arrI_len [5]
  simp only [List.length_cons, List.length_nil] at hl5
  refine (wrote_any (Made _ w1) (Lt (w1.heap.size + 1)) A1 (arrI [5]) n1 c1 _ _ _ _ _ _ _ _ _ hn1' ((unhide HRB1).keep (stays_alloc (fun x hx => hx.2) (Stays.refl _ _) _)) (by omega) (by unfold maxLen at hm1; omega) (by omega) (old_alloc (fun x hx => hx.2) _) (fun b hb => by simp [Lt] at hb ⊢; omega) hav hq5 (by unfold SameA; exact ⟨rfl, rfl, rfl, SameAs.refl _, SameAs.refl _⟩)).mono ?_
  rintro e w2 ⟨rfl, hb2⟩
  have hw2 : Below w.heap.size w w2 := ((unhide HW1).alloc (by omega) _).trans (hb2.mono (by simp; omega))
  have HW2 := hide hw2
  clear hav hq5 hn1' hl5 hb2 hw2
  go_wp2
  go_loopw [28] (fun i wr => ∃ (k : Nat) (Kv : Option Addr) (kc : Nat), i = .int .i64 k ∧ k ≤ n ∧ Blk wr w2.heap.size 29 #[.int .i64 23, .int .u64 0, .string ⟨#[]⟩, .slice Kv k kc, .int .i64 0, .slice none 0 0] ∧ wr.ownsRow (w2.heap.size + 1) 29 6 (.slice Kv k kc) k (kidsI (ns.take k)) ∧ Below w2.heap.size w2 wr) (fun i _ => n - (intOf i).toNat)
  case atStart => exact ⟨0, none, 0, rfl, Nat.zero_le _, Blk.new _ _ _, World.ownsRow_nil _ _ _ _, (by repeat (first | with_reducible exact Below.refl _ _ | with_reducible exact x | with_reducible refine Below.alloc ?_ (by first | omega | (simp; omega) | (simp; done)) _ | with_reducible refine Below.setCell ?_ (by first | omega | (simp; omega) | (simp; done)) _ | with_reducible refine Below.drew ?_ | with_reducible refine below_drewN ?_ _))⟩
  case round =>
    obtain ⟨k, Kv, kc, rfl, hk, hblk, hown, hbel⟩ := hrel
    have hwr : Below w.heap.size w wr := (unhide HW2).trans (hbel.mono (unhide HW2).size)
    have hzr : w2.heap.size < wr.heap.size := hblk.lt
    have hge : ∀ x, (Value.slice Kv k kc).ownBlock = some x → w2.heap.size + 1 ≤ x ∧ x < wr.heap.size := own_ge hown
    have HGE := hide hge
    have HOWN := hide hown
    have HBEL := hide hbel
    have HWR := hide hwr
    have HBLK := hide hblk
    obtain ⟨⟨p0, p1, p2, p3, p4, p5⟩, ⟨f0, f1, f2, f3, f4, f5⟩⟩ := six_cells hblk
    clear hge hown hbel hblk
    by_cases hlt : k < n
    · obtain ⟨ad, u, rfl, hSb, hu, hcell⟩ := (hr.below hwr).at_ hlt
      have hln : k < ns.length := by have := unhide HN; omega
      have hux : u = .int .i32 ns[k] := by
        rw [List.getElem?_map, List.getElem?_eq_getElem hln] at hu
        simpa using hu.symm
      have htk : kidsI (ns.take (k + 1)) = kidsI (ns.take k) ++ kidI ns[k] := by
        rw [List.take_succ_eq_append_getElem hln, kidsI_snoc]
      have hx := hwf ns[k] (List.getElem_mem hln)
      generalize ns[k] = x at *
      subst hux
      have HTK := hide htk
      clear htk hu hwr
      obtain ⟨i0, hi0, hiz, his, hib⟩ := info_parts info29
      go_wp2_with (at_builtin; go_loud (refine wpList_append_any (S := fun _ => True) _ rfl _ _ 27 rfl (w2.heap.size + 1) 29 i0 _ 6 88 Tryd.underlying27 hi0 hiz his hib ?x1 ?x2 (.slice Kv k kc) k (kidsI (ns.take k)) ?x3 ?x4 (some ⟨wr.heap.size, 0, none⟩) 1 1 [.int .i64 8, .int .u64 (IntKind.u64.wrap x), .string ⟨#[]⟩, .slice none 0 0, .int .i64 0, .slice none 0 0] ?x5 ?x6 six_onesI ?x7 ?x8 ?x9 ?_; (case x1 => rfl); (case x2 => omega); (case x3 => rfl); (case x4 => exact own_below (unhide HOWN) (by repeat (first | with_reducible exact Below.refl _ _ | with_reducible exact x | with_reducible refine Below.alloc ?_ (by first | omega | (simp; omega) | (simp; done)) _ | with_reducible refine Below.setCell ?_ (by first | omega | (simp; omega) | (simp; done)) _ | with_reducible refine Below.drew ?_ | with_reducible refine below_drewN ?_ _))); (case x5 => rfl); (case x6 => exact Reads.of_blk (t := 29) (cs := #[.int .i64 8, .int .u64 (IntKind.u64.wrap x), .string ⟨#[]⟩, .slice none 0 0, .int .i64 0, .slice none 0 0]) (Blk.new' rfl) trivial 6 1 rfl); (case x7 => unfold maxLen; omega); (case x8 => omega); (case x9 => simp; omega); clear hi0 hiz his hib; intro v6 w6 hown6 hgr6 hat6; have hK6 : Blk w6 w2.heap.size 29 #[.int .i64 23, .int .u64 0, .string ⟨#[]⟩, .slice Kv k kc, .int .i64 0, .slice none 0 0] := Blk.grown ((unhide HBLK).alloc _) hgr6 (fun e => by have h := unhide HGE _ e.symm; omega); obtain ⟨⟨b06, b16, b26, b36, b46, b56⟩, ⟨e06, e16, e26, e36, e46, e56⟩⟩ := six_cells hK6; have hB6 : Below w2.heap.size w2 w6 := ((unhide HBEL).alloc (by omega) _).grown hgr6 (by simp; omega) (fun k hk => by have h := unhide HGE _ hk; omega); obtain ⟨K6, kc6, rfl, hkc6, hkm6, _⟩ := own_slice hown6; have HB6 := hide hB6; have HO6 := hide hown6; have HK6 := hide hK6; clear hgr6 hown6 hat6 hK6 hB6))
      go_roundw
      case rel => exact ⟨k + 1, K6, kc6, by go_num, by omega, (unhide HK6).set_ 3 _, ownsRow_setCell_below (by rw [unhide HTK]; exact unhide HO6) (by simp) _, (unhide HB6).setCell (Nat.le_refl _) _⟩
      case measure => simp [intOf]; omega
    · obtain rfl : k = n := by omega
      by_cases h300 : 300 < k
      · have h300' : (300 : Int) < (k : Int) := by omega
        go_wp2
        go_ret
        exact ⟨rfl, unhide HWR⟩
      have h300' : ¬ (300 : Int) < (k : Int) := by omega
      have hrk : Reads wr (Lt wr.heap.size) 6 Kv k (kidsI ns) := by
        obtain ⟨A', c', he', h1, h2, hR⟩ := own_slice (unhide HOWN)
        simp only [Value.slice.injEq] at he'
        obtain ⟨rfl, _, rfl⟩ := he'
        rw [List.take_of_length_le (by have := unhide HN; omega)] at hR
        exact hR.sub fun b hb => hb.2
      have HASK := hide (arrayAsked_ints ns Kv k kc wr (unhide HN) (by omega) hwf hrk)
      clear hrk
      by_cases hask : lowB ns = false ∨ highB ns = true
      case neg =>
        have hb : askedB ns = false := by
          unfold askedB
          simp only [not_or, Bool.not_eq_false, Bool.not_eq_true] at hask
          rw [hask.1, hask.2]
          rfl
        have HB := hide hb
        clear hb hask hwr
        go_wp2_with fail
        refine (unhide HASK).mono ?_
        rw [unhide HB]
        rintro e w9 ⟨rfl, hb9⟩
        have hwr := unhide HWR
        have hend : Below w.heap.size w w9 := hwr.trans (hb9.mono hwr.size)
        clear hb9 hwr
        go_wp2
        go_ret
        exact ⟨rfl, hend⟩
      have hb : askedB ns = true := by
        unfold askedB
        rcases hask with h | h <;> simp [h]
      have HBT := hide hb
      have HLH := hide hask
      clear hb hask
      have hrr : Reads wr (Lt wr.heap.size) 1 A k (ns.map (Value.int .i32)) := (hr.below hwr).sub (fun b hb => Nat.lt_of_lt_of_le hb hwr.size)
      have hav : AVC wr (Lt wr.heap.size) (.mk 23 0 [] (avsI ns) 0 []) [.int .i64 23, .int .u64 0, .string ⟨#[]⟩, .slice Kv k kc, .int .i64 0, .slice none 0 0] := by
        obtain ⟨A', c', he', h1, h2, hR⟩ := own_slice (unhide HOWN)
        simp only [Value.slice.injEq] at he'
        obtain ⟨rfl, _, rfl⟩ := he'
        rw [List.take_of_length_le (by have := unhide HN; omega)] at hR
        exact wantI_av _ _ ns _ k _ (unhide HN) h1 h2 (hR.sub fun b hb => hb.2)
      have HAV := hide hav
      clear hav hwr
      go_wp2_with fail
      refine (unhide HASK).mono ?_
      rw [unhide HBT]
      rintro e w9 ⟨rfl, hb9⟩
      have hwr9 : Below w.heap.size w w9 := (unhide HWR).trans (hb9.mono (unhide HWR).size)
      have hK9 := (unhide HBLK).below hb9 hzr
      obtain ⟨⟨s0, s1, s2, s3, s4, s5⟩, _⟩ := six_cells hK9
      have hzr9 : w2.heap.size < w9.heap.size := hK9.lt
      have HBLK := hide hK9
      have hrr : Reads w9 (Lt w9.heap.size) 1 A k (ns.map (Value.int .i32)) := (hr.below hwr9).sub (fun b hb => Nat.lt_of_lt_of_le hb hwr9.size)
      have HAV := hide (((unhide HAV).keep (Stays.of_below hb9)).sub (T := Lt w9.heap.size) (fun b hb => Nat.lt_of_lt_of_le hb hb9.size))
      have HWR := hide hwr9
      clear hK9 hb9 hwr9 p0 p1 p2 p3 p4 p5 f0 f1 f2 f3 f4 f5 hzr
      go_wp2_with fail
      refine (implWriteArrayInt_any A ns k cap (unhide HN) hc hcm (by omega) hwf (unhide HLH) _ hrr).mono ?_
      rintro e w7 ⟨A7, n7, c7, rfl, hn7, hc7, hm7, hrb7, hb7⟩
      have hK7 := (unhide HBLK).below hb7 hzr9
      obtain ⟨⟨q0, q1, q2, q3, q4, q5⟩, _⟩ := six_cells hK7
      clear hK7 s0 s1 s2 s3 s4 s5
      have HN7 := hide hn7
      have HRB7 := hide hrb7
      have HB7 := hide hb7
      clear hn7 hrb7 hb7
      go_wp2_with fail
      obtain ⟨oq, hq⟩ := arrI_read ns ⟨hwf, unhide HLH⟩ (by have := unhide HN; omega)
      have hl7 := arrI_len ns
      have hln := unhide HN
      have hb7 := unhide HB7
      refine (wrote_any (Made w9 w7) (Lt w9.heap.size) A7 (arrI ns) n7 c7 _ _ _ _ _ _ _ _ _ (unhide HN7) (unhide HRB7) (by have := unhide HN7; omega) (by unfold maxLen at hm7; omega) (by omega) (fun x hx => hx.2) (fun b hb => Nat.lt_of_lt_of_le hb hb7.size) ((unhide HAV).keep (Stays.of_below hb7)) hq (by unfold SameA; exact ⟨rfl, rfl, rfl, SameAs.refl _, SameAs.refl _⟩)).mono ?_
      rintro e w8 ⟨rfl, hb8⟩
      have hwr := unhide HWR
      have hend : Below w.heap.size w w8 := (hwr.trans (hb7.mono hwr.size)).trans (hb8.mono (Nat.le_trans hwr.size hb7.size))
      clear hq hl7 hln hb7 hb8
      go_wp2
      go_ret
      exact ⟨rfl, hend⟩
theorem FnWriteArrayInt_walk (a : Option Addr) (len cap : Nat) (zs : List Int) (w : World) (h : RowIn .i32 w a len cap zs) :
    Calls Tryd.prog 7 #[.slice a len cap] w fun e w' => e = .returned (.bool true) ∧ Below w.heap.size w w' := by
  obtain ⟨hr, hl, hc, hm, hwf⟩ := ints_of_row h
  unfold maxLen at hm
  by_cases h1 : 2147483647 < len
  · exact FnWriteArrayInt_far a len cap w h1 (by omega)
  · exact FnWriteArrayInt_near a (zs.take len) len cap hl.symm hc hm (by omega) (fun x hx => by
      have hw := hwf x hx
      simp [Lit.wf, IntKind.signed, IntKind.bits, IntKind.min, IntKind.max] at hw
      omega) w hr
end Go.Proofs.YtnnddknplhhnkaaDoor
