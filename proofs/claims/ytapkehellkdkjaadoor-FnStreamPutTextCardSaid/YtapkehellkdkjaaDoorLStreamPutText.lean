/-
  The walk of the law FnStreamPutText. No condition.
-/
import Derived.Test.YtapkehellkdkjaaDoorEncReadT
import Derived.Test.YtapkehellkdkjaaDoorRow
import Derived.Test.YtapkehellkdkjaaDoorSPut
namespace Go.Proofs.YtapkehellkdkjaaDoor
set_option linter.unusedSimpArgs false
set_option linter.unusedVariables false
set_option linter.unusedVariables false
open Go.RowKit
theorem put_StreamPutText (z : Nat) (hz1 : 18 ≤ z) (hz2 : z ≤ 65536) (S : Nat → Prop) (A : Option Addr) (xs : List (List UInt8)) (n c : Nat) (w : World) (hn : n = xs.length) (hr : Reads w S 1 A n (xs.map strV)) (hS : Old w S) (hx : ∀ x ∈ xs, x.length ≤ 65536) (hl : n ≤ 100) (hc : n ≤ c) :
    Calls Tryd.prog 5 #[.int .i64 z, .slice A n c] w (Written (encs encS xs) w) := by
  have hW := written_closText z hz1 hz2 S A xs n c w hn hr hS hx hl hc
  have HW := hide hW
  obtain ⟨bs, hbs⟩ : ∃ bs, bs = encs encS xs := ⟨_, rfl⟩
  rw [← hbs] at HW ⊢
  clear hW hn hr hx hbs
  go_enter Tryd.func5, Tryd.ntmps5
  go_wp2_with (go_at_call 8; go_loud (refine (unhide HW).mono ?_; rintro e w1 ⟨A1, c1, rfl, h1, h2, h3, h4⟩; have H3 := hide h3; clear h3))
  go_ret2
  exact ⟨A1, c1, rfl, h1, h2, unhide H3, h4⟩
def pcT (x : List UInt8) : List Value := [.int .i64 6, .int .u64 0, .string ⟨x.toArray⟩, .int .i64 0, .slice none 0 0]
theorem psT (w : World) (S : Nat → Prop) : ∀ (xs : List (List UInt8)), PacksC w S (xs.map pkT) (xs.flatMap pcT)
  | [] => by unfold PacksC; rfl
  | x :: xs => by
    rw [List.map_cons, List.flatMap_cons]
    unfold PacksC
    exact ⟨_, _, rfl, rfl, PackC.flat w S 6 0 x 0, psT w S xs⟩
def FitsR (w : World) (e : Ending) (w' : World) : Prop := ∃ b : Bool, e = .returned (.bool b) ∧ w = w'
def FitsRel (n : Nat) (i : Value) : Prop := ∃ k : Nat, i = .int .i64 k ∧ k ≤ n
set_option maxRecDepth 100000 in
set_option maxHeartbeats 800000 in
theorem zzFits2_any (S : Nat → Prop) (A : Option Addr) (xs : List (List UInt8)) (n c : Nat) (w : World) (hn : n = xs.length) (hr : Reads w S 1 A n (xs.map strV)) (hc : n ≤ c) (hcm : c ≤ 9223372036854775807) :
    Calls Tryd.prog 4 #[.slice A n c] w (FitsR w) := by
  have HN := hide hn
  have HR := hide hr
  clear hn hr
  by_cases hf : 2147483647 < n
  · have h1 : (2147483647 : Int) < (n : Int) := by omega
    go_enter Tryd.func4, Tryd.ntmps4
    go_wp2
    go_ret
    exact ⟨_, rfl, rfl⟩
  have h1 : ¬ (2147483647 : Int) < (n : Int) := by omega
  go_enter Tryd.func4, Tryd.ntmps4
  go_wp2
  go_loop [10] (fun i => FitsRel n i) (fun i => n - (intOf i).toNat)
  case atStart => exact ⟨0, rfl, Nat.zero_le _⟩
  case round =>
    obtain ⟨k, rfl, hk⟩ := hrel
    by_cases hlt : k < n
    · obtain ⟨ad, u, rfl, hSb, hu, hcell⟩ := (unhide HR).at_ hlt
      have hln : k < xs.length := by have := unhide HN; omega
      have hux : u = strV xs[k] := by
        rw [List.getElem?_map, List.getElem?_eq_getElem hln] at hu
        simpa using hu.symm
      generalize xs[k] = x at *
      subst hux
      replace hcell : w.cell? (ad.add k) = some (.string ⟨x.toArray⟩) := hcell
      have hk0 : (0 : Int) ≤ (k : Int) := by omega
      have hk1 : (k : Int) < (n : Int) := by omega
      have hsz : (⟨x.toArray⟩ : ByteArray).size = x.length := by simp [ByteArray.size]
      clear hu
      by_cases hbig : 2147483647 < x.length
      · have hb : (2147483647 : Int) < (x.length : Int) := by omega
        go_wp2
        go_ret
        exact ⟨_, rfl, rfl⟩
      · have hb : ¬ (2147483647 : Int) < (x.length : Int) := by omega
        go_wp2
        go_round
        case rel => exact ⟨k + 1, by go_num, by omega⟩
        case measure => simp [intOf]; omega
    · have hk1 : ¬ (k : Int) < (n : Int) := by omega
      go_wp2
      go_ret
      exact ⟨_, rfl, rfl⟩
set_option maxRecDepth 100000 in
set_option maxHeartbeats 1600000 in
theorem FnStreamPutText_not (b : Int) (A : Option Addr) (n c : Nat) (w : World) (hZ : Calls Tryd.prog 4 #[.slice A n c] w (FitsR w)) (hb : ¬ (18 ≤ b ∧ b ≤ 65536) ∨ 100 < n) :
    Calls Tryd.prog 3 #[.int .i64 b, .slice A n c] w (TrueR w) := by
  have HZ := hide hZ
  clear hZ
  have hP := put_StreamPutText 100 (by omega) (by omega) (Lt (w.heap.size + 1)) (some ⟨w.heap.size, 0, none⟩) [[97]] 1 1 (w.alloc (.cells #[.string ⟨#[97]⟩] 9)) rfl (reads_blkS (S := Lt (w.heap.size + 1)) (t := 9) (cs := #[.string ⟨#[97]⟩]) (Blk.new _ _ _) (Nat.lt_succ_self _) 1 1 rfl) (fun b hb => by simpa [Lt] using hb) (by intro x hx; simp at hx; subst hx; simp) (by omega) (by omega)
  have hPL : 0 < (encs encS [[97]]).length := by simp [encs, encS]
  obtain ⟨bs, hbs⟩ : ∃ bs, bs = encs encS [[97]] := ⟨_, rfl⟩
  rw [← hbs] at hP hPL
  have HP := hide hP
  clear hP hbs
  have hcase : (¬ (18 ≤ b ∧ b ≤ 65536)) ∨ ((18 ≤ b ∧ b ≤ 65536) ∧ 100 < n) := by omega
  clear hb
  obtain ⟨M, hM⟩ : ∃ M, M = bs.length := ⟨_, rfl⟩
  have HM := hide hM
  rw [← hM] at hPL
  clear hM
  rcases hcase with hb | ⟨hb, hn⟩
  · go_enter Tryd.func3, Tryd.ntmps3
    go_wp2_with fail
    refine (unhide HZ).mono ?_
    rintro e w0 ⟨b0, rfl, rfl⟩
    rcases b0 with _ | _
    · go_wp2
      go_ret
      exact ⟨rfl, Below.refl _ _⟩
    go_wp2_with fail
    refine (unhide HP).mono ?_
    rintro e w1 ⟨A1, c1, rfl, _, _, _, hb1⟩
    rw [← unhide HM]
    have HB := hide (show Below w.heap.size w w1 from Below.trans (by repeat (first | with_reducible exact Below.refl _ _ | with_reducible exact x | with_reducible refine Below.alloc ?_ (by first | omega | (simp; omega) | (simp; done)) _ | with_reducible refine Below.setCell ?_ (by first | omega | (simp; omega) | (simp; done)) _ | with_reducible refine Below.drew ?_ | with_reducible refine below_drewN ?_ _)) (hb1.mono (by simp)))
    clear hb1
    go_wp2_with (go_at_call 6; go_loud (refine (buffers_no b hb _).mono ?_; rintro e w2 ⟨rfl, rfl⟩))
    go_ret
    exact ⟨rfl, unhide HB⟩
  · have hn2 : (100 : Int) < (n : Int) := by omega
    go_enter Tryd.func3, Tryd.ntmps3
    go_wp2_with fail
    refine (unhide HZ).mono ?_
    rintro e w0 ⟨b0, rfl, rfl⟩
    rcases b0 with _ | _
    · go_wp2
      go_ret
      exact ⟨rfl, Below.refl _ _⟩
    go_wp2_with fail
    refine (unhide HP).mono ?_
    rintro e w1 ⟨A1, c1, rfl, _, _, _, hb1⟩
    rw [← unhide HM]
    have HB := hide (show Below w.heap.size w w1 from Below.trans (by repeat (first | with_reducible exact Below.refl _ _ | with_reducible exact x | with_reducible refine Below.alloc ?_ (by first | omega | (simp; omega) | (simp; done)) _ | with_reducible refine Below.setCell ?_ (by first | omega | (simp; omega) | (simp; done)) _ | with_reducible refine Below.drew ?_ | with_reducible refine below_drewN ?_ _)) (hb1.mono (by simp)))
    clear hb1
    go_wp2_with (go_at_call 6; go_loud (refine (buffers_yes b hb.1 hb.2 _).mono ?_; rintro e w2 ⟨rfl, rfl⟩))
    go_ret
    exact ⟨rfl, unhide HB⟩
set_option maxRecDepth 100000 in
set_option maxHeartbeats 3200000 in
theorem FnStreamPutText_near (z : Nat) (hz1 : 18 ≤ z) (hz2 : z ≤ 65536) (A : Option Addr) (ns : List (List UInt8)) (n c : Nat) (w : World) (hn : n = ns.length) (hr : Reads w (Lt w.heap.size) 1 A n (ns.map strV)) (hZ : Calls Tryd.prog 4 #[.slice A n c] w (FitsR w)) (hl : n ≤ 100) (hc : n ≤ c) :
    Calls Tryd.prog 3 #[.int .i64 z, .slice A n c] w (TrueR w) := by
  have HZ := hide hZ
  clear hZ
  have h2 : ¬ (100 : Int) < (n : Int) := by omega
  have hP := put_StreamPutText 100 (by omega) (by omega) (Lt (w.heap.size + 1)) (some ⟨w.heap.size, 0, none⟩) [[97]] 1 1 (w.alloc (.cells #[.string ⟨#[97]⟩] 9)) rfl (reads_blkS (S := Lt (w.heap.size + 1)) (t := 9) (cs := #[.string ⟨#[97]⟩]) (Blk.new _ _ _) (Nat.lt_succ_self _) 1 1 rfl) (fun b hb => by simpa [Lt] using hb) (by intro x hx; simp at hx; subst hx; simp) (by omega) (by omega)
  have hPL : 0 < (encs encS [[97]]).length := by simp [encs, encS]
  obtain ⟨bs, hbs⟩ : ∃ bs, bs = encs encS [[97]] := ⟨_, rfl⟩
  rw [← hbs] at hP hPL
  have HP := hide hP
  obtain ⟨M, hM⟩ : ∃ M, M = bs.length := ⟨_, rfl⟩
  have HM := hide hM
  rw [← hM] at hPL
  have HN := hide hn
  have HR := hide hr
  clear hP hbs hM hn hr
  go_enter Tryd.func3, Tryd.ntmps3
  go_wp2_with fail
  refine (unhide HZ).mono ?_
  rintro e w0 ⟨b0, rfl, rfl⟩
  rcases b0 with _ | _
  · go_wp2
    go_ret
    exact ⟨rfl, Below.refl _ _⟩
  go_wp2_with fail
  refine (unhide HP).mono ?_
  rintro e w1 ⟨A1, c1, rfl, _, _, _, hb1⟩
  rw [← unhide HM]
  have hw1 : Below w.heap.size w w1 := Below.trans (by repeat (first | with_reducible exact Below.refl _ _ | with_reducible exact x | with_reducible refine Below.alloc ?_ (by first | omega | (simp; omega) | (simp; done)) _ | with_reducible refine Below.setCell ?_ (by first | omega | (simp; omega) | (simp; done)) _ | with_reducible refine Below.drew ?_ | with_reducible refine below_drewN ?_ _)) (hb1.mono (by simp))
  have HB := hide hw1
  clear hb1 hw1
  go_wp2_with (go_at_call 6; go_loud (refine (buffers_yes z (by omega) (by omega) _).mono ?_; rintro e w2 ⟨rfl, rfl⟩))
  go_loopw [8, 38] (fun v i wr => ∃ (k : Nat) (K : Option Addr) (kc : Nat), i = .int .i64 k ∧ k ≤ n ∧ v = .slice K k kc ∧ wr.ownsRow w1.heap.size 31 5 (.slice K k kc) k ((ns.take k).flatMap pcT) ∧ (∀ x ∈ ns.take k, x.length ≤ 65536) ∧ Below w1.heap.size w1 wr) (fun _ i _ => n - (intOf i).toNat)
  case atStart => exact ⟨0, none, 0, rfl, Nat.zero_le _, rfl, World.ownsRow_nil _ _ _ _, by simp, Below.refl _ _⟩
  case round =>
    obtain ⟨k, K, kc, rfl, hk, rfl, hown, hall65, hbel⟩ := hrel
    have HA65 := hide hall65
    clear hall65
    have hbw : Below w.heap.size w wr := (unhide HB).trans (hbel.mono (unhide HB).size)
    by_cases hlt : k < n
    · obtain ⟨ad, u, rfl, hSb, hu, hcell⟩ := ((unhide HR).below hbw).at_ hlt
      have hln : k < ns.length := by have := unhide HN; omega
      have hux : u = strV ns[k] := by
        rw [List.getElem?_map, List.getElem?_eq_getElem hln] at hu
        simpa using hu.symm
      have htk : (ns.take (k + 1)).flatMap pcT = (ns.take k).flatMap pcT ++ pcT ns[k] := by
        rw [List.take_succ_eq_append_getElem hln, List.flatMap_append]
        simp
      have hst : ns.take (k + 1) = ns.take k ++ [ns[k]] := List.take_succ_eq_append_getElem hln
      generalize ns[k] = x at *
      subst hux
      replace hcell : wr.cell? (ad.add k) = some (.string ⟨x.toArray⟩) := hcell
      have hsz : (⟨x.toArray⟩ : ByteArray).size = x.length := by simp [ByteArray.size]
      have HST := hide hst
      clear hst
      have HTK := hide htk
      have HOWN := hide hown
      have HBEL := hide hbel
      have hk0 : (0 : Int) ≤ (k : Int) := by omega
      have hk1 : (k : Int) < (n : Int) := by omega
      have HBW := hide hbw
      clear htk hu hbw hown hbel
      by_cases hbig : 65536 < x.length
      · have hb : (65536 : Int) < (x.length : Int) := by omega
        go_wp2
        go_ret
        exact ⟨rfl, unhide HBW⟩
      have hb : ¬ (65536 : Int) < (x.length : Int) := by omega
      go_wp2_with (at_builtin; go_loud (obtain ⟨i0, hi0, hiz, his, hib⟩ := info_parts info30; refine wpList_append_any (S := fun _ => True) _ rfl _ _ 28 rfl w1.heap.size 31 i0 _ 5 64 Tryd.underlying28 hi0 hiz his hib ?x1 ?x2 (.slice K k kc) k ((ns.take k).flatMap pcT) ?x3 ?x4 (some ⟨wr.heap.size, 0, none⟩) 1 1 (pcT x) ?x5 ?x6 fives ?x7 ?x8 ?x9 ?_; (case x1 => rfl); (case x2 => omega); (case x3 => rfl); (case x4 => exact own_below (unhide HOWN) (by repeat (first | with_reducible exact Below.refl _ _ | with_reducible exact x | with_reducible refine Below.alloc ?_ (by first | omega | (simp; omega) | (simp; done)) _ | with_reducible refine Below.setCell ?_ (by first | omega | (simp; omega) | (simp; done)) _ | with_reducible refine Below.drew ?_ | with_reducible refine below_drewN ?_ _))); (case x5 => rfl); (case x6 => exact reads_blkS (S := fun _ => True) (t := 31) (cs := (pcT x).toArray) (Blk.newS rfl) trivial 5 1 rfl); (case x7 => unfold maxLen; omega); (case x8 => omega); (case x9 => have := (unhide HBEL).size; simp; omega); clear hi0 hiz his hib; intro v6 w6 hown6 hgr6 hat6; obtain ⟨K6, kc6, rfl, _, _, _⟩ := own_slice hown6; have hB6 : Below w1.heap.size w1 w6 := ((unhide HBEL).alloc (unhide HBEL).size _).grown hgr6 (by have := (unhide HBEL).size; simp; omega) (fun k hk => ((unhide HOWN).lt _ hk).1); have HB6 := hide hB6; have HO6 := hide hown6; clear hgr6 hown6 hat6 hB6))
      go_roundw
      case rel => exact ⟨k + 1, K6, kc6, by go_num, by omega, rfl, by rw [unhide HTK]; exact unhide HO6, by rw [unhide HST]; intro y hy; rcases List.mem_append.1 hy with hy | hy; (exact unhide HA65 y hy); (rw [List.mem_singleton.1 hy]; omega), unhide HB6⟩
      case measure => simp [intOf]; omega
    · obtain rfl : k = n := by omega
      have hk1 : ¬ (k : Int) < (k : Int) := by omega
      have hwr := hbw
      have hall : ns.take k = ns := List.take_of_length_le (by have := unhide HN; omega)
      rw [hall] at hown
      have hx := unhide HA65
      rw [hall] at hx
      have HX := hide hx
      clear hx
      obtain ⟨K', kc', hv, hkc, hkm, hRk⟩ := own_slice hown
      obtain ⟨rfl, _, rfl⟩ := Value.slice.inj hv
      have hS2 := put_StreamPutText z hz1 hz2 (Lt w.heap.size) A ns k c wr (unhide HN) ((unhide HR).below hbw) (fun b hb => Nat.lt_of_lt_of_le hb hbw.size) (unhide HX) hl hc
      have HS2 := hide hS2
      have HRK := hide hRk
      have HW := hide hwr
      unfold maxLen at hkm
      clear hS2 hRk hwr hbw hown hbel hall hv
      go_wp2_with fail
      refine (unhide HS2).mono ?_
      rintro e w7 ⟨A7, c7, rfl, hc7, hm7, hr7, hb7⟩
      have hw7 : Below w.heap.size w w7 := (unhide HW).trans (hb7.mono (unhide HW).size)
      have hlen := encs_lenM encS 65545 ns (fun x hx => encS_len x (unhide HX x hx))
      have hn' := unhide HN
      have hO := inOrder_any (fun b => wr.heap.size ≤ b ∧ b < w7.heap.size) (fun b => w1.heap.size ≤ b ∧ b < wr.heap.size) A7 (encs encS ns) _ c7 K (ns.map pkT) (ns.flatMap pcT) k kc w7 rfl hr7 hc7 (by unfold maxLen at hm7; omega) (fun b hb => hb.2) (by omega) (by rw [List.length_map]; exact hn') ((unhide HRK).keep (fun b hb => hb7.block b hb.2)) (psT _ _ ns) (fun b hb => Nat.lt_of_lt_of_le hb.2 hb7.size) hkc (by omega) (ordT ns (unhide HX))
      have HO := hide hO
      have HW7 := hide hw7
      clear hO hw7 hlen hn' hb7 hr7 hm7
      go_wp2_with (go_at_call 7; go_loud (refine (unhide HO).mono ?_; rintro e w8 ⟨rfl, hb8⟩; have HB8 := hide hb8; clear hb8))
      go_ret
      have hw7 := unhide HW7
      exact ⟨rfl, hw7.trans ((unhide HB8).mono hw7.size)⟩
/-- What the frame says of a slice of texts that came in. -/
abbrev RowStr (w : World) (a : Option Addr) (len cap : Nat) (ss : List ByteArray) : Prop :=
  (a = none ∧ len = 0 ∧ cap = 0 ∧ ss = []) ∨ ∃ x, a = some x ∧ len ≤ cap ∧ cap ≤ maxLen ∧ ss.length = cap ∧ (∀ i, i < ss.length → w.cell? (x.add i) = some (.string (ss.getD i ByteArray.empty)))
theorem strs_of_row {w : World} {a : Option Addr} {len cap : Nat} {ss : List ByteArray} (h : RowStr w a len cap ss) :
    ∃ xs : List (List UInt8), len = xs.length ∧ Reads w (Lt w.heap.size) 1 a len (xs.map strV) ∧ len ≤ cap ∧ cap ≤ maxLen := by
  rcases h with ⟨rfl, rfl, rfl, rfl⟩ | ⟨x, rfl, hl, hm, hz, hc⟩
  · exact ⟨[], rfl, Reads.none_, Nat.le_refl _, Nat.zero_le _⟩
  · have hlen : ((ss.take len).map fun s => s.data.toList).length = len := by rw [List.length_map, List.length_take]; omega
    refine ⟨(ss.take len).map fun s => s.data.toList, hlen.symm, ⟨by rw [List.length_map, hlen]; omega, fun h => ⟨x, rfl, ?_, ?_⟩⟩, hl, hm⟩
    · have h0 := hc 0 (by omega)
      apply Classical.byContradiction
      intro hn
      have hx : w.heap[x.block]? = none := Array.getElem?_eq_none (by simp [Lt] at hn; omega)
      simp [World.cell?, Addr.add, hx] at h0
    · intro j u hu
      simp only [List.getElem?_map, List.getElem?_take] at hu
      split at hu
      · rename_i hj
        have hjz : j < ss.length := by omega
        rw [List.getElem?_eq_getElem hjz] at hu
        simp only [Option.map_some, Option.some.injEq] at hu
        rw [hc j hjz, ← hu]
        simp [strV, List.getD_eq_getElem?_getD, List.getElem?_eq_getElem hjz]
      · simp at hu
theorem FnStreamPutText_walk (b : Int) (A : Option Addr) (n c : Nat) (ss : List ByteArray) (w : World) (hb : (Lit.int .i64 b).wf = true) (hrow : RowStr w A n c ss) :
    Calls Tryd.prog 3 #[.int .i64 b, .slice A n c] w fun e w' => e = .returned (.bool true) ∧ Below w.heap.size w w' := by
  obtain ⟨xs, hl, hr, hc, hm⟩ := strs_of_row hrow
  have hZ := zzFits2_any (Lt w.heap.size) A xs n c w hl hr hc (by unfold maxLen at hm; omega)
  by_cases hbn : (18 ≤ b ∧ b ≤ 65536) ∧ n ≤ 100
  · obtain ⟨z, rfl⟩ := Int.eq_ofNat_of_zero_le (show 0 ≤ b by omega)
    exact FnStreamPutText_near z (by omega) (by omega) A xs n c w hl hr hZ hbn.2 hc
  · exact FnStreamPutText_not b A n c w hZ (by omega)
end Go.Proofs.YtapkehellkdkjaaDoor
