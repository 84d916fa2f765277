/-
  The walk of the law FnStreamGetBin. No condition.
-/
import Derived.Test.YtpadbpmnejgckaaDoorTkStreamGetBin
import Derived.Test.YtpadbpmnejgckaaDoorAllWr
import Derived.Test.YtpadbpmnejgckaaDoorStrRow
import Derived.Test.YtpadbpmnejgckaaDoorBuf2S
namespace Go.Proofs.YtpadbpmnejgckaaDoor
set_option linter.unusedSimpArgs false
set_option linter.unusedVariables false
set_option linter.unusedVariables false
open Go.RowKit
theorem get_StreamGetBin (S : Nat → Prop) (A : Option Addr) (bs : List UInt8) (nA cA z n : Nat) (ck : Int) (xs : List (List UInt8)) (w : World) (hnA : nA = bs.length) (hr : RB w S A bs) (hS : Old w S) (hl : nA ≤ 1099511627776) (hz1 : 18 ≤ z) (hz2 : z ≤ 65536) (hn : n = xs.length) (hn2 : n ≤ 100) (he : EncsP encBin xs bs) :
    Calls Tryd.prog 33 #[.slice A nA cA, .int .i64 n, .int .i64 z, .int .i64 ck] w (Taken_StreamGetBin xs w) := by
  have HT := hide (taking_StreamGetBin S A bs nA cA z n ck xs w hnA hr hS hl hz1 hz2 hn hn2 he)
  obtain ⟨m, hm⟩ : ∃ m, m = xs.length := ⟨_, rfl⟩
  have HM := hide hm
  clear hnA hr he hn hm
  go_enter Tryd.func33, Tryd.ntmps33
  go_wp2_with (go_at_call 67; go_loud (refine (unhide HT).mono ?_; rintro e w1 ⟨A1, c1, rfl, h1, h2, h3, h4⟩; rw [← unhide HM] at h1 ⊢; have H3 := hide h3; clear h3))
  go_ret2
  rw [unhide HM] at h1 ⊢
  exact ⟨A1, c1, rfl, h1, h2, unhide H3, h4⟩
set_option maxRecDepth 100000 in
set_option maxHeartbeats 1600000 in
theorem same_StreamGetBin (S R : Nat → Prop) (A B : Option Addr) (zs : List (List UInt8)) (n c c' : Nat) (w : World) (hn : n = zs.length) (hn2 : n ≤ 100) (ha : Reads w S 1 A n (zs.map strV)) (hb : Reads w R 1 B n (zs.map strV)) :
    Calls Tryd.prog 34 #[.slice A n c, .slice B n c'] w fun e w' => e = .returned (.bool true) ∧ Below w.heap.size w w' := by
  have HA := hide ha
  have HB := hide hb
  have HN := hide hn
  clear ha hb hn
  go_enter Tryd.func34, Tryd.ntmps34
  go_wp2
  go_loopw [13] (fun i wr => ∃ k : Nat, k ≤ n ∧ i = .int .i64 k ∧ Quiet w wr) (fun i _ => n - (intOf i).toNat)
  case atStart => exact ⟨0, Nat.zero_le _, rfl, Quiet.refl _⟩
  case round =>
    obtain ⟨k, hk, rfl, hq⟩ := hrel
    by_cases hlt : k < n
    · obtain ⟨ad, u, rfl, _, hu, hca⟩ := (unhide HA).at_ hlt
      obtain ⟨bd, u2, rfl, _, hu2, hcb⟩ := (unhide HB).at_ hlt
      have hkx : k < zs.length := by have := unhide HN; omega
      rw [List.getElem?_map, List.getElem?_eq_getElem hkx] at hu hu2
      obtain rfl := Option.some.inj hu
      obtain rfl := Option.some.inj hu2
      generalize zs[k] = x at *
      replace hca : w.cell? (ad.add k) = some (.string ⟨x.toArray⟩) := hca
      replace hcb : w.cell? (bd.add k) = some (.string ⟨x.toArray⟩) := hcb
      obtain ⟨q, rfl⟩ := hq
      have hlt2 : (k : Int) < (n : Int) := by omega
      have hk0 : (0 : Int) ≤ (k : Int) := by omega
      clear hu hu2 hkx
      go_wp2_with fail
      go_region
      go_wp2_with fail
      go_roundw
      case rel => exact ⟨k + 1, hlt, by go_num, (Quiet.drewN w q).trans (Quiet.drew _)⟩
      case measure => simp [intOf]; omega
    · obtain rfl : k = n := by omega
      have hlt2 : ¬ (k : Int) < (k : Int) := by omega
      have HQ := hide hq
      clear hq
      go_wp2_with fail
      go_ret
      exact ⟨rfl, (unhide HQ).below (Below.refl _ _)⟩
def pkB (x : List UInt8) : Pack := .mk 7 0 x 0 []
def pcB (x : List UInt8) : List Value := [.int .i64 7, .int .u64 0, .string ⟨x.toArray⟩, .int .i64 0, .slice none 0 0]
theorem psB (w : World) (S : Nat → Prop) : ∀ (xs : List (List UInt8)), PacksC w S (xs.map pkB) (xs.flatMap pcB)
  | [] => by unfold PacksC; rfl
  | x :: xs => by
    rw [List.map_cons, List.flatMap_cons]
    unfold PacksC
    exact ⟨_, _, rfl, rfl, PackC.flat w S 7 0 x 0, psB w S xs⟩
theorem wfB : ∀ (xs : List (List UInt8)), (∀ x ∈ xs, x.length ≤ 65536) → WfPs (xs.map pkB) ∧ FitsPs (xs.map pkB)
  | [], _ => ⟨trivial, trivial⟩
  | x :: xs, h => by
    have hx := h x (by simp)
    have ih := wfB xs fun y hy => h y (by simp [hy])
    rw [List.map_cons]
    refine ⟨⟨?_, ih.1⟩, ⟨?_, ih.2⟩⟩
    · simp only [pkB, WfP]
      exact ⟨by omega, trivial⟩
    · simp only [pkB, FitsP, FitHd]
      refine ⟨⟨by omega, by omega, by simp, by simp, by simp, by simp, by omega, by omega, by simp, by simp, by simp, by simp, by omega⟩, trivial⟩
theorem cntB (xs : List (List UInt8)) : ∀ p ∈ xs.map pkB, cnt p = 1 := by
  intro p hp
  obtain ⟨x, _, rfl⟩ := List.mem_map.1 hp
  simp [pkB, cnt, cnts]
theorem encsB : ∀ (xs : List (List UInt8)) (bs : List UInt8), (∀ x ∈ xs, x.length ≤ 65536) → WrPs (xs.map pkB) bs → EncsP encBin xs bs
  | [], bs, _, h => by
    rw [List.map_nil] at h
    unfold WrPs at h
    exact h
  | x :: xs, bs, hx, h => by
    rw [List.map_cons] at h
    unfold WrPs at h
    obtain ⟨a, b, h1, h2, rfl⟩ := h
    refine ⟨a, b, ⟨hx x (by simp), ?_⟩, encsB xs b (fun y hy => hx y (by simp [hy])) h2, rfl⟩
    unfold pkB WrP at h1
    simpa using h1
theorem lenB (xs : List (List UInt8)) (bs : List UInt8) (hx : ∀ x ∈ xs, x.length ≤ 65536) (hn : xs.length ≤ 100) (h : WrPs (xs.map pkB) bs) : bs.length ≤ 20000000 := by
  have h1 := WrPs_len _ bs h (wfB xs hx).2
  have h2 := cnts_one (xs.map pkB) (cntB xs)
  rw [List.length_map] at h2
  omega
/-- What the law does first: it reads one value back. -/
theorem one_StreamGetBin (w : World) : ∃ Q : Ending → World → Prop, Calls Tryd.prog 27 #[.slice (some ⟨w.heap.size, 0, none⟩) 1 1, .int .u64 0] (w.alloc (.cells (pcB [97]).toArray 25)) Q ∧
    ∀ e w1, Q e w1 → ∃ A1 n1 c1, e = .returned (.slice A1 n1 c1) ∧ Calls Tryd.prog 33 #[.slice A1 n1 c1, .int .i64 1, .int .i64 100, .int .i64 1] w1 fun e2 w2 => ∃ ad c2, e2 = .returned (.tuple #[.slice (some ad) 1 c2, .bool true]) ∧ 1 ≤ c2 ∧ w2.cell? ad = some (.string ⟨#[97]⟩) ∧ Below w.heap.size w w2 := by
  have hx : ∀ x ∈ ([[97]] : List (List UInt8)), x.length ≤ 65536 := by intro x hx; simp at hx; subst hx; simp
  refine ⟨_, allWritten_any (([[97]] : List (List UInt8)).map pkB) (some ⟨w.heap.size, 0, none⟩) 1 1 0 (([[97]] : List (List UInt8)).flatMap pcB) (Lt (w.heap.size + 1)) (w.alloc (.cells (pcB [97]).toArray 25)) rfl (by omega) (by omega) (fun b hb => by simpa [Lt] using hb) (reads_blkS (S := Lt (w.heap.size + 1)) (t := 25) (cs := (pcB [97]).toArray) (Blk.new _ _ _) (Nat.lt_succ_self _) 5 1 rfl) (psB _ _ [[97]]) (wfB [[97]] hx).1 (wfB [[97]] hx).2 (cntB [[97]]), ?_⟩
  rintro e w1 ⟨A1, c1, b1, hb1, rfl, hc1, hm1, hr1, hbel1⟩
  have hl1 := lenB [[97]] b1 hx (by simp) hb1
  refine ⟨A1, b1.length, c1, rfl, (get_StreamGetBin _ A1 b1 b1.length c1 100 1 1 [[97]] w1 rfl hr1 (fun b hb => hb.2) (by omega) (by omega) (by omega) rfl (by omega) (encsB [[97]] b1 hx hb1)).mono ?_⟩
  rintro e w2 ⟨A2, c2, rfl, hc2, hm2, hr2, hbel2⟩
  obtain ⟨ad, u, rfl, _, hu, hcell⟩ := hr2.at_ (k := 0) (by simp)
  have hu2 : u = .string ⟨#[97]⟩ := by simpa using hu.symm
  subst hu2
  refine ⟨ad, c2, rfl, hc2, hcell, ?_⟩
  have hb1 : Below w.heap.size w w1 := ((Below.refl _ _).alloc (Nat.le_refl _) _).trans (hbel1.mono (by simp))
  exact hb1.trans (hbel2.mono hb1.size)
set_option maxRecDepth 100000 in
set_option maxHeartbeats 1600000 in
theorem FnStreamGetBin_not (fm b q : Int) (A : Option Addr) (n c : Nat) (w : World) (hZ : Calls Tryd.prog 32 #[.slice A n c] w (FitsR w)) (hb : ¬ Asked b q ∨ 100 < n) :
    Calls Tryd.prog 7 #[.slice A n c, .int .u64 fm, .int .i64 b, .int .i64 q] w (TrueR w) := by
  have HZZ := hide hZ
  clear hZ
  obtain ⟨Q, hQ, hQ2⟩ := one_StreamGetBin w
  have HQ := hide hQ
  have HQ2 := hide hQ2
  clear hQ hQ2
  have hcase : (¬ Asked b q) ∨ (Asked b q ∧ 100 < n) := by
    by_cases h : Asked b q
    · exact .inr ⟨h, hb.resolve_left (fun e => e h)⟩
    · exact .inl h
  clear hb
  rcases hcase with hb | ⟨hb, hn⟩
  · go_enter Tryd.func7, Tryd.ntmps7
    go_wp2_with fail
    refine (unhide HZZ).mono ?_
    rintro e w0 ⟨b0, rfl, rfl⟩
    rcases b0 with _ | _
    · go_wp2
      go_ret
      exact ⟨rfl, Below.refl _ _⟩
    go_wp2_with fail
    refine (unhide HQ).mono ?_
    intro e w1 hq1
    obtain ⟨A1, n1, c1, rfl, hg⟩ := unhide HQ2 e w1 hq1
    have HG := hide hg
    clear hq1 hg
    go_wp2_with fail
    refine (unhide HG).mono ?_
    rintro e w2 ⟨ad, c2, rfl, hc2, hcell, hbel⟩
    have HB := hide hbel
    clear hbel
    go_wp2_with (go_at_call 28; go_loud (refine (buffers2_no b q hb _).mono ?_; rintro e w3 ⟨rfl, rfl⟩))
    go_ret
    exact ⟨rfl, unhide HB⟩
  · have hn2 : (100 : Int) < (n : Int) := by omega
    go_enter Tryd.func7, Tryd.ntmps7
    go_wp2_with fail
    refine (unhide HZZ).mono ?_
    rintro e w0 ⟨b0, rfl, rfl⟩
    rcases b0 with _ | _
    · go_wp2
      go_ret
      exact ⟨rfl, Below.refl _ _⟩
    go_wp2_with fail
    refine (unhide HQ).mono ?_
    intro e w1 hq1
    obtain ⟨A1, n1, c1, rfl, hg⟩ := unhide HQ2 e w1 hq1
    have HG := hide hg
    clear hq1 hg
    go_wp2_with fail
    refine (unhide HG).mono ?_
    rintro e w2 ⟨ad, c2, rfl, hc2, hcell, hbel⟩
    have HB := hide hbel
    clear hbel
    go_wp2_with (go_at_call 28; go_loud (refine (buffers2_yes b q hb _).mono ?_; rintro e w3 ⟨rfl, rfl⟩))
    go_ret
    exact ⟨rfl, unhide HB⟩
set_option maxRecDepth 100000 in
set_option maxHeartbeats 3200000 in
theorem FnStreamGetBin_near (fm z : Nat) (q : Int) (hfm : fm < 18446744073709551616) (hz : Asked (z : Int) q) (A : Option Addr) (ns : List (List UInt8)) (n c : Nat) (w : World) (hn : n = ns.length) (hr : Reads w (Lt w.heap.size) 1 A n (ns.map strV)) (hZ : Calls Tryd.prog 32 #[.slice A n c] w (FitsR w)) (hl : n ≤ 100) (hc : n ≤ c) :
    Calls Tryd.prog 7 #[.slice A n c, .int .u64 fm, .int .i64 z, .int .i64 q] w (TrueR w) := by
  have HZZ := hide hZ
  clear hZ
  have h2 : ¬ (100 : Int) < (n : Int) := by omega
  obtain ⟨Q, hQ, hQ2⟩ := one_StreamGetBin w
  have HQ := hide hQ
  have HQ2 := hide hQ2
  have HN := hide hn
  have HR := hide hr
  have HZ := hide hz
  clear hQ hQ2 hn hr hz
  go_enter Tryd.func7, Tryd.ntmps7
  go_wp2_with fail
  refine (unhide HZZ).mono ?_
  rintro e w0 ⟨b0, rfl, rfl⟩
  rcases b0 with _ | _
  · go_wp2
    go_ret
    exact ⟨rfl, Below.refl _ _⟩
  go_wp2_with fail
  refine (unhide HQ).mono ?_
  intro e w1 hq1
  obtain ⟨A1, n1, c1, rfl, hg⟩ := unhide HQ2 e w1 hq1
  have HG := hide hg
  clear hq1 hg
  go_wp2_with fail
  refine (unhide HG).mono ?_
  rintro e w2 ⟨ad, c2, rfl, hc2, hcell0, hbel⟩
  have HB := hide hbel
  clear hbel
  go_wp2_with (go_at_call 28; go_loud (refine (buffers2_yes z q (unhide HZ) _).mono ?_; rintro e w3 ⟨rfl, rfl⟩))
  clear hcell0
  go_loopw [13, 54] (fun v i wr => ∃ (k : Nat) (K : Option Addr) (kc : Nat), i = .int .i64 k ∧ k ≤ n ∧ v = .slice K k kc ∧ wr.ownsRow w2.heap.size 25 5 (.slice K k kc) k ((ns.take k).flatMap pcB) ∧ (∀ x ∈ ns.take k, x.length ≤ 65536) ∧ Below w2.heap.size w2 wr) (fun _ i _ => n - (intOf i).toNat)
  case atStart => exact ⟨0, none, 0, rfl, Nat.zero_le _, rfl, World.ownsRow_nil _ _ _ _, by simp, Below.refl _ _⟩
  case round =>
    obtain ⟨k, K, kc, rfl, hk, rfl, hown, hall65, hbel⟩ := hrel
    have HA65 := hide hall65
    clear hall65
    have hbw : Below w.heap.size w wr := (unhide HB).trans (hbel.mono (unhide HB).size)
    by_cases hlt : k < n
    · obtain ⟨ad, u, rfl, hSb, hu, hcell⟩ := ((unhide HR).below hbw).at_ hlt
      have hln : k < ns.length := by have := unhide HN; omega
      have hux : u = strV ns[k] := by
        rw [List.getElem?_map, List.getElem?_eq_getElem hln] at hu
        simpa using hu.symm
      have htk : (ns.take (k + 1)).flatMap pcB = (ns.take k).flatMap pcB ++ pcB ns[k] := by
        rw [List.take_succ_eq_append_getElem hln, List.flatMap_append]
        simp
      have hst : ns.take (k + 1) = ns.take k ++ [ns[k]] := List.take_succ_eq_append_getElem hln
      generalize ns[k] = x at *
      subst hux
      replace hcell : wr.cell? (ad.add k) = some (.string ⟨x.toArray⟩) := hcell
      have hsz : (⟨x.toArray⟩ : ByteArray).size = x.length := by simp [ByteArray.size]
      have HST := hide hst
      clear hst
      have HBW := hide hbw
      have HTK := hide htk
      have HOWN := hide hown
      have HBEL := hide hbel
      have hk0 : (0 : Int) ≤ (k : Int) := by omega
      have hk1 : (k : Int) < (n : Int) := by omega
      clear htk hu hbw hown hbel
      by_cases hbig : 65536 < x.length
      · have hb : (65536 : Int) < (x.length : Int) := by omega
        go_wp2
        go_ret
        exact ⟨rfl, unhide HBW⟩
      have hb : ¬ (65536 : Int) < (x.length : Int) := by omega
      go_wp2_with (at_builtin; go_loud (obtain ⟨i0, hi0, hiz, his, hib⟩ := info_parts infoPk; refine wpList_append_any (S := fun _ => True) _ rfl _ _ 23 rfl w2.heap.size 25 i0 _ 5 64 Tryd.underlying23 hi0 hiz his hib ?x1 ?x2 (.slice K k kc) k ((ns.take k).flatMap pcB) ?x3 ?x4 (some ⟨wr.heap.size, 0, none⟩) 1 1 (pcB x) ?x5 ?x6 (fives) ?x7 ?x8 ?x9 ?_; (case x1 => rfl); (case x2 => omega); (case x3 => rfl); (case x4 => exact own_below (unhide HOWN) (by repeat (first | with_reducible exact Below.refl _ _ | with_reducible exact x | with_reducible refine Below.alloc ?_ (by first | omega | (simp; omega) | (simp; done)) _ | with_reducible refine Below.setCell ?_ (by first | omega | (simp; omega) | (simp; done)) _ | with_reducible refine Below.drew ?_ | with_reducible refine below_drewN ?_ _))); (case x5 => rfl); (case x6 => exact reads_blkS (S := fun _ => True) (t := 25) (cs := (pcB x).toArray) (Blk.newS rfl) trivial 5 1 rfl); (case x7 => unfold maxLen; omega); (case x8 => omega); (case x9 => have := (unhide HBEL).size; simp; omega); clear hi0 hiz his hib; intro v6 w6 hown6 hgr6 hat6; obtain ⟨K6, kc6, rfl, _, _, _⟩ := own_slice hown6; have hB6 : Below w2.heap.size w2 w6 := ((unhide HBEL).alloc (unhide HBEL).size _).grown hgr6 (by have := (unhide HBEL).size; simp; omega) (fun k hk => ((unhide HOWN).lt _ hk).1); have HB6 := hide hB6; have HO6 := hide hown6; clear hgr6 hown6 hat6 hB6))
      go_roundw
      case rel => exact ⟨k + 1, K6, kc6, by go_num, by omega, rfl, by rw [unhide HTK]; exact unhide HO6, by rw [unhide HST]; intro y hy; rcases List.mem_append.1 hy with hy | hy; (exact unhide HA65 y hy); (rw [List.mem_singleton.1 hy]; omega), unhide HB6⟩
      case measure => simp [intOf]; omega
    · obtain rfl : k = n := by omega
      have hk1 : ¬ (k : Int) < (k : Int) := by omega
      have hall : ns.take k = ns := List.take_of_length_le (by have := unhide HN; omega)
      rw [hall] at hown
      have hx := unhide HA65
      rw [hall] at hx
      have HX := hide hx
      clear hx
      obtain ⟨K', kc', hv, hkc, hkm, hRk⟩ := own_slice hown
      obtain ⟨rfl, _, rfl⟩ := Value.slice.inj hv
      have hn' := unhide HN
      have hwf := wfB ns (unhide HX)
      have hAW := allWritten_any (ns.map pkB) K k kc fm (ns.flatMap pcB) _ wr (by rw [List.length_map]; exact hn') hl hfm (fun b hb => hb.2) hRk (psB _ _ ns) hwf.1 hwf.2 (cntB ns)
      have HAW := hide hAW
      have HW := hide hbw
      unfold maxLen at hkm
      clear hAW hRk hbw hown hbel hall hv hwf hn'
      go_wp2_with fail
      refine (unhide HAW).mono ?_
      rintro e w7 ⟨A7, c7, b7, hb7, rfl, hc7, hm7, hr7, hbel7⟩
      have hlen := lenB ns b7 (unhide HX) (by have := unhide HN; omega) hb7
      have hgt := get_StreamGetBin _ A7 b7 b7.length c7 z k q ns w7 rfl hr7 (fun b hb => hb.2) (by omega) (by have := (unhide HZ).1; omega) (by have := (unhide HZ).2.1; omega) (unhide HN) hl (encsB ns b7 (unhide HX) hb7)
      have HGT := hide hgt
      have hw7 : Below w.heap.size w w7 := (unhide HW).trans (hbel7.mono (unhide HW).size)
      have HW7 := hide hw7
      obtain ⟨l7, hl7⟩ : ∃ l, l = b7.length := ⟨_, rfl⟩
      rw [← hl7] at HGT hc7 ⊢
      clear hgt hr7 hbel7 hb7 hlen hl7 hw7 hm7
      go_wp2_with fail
      refine (unhide HGT).mono ?_
      rintro e w8 ⟨A8, c8, rfl, hc8, hm8, hr8, hbel8⟩
      have hlk : ns.length = k := (unhide HN).symm
      rw [hlk] at hc8 hr8 ⊢
      have hw8 : Below w.heap.size w w8 := (unhide HW7).trans (hbel8.mono (unhide HW7).size)
      have HSM := hide (same_StreamGetBin _ _ A8 A ns k c8 c w8 (unhide HN) hl hr8 ((unhide HR).below hw8))
      have HW8 := hide hw8
      clear hr8 hbel8 hw8 hlk
      go_wp2_with (go_at_call 34; go_loud (refine (unhide HSM).mono ?_; rintro e w9 ⟨rfl, hb9⟩; have HB9 := hide hb9; clear hb9))
      go_ret
      exact ⟨rfl, (unhide HW8).trans ((unhide HB9).mono (unhide HW8).size)⟩
theorem FnStreamGetBin_walk (A : Option Addr) (n c : Nat) (ss : List ByteArray) (fm b q : Int) (w : World) (hrow : RowStr w A n c ss) (hfm : (Lit.int .u64 fm).wf = true) (hb : (Lit.int .i64 b).wf = true) (hq : (Lit.int .i64 q).wf = true) :
    Calls Tryd.prog 7 #[.slice A n c, .int .u64 fm, .int .i64 b, .int .i64 q] w fun e w' => e = .returned (.bool true) ∧ Below w.heap.size w w' := by
  obtain ⟨xs, hl, hr, hc, hm⟩ := strs_of_row hrow
  have hZ := zzFits2_any (Lt w.heap.size) A xs n c w hl hr hc (by unfold maxLen at hm; omega)
  by_cases hbn : Asked b q ∧ n ≤ 100
  · obtain ⟨z, rfl⟩ := Int.eq_ofNat_of_zero_le (show 0 ≤ b by have := hbn.1.1; omega)
    simp [Lit.wf, IntKind.signed, IntKind.bits, IntKind.min, IntKind.max] at hfm
    obtain ⟨f, rfl⟩ := Int.eq_ofNat_of_zero_le (show 0 ≤ fm by omega)
    exact FnStreamGetBin_near f z q (by omega) hbn.1 A xs n c w hl hr hZ hbn.2 hc
  · refine FnStreamGetBin_not fm b q A n c w hZ ?_
    by_cases h : Asked b q
    · exact .inr (by have : ¬ n ≤ 100 := fun h2 => hbn ⟨h, h2⟩; omega)
    · exact .inl h
end Go.Proofs.YtpadbpmnejgckaaDoor
