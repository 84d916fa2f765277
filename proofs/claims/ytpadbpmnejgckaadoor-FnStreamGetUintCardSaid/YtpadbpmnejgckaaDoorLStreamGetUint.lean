/-
  The walk of the law FnStreamGetUint. No condition.
-/
import Derived.Test.YtpadbpmnejgckaaDoorTkStreamGetUint
import Derived.Test.YtpadbpmnejgckaaDoorAllWr
import Derived.Test.YtpadbpmnejgckaaDoorRow
import Derived.Test.YtpadbpmnejgckaaDoorBuf2S
namespace Go.Proofs.YtpadbpmnejgckaaDoor
set_option linter.unusedSimpArgs false
set_option linter.unusedVariables false
set_option linter.unusedVariables false
open Go.RowKit
theorem get_StreamGetUint (S : Nat → Prop) (A : Option Addr) (bs : List UInt8) (nA cA z n : Nat) (ck : Int) (xs : List (Nat)) (w : World) (hnA : nA = bs.length) (hr : RB w S A bs) (hS : Old w S) (hl : nA ≤ 1099511627776) (hz1 : 18 ≤ z) (hz2 : z ≤ 65536) (hn : n = xs.length) (hn2 : n ≤ 100) (he : EncsP encUint xs bs) :
    Calls Tryd.prog 37 #[.slice A nA cA, .int .i64 n, .int .i64 z, .int .i64 ck] w (Taken_StreamGetUint xs w) := by
  have HT := hide (taking_StreamGetUint S A bs nA cA z n ck xs w hnA hr hS hl hz1 hz2 hn hn2 he)
  obtain ⟨m, hm⟩ : ∃ m, m = xs.length := ⟨_, rfl⟩
  have HM := hide hm
  clear hnA hr he hn hm
  go_enter Tryd.func37, Tryd.ntmps37
  go_wp2_with (go_at_call 73; go_loud (refine (unhide HT).mono ?_; rintro e w1 ⟨A1, c1, rfl, h1, h2, h3, h4⟩; rw [← unhide HM] at h1 ⊢; have H3 := hide h3; clear h3))
  go_ret2
  rw [unhide HM] at h1 ⊢
  exact ⟨A1, c1, rfl, h1, h2, unhide H3, h4⟩
set_option maxRecDepth 100000 in
set_option maxHeartbeats 1600000 in
theorem same_StreamGetUint (S R : Nat → Prop) (A B : Option Addr) (zs : List Int) (n c c' : Nat) (w : World) (hn : n = zs.length) (hn2 : n ≤ 100) (ha : Reads w S 1 A n (zs.map (Value.int .u64))) (hb : Reads w R 1 B n (zs.map (Value.int .u64))) :
    Calls Tryd.prog 38 #[.slice A n c, .slice B n c'] w fun e w' => e = .returned (.bool true) ∧ Below w.heap.size w w' := by
  have HA := hide ha
  have HB := hide hb
  have HN := hide hn
  clear ha hb hn
  go_enter Tryd.func38, Tryd.ntmps38
  go_wp2
  go_loopw [13] (fun i wr => ∃ k : Nat, k ≤ n ∧ i = .int .i64 k ∧ Quiet w wr) (fun i _ => n - (intOf i).toNat)
  case atStart => exact ⟨0, Nat.zero_le _, rfl, Quiet.refl _⟩
  case round =>
    obtain ⟨k, hk, rfl, hq⟩ := hrel
    by_cases hlt : k < n
    · obtain ⟨ad, u, rfl, _, hu, hca⟩ := (unhide HA).at_ hlt
      obtain ⟨bd, u2, rfl, _, hu2, hcb⟩ := (unhide HB).at_ hlt
      have hkx : k < zs.length := by have := unhide HN; omega
      rw [List.getElem?_map, List.getElem?_eq_getElem hkx] at hu hu2
      obtain rfl := Option.some.inj hu
      obtain rfl := Option.some.inj hu2
      generalize zs[k] = x at *
      obtain ⟨q, rfl⟩ := hq
      have hlt2 : (k : Int) < (n : Int) := by omega
      have hk0 : (0 : Int) ≤ (k : Int) := by omega
      clear hu hu2 hkx
      go_wp2_with fail
      go_region
      go_wp2_with fail
      go_roundw
      case rel => exact ⟨k + 1, hlt, by go_num, (Quiet.drewN w q).trans (Quiet.drew _)⟩
      case measure => simp [intOf]; omega
    · obtain rfl : k = n := by omega
      have hlt2 : ¬ (k : Int) < (k : Int) := by omega
      have HQ := hide hq
      clear hq
      go_wp2_with fail
      go_ret
      exact ⟨rfl, (unhide HQ).below (Below.refl _ _)⟩
def pk_StreamGetUint : Int → Pack := fun x => .mk 3 x.toNat [] 0 []
def pc_StreamGetUint (x : Int) : List Value := [.int .i64 3, .int .u64 (x), .string ⟨#[]⟩, .int .i64 0, .slice none 0 0]
theorem ps_StreamGetUint (w : World) (S : Nat → Prop) : ∀ (xs : List Int), (∀ x ∈ xs, 0 ≤ x ∧ x ≤ 18446744073709551615) → PacksC w S (xs.map pk_StreamGetUint) (xs.flatMap pc_StreamGetUint)
  | [], _ => by unfold PacksC; rfl
  | x :: xs, h => by
    have hx := h x (by simp)
    rw [List.map_cons, List.flatMap_cons]
    unfold PacksC
    refine ⟨_, _, rfl, rfl, ?_, ps_StreamGetUint w S xs fun y hy => h y (by simp [hy])⟩
    have h2 := PackC.flat w S 3 (pk_StreamGetUint x).num [] 0
    have e : (((pk_StreamGetUint x).num : Nat) : Int) = x := by
      simp only [pk_StreamGetUint, Pack.num]
      omega
    rw [e] at h2
    exact h2
theorem wf_StreamGetUint : ∀ (xs : List Int), (∀ x ∈ xs, 0 ≤ x ∧ x ≤ 18446744073709551615) → WfPs (xs.map pk_StreamGetUint) ∧ FitsPs (xs.map pk_StreamGetUint)
  | [], _ => ⟨trivial, trivial⟩
  | x :: xs, h => by
    have hx := h x (by simp)
    have ih := wf_StreamGetUint xs fun y hy => h y (by simp [hy])
    rw [List.map_cons]
    refine ⟨⟨?_, ih.1⟩, ⟨?_, ih.2⟩⟩
    · simp only [pk_StreamGetUint, WfP]
      exact ⟨by omega, trivial⟩
    · simp only [pk_StreamGetUint, FitsP, FitHd]
      refine ⟨⟨by omega, by omega, by simp, by simp, .inl (by omega), by simp, by omega, by omega, by omega, by omega, by omega, by simp, by simp⟩, trivial⟩
theorem cnt_StreamGetUint (xs : List Int) : ∀ p ∈ xs.map pk_StreamGetUint, cnt p = 1 := by
  intro p hp
  obtain ⟨x, _, rfl⟩ := List.mem_map.1 hp
  simp [pk_StreamGetUint, cnt, cnts]
theorem enc_StreamGetUint (x : Int) (hx : 0 ≤ x ∧ x ≤ 18446744073709551615) (a : List UInt8) (h : WrP (pk_StreamGetUint x) a) : encUint ((fun x : Int => x.toNat) x) a := by
  have h1 : WrP (.mk 3 x.toNat [] 0 []) a := h
  unfold WrP at h1
  simp at h1
  show encUint x.toNat a
  exact ⟨by omega, h1⟩
theorem encs_StreamGetUint : ∀ (xs : List Int) (bs : List UInt8), (∀ x ∈ xs, 0 ≤ x ∧ x ≤ 18446744073709551615) → WrPs (xs.map pk_StreamGetUint) bs → EncsP encUint (xs.map (fun x : Int => x.toNat)) bs
  | [], bs, _, h => by
    rw [List.map_nil] at h ⊢
    unfold WrPs at h
    exact h
  | x :: xs, bs, hx, h => by
    rw [List.map_cons] at h ⊢
    unfold WrPs at h
    obtain ⟨a, b, h1, h2, rfl⟩ := h
    exact ⟨a, b, enc_StreamGetUint x (hx x (by simp)) a h1, encs_StreamGetUint xs b (fun y hy => hx y (by simp [hy])) h2, rfl⟩
theorem cells_StreamGetUint (xs : List Int) (hx : ∀ x ∈ xs, 0 ≤ x ∧ x ≤ 18446744073709551615) : (xs.map (fun x : Int => x.toNat)).map mk_StreamGetUint = xs.map (Value.int .u64) := by
  rw [List.map_map]
  refine List.map_congr_left fun x h => ?_
  have := hx x h
  show Value.int .u64 _ = Value.int .u64 _
  congr 1
  try simp
  try omega
theorem len_StreamGetUint (xs : List Int) (bs : List UInt8) (hx : ∀ x ∈ xs, 0 ≤ x ∧ x ≤ 18446744073709551615) (hn : xs.length ≤ 100) (h : WrPs (xs.map pk_StreamGetUint) bs) : bs.length ≤ 20000000 := by
  have h1 := WrPs_len _ bs h (wf_StreamGetUint xs hx).2
  have h2 := cnts_one (xs.map pk_StreamGetUint) (cnt_StreamGetUint xs)
  rw [List.length_map] at h2
  omega
/-- What the law does first: it reads one value back. -/
theorem one_StreamGetUint (w : World) : ∃ Q : Ending → World → Prop, Calls Tryd.prog 27 #[.slice (some ⟨w.heap.size, 0, none⟩) 1 1, .int .u64 0] (w.alloc (.cells (pc_StreamGetUint 5).toArray 25)) Q ∧
    ∀ e w1, Q e w1 → ∃ A1 n1 c1, e = .returned (.slice A1 n1 c1) ∧ Calls Tryd.prog 37 #[.slice A1 n1 c1, .int .i64 1, .int .i64 100, .int .i64 1] w1 fun e2 w2 => ∃ ad c2, e2 = .returned (.tuple #[.slice (some ad) 1 c2, .bool true]) ∧ 1 ≤ c2 ∧ w2.cell? ad = some (.int .u64 5) ∧ Below w.heap.size w w2 := by
  have hx : ∀ x ∈ ([5] : List Int), 0 ≤ x ∧ x ≤ 18446744073709551615 := by intro x hx; simp at hx; omega
  refine ⟨_, allWritten_any ([5].map pk_StreamGetUint) (some ⟨w.heap.size, 0, none⟩) 1 1 0 (([5] : List Int).flatMap pc_StreamGetUint) (Lt (w.heap.size + 1)) (w.alloc (.cells (pc_StreamGetUint 5).toArray 25)) rfl (by omega) (by omega) (fun b hb => by simpa [Lt] using hb) (reads_blkS (S := Lt (w.heap.size + 1)) (t := 25) (cs := (pc_StreamGetUint 5).toArray) (Blk.new _ _ _) (Nat.lt_succ_self _) 5 1 rfl) (ps_StreamGetUint _ _ [5] hx) (wf_StreamGetUint [5] hx).1 (wf_StreamGetUint [5] hx).2 (cnt_StreamGetUint [5]), ?_⟩
  rintro e w1 ⟨A1, c1, b1, hb1, rfl, hc1, hm1, hr1, hbel1⟩
  have hl1 := len_StreamGetUint [5] b1 hx (by simp) hb1
  refine ⟨A1, b1.length, c1, rfl, (get_StreamGetUint _ A1 b1 b1.length c1 100 1 1 (([5] : List Int).map (fun x : Int => x.toNat)) w1 rfl hr1 (fun b hb => hb.2) (by omega) (by omega) (by omega) rfl (by omega) (encs_StreamGetUint [5] b1 hx hb1)).mono ?_⟩
  rintro e w2 ⟨A2, c2, rfl, hc2, hm2, hr2, hbel2⟩
  obtain ⟨ad, u, rfl, _, hu, hcell⟩ := hr2.at_ (k := 0) (by simp)
  have hu2 : u = .int .u64 5 := by
    rw [cells_StreamGetUint [5] hx] at hu
    simpa using hu.symm
  subst hu2
  refine ⟨ad, c2, rfl, hc2, hcell, ?_⟩
  have hb1 : Below w.heap.size w w1 := ((Below.refl _ _).alloc (Nat.le_refl _) _).trans (hbel1.mono (by simp))
  exact hb1.trans (hbel2.mono hb1.size)
set_option maxRecDepth 100000 in
set_option maxHeartbeats 1600000 in
theorem FnStreamGetUint_far (fm b q : Int) (A : Option Addr) (n c : Nat) (w : World) (hf : 2147483647 < n) :
    Calls Tryd.prog 9 #[.slice A n c, .int .u64 fm, .int .i64 b, .int .i64 q] w (TrueR w) := by
  have h1 : (2147483647 : Int) < (n : Int) := by omega
  go_enter Tryd.func9, Tryd.ntmps9
  go_wp2
  go_ret
  exact ⟨rfl, Below.refl _ _⟩
set_option maxRecDepth 100000 in
set_option maxHeartbeats 1600000 in
theorem FnStreamGetUint_not (fm b q : Int) (A : Option Addr) (n c : Nat) (w : World) (hf : n ≤ 2147483647) (hb : ¬ Asked b q ∨ 100 < n) :
    Calls Tryd.prog 9 #[.slice A n c, .int .u64 fm, .int .i64 b, .int .i64 q] w (TrueR w) := by
  have h1 : ¬ (2147483647 : Int) < (n : Int) := by omega
  obtain ⟨Q, hQ, hQ2⟩ := one_StreamGetUint w
  have HQ := hide hQ
  have HQ2 := hide hQ2
  clear hQ hQ2
  have hcase : (¬ Asked b q) ∨ (Asked b q ∧ 100 < n) := by
    by_cases h : Asked b q
    · exact .inr ⟨h, hb.resolve_left (fun e => e h)⟩
    · exact .inl h
  clear hb
  rcases hcase with hb | ⟨hb, hn⟩
  · go_enter Tryd.func9, Tryd.ntmps9
    go_wp2_with fail
    refine (unhide HQ).mono ?_
    intro e w1 hq1
    obtain ⟨A1, n1, c1, rfl, hg⟩ := unhide HQ2 e w1 hq1
    have HG := hide hg
    clear hq1 hg
    go_wp2_with fail
    refine (unhide HG).mono ?_
    rintro e w2 ⟨ad, c2, rfl, hc2, hcell, hbel⟩
    have HB := hide hbel
    clear hbel
    go_wp2_with (go_at_call 28; go_loud (refine (buffers2_no b q hb _).mono ?_; rintro e w3 ⟨rfl, rfl⟩))
    go_ret
    exact ⟨rfl, unhide HB⟩
  · have hn2 : (100 : Int) < (n : Int) := by omega
    go_enter Tryd.func9, Tryd.ntmps9
    go_wp2_with fail
    refine (unhide HQ).mono ?_
    intro e w1 hq1
    obtain ⟨A1, n1, c1, rfl, hg⟩ := unhide HQ2 e w1 hq1
    have HG := hide hg
    clear hq1 hg
    go_wp2_with fail
    refine (unhide HG).mono ?_
    rintro e w2 ⟨ad, c2, rfl, hc2, hcell, hbel⟩
    have HB := hide hbel
    clear hbel
    go_wp2_with (go_at_call 28; go_loud (refine (buffers2_yes b q hb _).mono ?_; rintro e w3 ⟨rfl, rfl⟩))
    go_ret
    exact ⟨rfl, unhide HB⟩
set_option maxRecDepth 100000 in
set_option maxHeartbeats 3200000 in
theorem FnStreamGetUint_near (fm z : Nat) (q : Int) (hfm : fm < 18446744073709551616) (hz : Asked (z : Int) q) (A : Option Addr) (ns : List Int) (n c : Nat) (w : World) (hn : n = ns.length) (hr : Reads w (Lt w.heap.size) 1 A n (ns.map (Value.int .u64))) (hx : ∀ x ∈ ns, 0 ≤ x ∧ x ≤ 18446744073709551615) (hl : n ≤ 100) (hc : n ≤ c) :
    Calls Tryd.prog 9 #[.slice A n c, .int .u64 fm, .int .i64 z, .int .i64 q] w (TrueR w) := by
  have h1 : ¬ (2147483647 : Int) < (n : Int) := by omega
  have h2 : ¬ (100 : Int) < (n : Int) := by omega
  obtain ⟨Q, hQ, hQ2⟩ := one_StreamGetUint w
  have HQ := hide hQ
  have HQ2 := hide hQ2
  have HN := hide hn
  have HR := hide hr
  have HX := hide hx
  have HZ := hide hz
  clear hQ hQ2 hn hr hx hz
  go_enter Tryd.func9, Tryd.ntmps9
  go_wp2_with fail
  refine (unhide HQ).mono ?_
  intro e w1 hq1
  obtain ⟨A1, n1, c1, rfl, hg⟩ := unhide HQ2 e w1 hq1
  have HG := hide hg
  clear hq1 hg
  go_wp2_with fail
  refine (unhide HG).mono ?_
  rintro e w2 ⟨ad, c2, rfl, hc2, hcell0, hbel⟩
  have HB := hide hbel
  clear hbel
  go_wp2_with (go_at_call 28; go_loud (refine (buffers2_yes z q (unhide HZ) _).mono ?_; rintro e w3 ⟨rfl, rfl⟩))
  clear hcell0
  go_loopw [13, 54] (fun v i wr => ∃ (k : Nat) (K : Option Addr) (kc : Nat), i = .int .i64 k ∧ k ≤ n ∧ v = .slice K k kc ∧ wr.ownsRow w2.heap.size 25 5 (.slice K k kc) k ((ns.take k).flatMap pc_StreamGetUint) ∧ Below w2.heap.size w2 wr) (fun _ i _ => n - (intOf i).toNat)
  case atStart => exact ⟨0, none, 0, rfl, Nat.zero_le _, rfl, World.ownsRow_nil _ _ _ _, Below.refl _ _⟩
  case round =>
    obtain ⟨k, K, kc, rfl, hk, rfl, hown, hbel⟩ := hrel
    have hbw : Below w.heap.size w wr := (unhide HB).trans (hbel.mono (unhide HB).size)
    by_cases hlt : k < n
    · obtain ⟨ad, u, rfl, hSb, hu, hcell⟩ := ((unhide HR).below hbw).at_ hlt
      have hln : k < ns.length := by have := unhide HN; omega
      have hux : u = .int .u64 ns[k] := by
        rw [List.getElem?_map, List.getElem?_eq_getElem hln] at hu
        simpa using hu.symm
      have htk : (ns.take (k + 1)).flatMap pc_StreamGetUint = (ns.take k).flatMap pc_StreamGetUint ++ pc_StreamGetUint ns[k] := by
        rw [List.take_succ_eq_append_getElem hln, List.flatMap_append]
        simp
      have hbd := unhide HX ns[k] (List.getElem_mem hln)
      generalize ns[k] = x at *
      subst hux
      have HTK := hide htk
      have HOWN := hide hown
      have HBEL := hide hbel
      have hk0 : (0 : Int) ≤ (k : Int) := by omega
      have hk1 : (k : Int) < (n : Int) := by omega
      clear htk hu hbw hown hbel
      go_wp2_with (at_builtin; go_loud (obtain ⟨i0, hi0, hiz, his, hib⟩ := info_parts infoPk; refine wpList_append_any (S := fun _ => True) _ rfl _ _ 23 rfl w2.heap.size 25 i0 _ 5 64 Tryd.underlying23 hi0 hiz his hib ?x1 ?x2 (.slice K k kc) k ((ns.take k).flatMap pc_StreamGetUint) ?x3 ?x4 (some ⟨wr.heap.size, 0, none⟩) 1 1 (pc_StreamGetUint x) ?x5 ?x6 (fives) ?x7 ?x8 ?x9 ?_; (case x1 => rfl); (case x2 => omega); (case x3 => rfl); (case x4 => exact own_below (unhide HOWN) (by repeat (first | with_reducible exact Below.refl _ _ | with_reducible exact x | with_reducible refine Below.alloc ?_ (by first | omega | (simp; omega) | (simp; done)) _ | with_reducible refine Below.setCell ?_ (by first | omega | (simp; omega) | (simp; done)) _ | with_reducible refine Below.drew ?_ | with_reducible refine below_drewN ?_ _))); (case x5 => rfl); (case x6 => exact reads_blkS (S := fun _ => True) (t := 25) (cs := (pc_StreamGetUint x).toArray) (Blk.newS rfl) trivial 5 1 rfl); (case x7 => unfold maxLen; omega); (case x8 => omega); (case x9 => have := (unhide HBEL).size; simp; omega); clear hi0 hiz his hib; intro v6 w6 hown6 hgr6 hat6; obtain ⟨K6, kc6, rfl, _, _, _⟩ := own_slice hown6; have hB6 : Below w2.heap.size w2 w6 := ((unhide HBEL).alloc (unhide HBEL).size _).grown hgr6 (by have := (unhide HBEL).size; simp; omega) (fun k hk => ((unhide HOWN).lt _ hk).1); have HB6 := hide hB6; have HO6 := hide hown6; clear hgr6 hown6 hat6 hB6))
      go_roundw
      case rel => exact ⟨k + 1, K6, kc6, by go_num, by omega, rfl, by rw [unhide HTK]; exact unhide HO6, unhide HB6⟩
      case measure => simp [intOf]; omega
    · obtain rfl : k = n := by omega
      have hk1 : ¬ (k : Int) < (k : Int) := by omega
      have hall : ns.take k = ns := List.take_of_length_le (by have := unhide HN; omega)
      rw [hall] at hown
      obtain ⟨K', kc', hv, hkc, hkm, hRk⟩ := own_slice hown
      obtain ⟨rfl, _, rfl⟩ := Value.slice.inj hv
      have hn' := unhide HN
      have hwf := wf_StreamGetUint ns (unhide HX)
      have hAW := allWritten_any (ns.map pk_StreamGetUint) K k kc fm (ns.flatMap pc_StreamGetUint) _ wr (by rw [List.length_map]; exact hn') hl hfm (fun b hb => hb.2) hRk (ps_StreamGetUint _ _ ns (unhide HX)) hwf.1 hwf.2 (cnt_StreamGetUint ns)
      have HAW := hide hAW
      have HW := hide hbw
      unfold maxLen at hkm
      clear hAW hRk hbw hown hbel hall hv hwf hn'
      go_wp2_with fail
      refine (unhide HAW).mono ?_
      rintro e w7 ⟨A7, c7, b7, hb7, rfl, hc7, hm7, hr7, hbel7⟩
      have hlen := len_StreamGetUint ns b7 (unhide HX) (by have := unhide HN; omega) hb7
      have hgt := get_StreamGetUint _ A7 b7 b7.length c7 z k q (ns.map (fun x : Int => x.toNat)) w7 rfl hr7 (fun b hb => hb.2) (by omega) (by have := (unhide HZ).1; omega) (by have := (unhide HZ).2.1; omega) (by rw [List.length_map]; exact unhide HN) hl (encs_StreamGetUint ns b7 (unhide HX) hb7)
      have HGT := hide hgt
      have hw7 : Below w.heap.size w w7 := (unhide HW).trans (hbel7.mono (unhide HW).size)
      have HW7 := hide hw7
      obtain ⟨l7, hl7⟩ : ∃ l, l = b7.length := ⟨_, rfl⟩
      rw [← hl7] at HGT hc7 ⊢
      clear hgt hr7 hbel7 hb7 hlen hl7 hw7 hm7
      go_wp2_with fail
      refine (unhide HGT).mono ?_
      rintro e w8 ⟨A8, c8, rfl, hc8, hm8, hr8, hbel8⟩
      have hlk : (ns.map (fun x : Int => x.toNat)).length = k := by rw [List.length_map]; exact (unhide HN).symm
      rw [hlk] at hc8 hr8 ⊢
      rw [cells_StreamGetUint ns (unhide HX)] at hr8
      have hw8 : Below w.heap.size w w8 := (unhide HW7).trans (hbel8.mono (unhide HW7).size)
      have HSM := hide (same_StreamGetUint _ _ A8 A ns k c8 c w8 (unhide HN) hl hr8 ((unhide HR).below hw8))
      have HW8 := hide hw8
      clear hr8 hbel8 hw8 hlk
      go_wp2_with (go_at_call 38; go_loud (refine (unhide HSM).mono ?_; rintro e w9 ⟨rfl, hb9⟩; have HB9 := hide hb9; clear hb9))
      go_ret
      exact ⟨rfl, (unhide HW8).trans ((unhide HB9).mono (unhide HW8).size)⟩
theorem FnStreamGetUint_walk (A : Option Addr) (n c : Nat) (zs : List Int) (fm b q : Int) (w : World) (hrow : RowIn .u64 w A n c zs) (hfm : (Lit.int .u64 fm).wf = true) (hb : (Lit.int .i64 b).wf = true) (hq : (Lit.int .i64 q).wf = true) :
    Calls Tryd.prog 9 #[.slice A n c, .int .u64 fm, .int .i64 b, .int .i64 q] w fun e w' => e = .returned (.bool true) ∧ Below w.heap.size w w' := by
  obtain ⟨hr, hl, hc, hm, hwf⟩ := ints_of_row hrow
  by_cases hf : 2147483647 < n
  · exact FnStreamGetUint_far fm b q A n c w hf
  by_cases hbn : Asked b q ∧ n ≤ 100
  · obtain ⟨z, rfl⟩ := Int.eq_ofNat_of_zero_le (show 0 ≤ b by have := hbn.1.1; omega)
    simp [Lit.wf, IntKind.signed, IntKind.bits, IntKind.min, IntKind.max] at hfm
    obtain ⟨f, rfl⟩ := Int.eq_ofNat_of_zero_le (show 0 ≤ fm by omega)
    refine FnStreamGetUint_near f z q (by omega) hbn.1 A (zs.take n) n c w hl.symm hr (fun x hx => ?_) hbn.2 hc
    have h := hwf x hx
    simp [Lit.wf, IntKind.signed, IntKind.bits, IntKind.min, IntKind.max] at h
    omega
  · refine FnStreamGetUint_not fm b q A n c w (by omega) ?_
    by_cases h : Asked b q
    · exact .inr (by have : ¬ n ≤ 100 := fun h2 => hbn ⟨h, h2⟩; omega)
    · exact .inl h
end Go.Proofs.YtpadbpmnejgckaaDoor
