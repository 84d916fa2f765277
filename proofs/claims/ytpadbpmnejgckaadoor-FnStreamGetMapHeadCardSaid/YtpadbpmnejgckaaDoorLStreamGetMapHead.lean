/-
  The walk of the law FnStreamGetMapHead. No condition.
-/
import Derived.Test.YtpadbpmnejgckaaDoorTkStreamGetMapHead
import Derived.Test.YtpadbpmnejgckaaDoorHeadsWr
import Derived.Test.YtpadbpmnejgckaaDoorRow
import Derived.Test.YtpadbpmnejgckaaDoorBuf2S
namespace Go.Proofs.YtpadbpmnejgckaaDoor
set_option linter.unusedSimpArgs false
set_option linter.unusedVariables false
set_option linter.unusedVariables false
open Go.RowKit
theorem get_StreamGetMapHead (S : Nat → Prop) (A : Option Addr) (bs : List UInt8) (nA cA z n : Nat) (ck : Int) (xs : List (Nat)) (w : World) (hnA : nA = bs.length) (hr : RB w S A bs) (hS : Old w S) (hl : nA ≤ 1099511627776) (hz1 : 18 ≤ z) (hz2 : z ≤ 65536) (hn : n = xs.length) (hn2 : n ≤ 100) (he : EncsP encMapH xs bs) :
    Calls Tryd.prog 30 #[.slice A nA cA, .int .i64 n, .int .i64 z, .int .i64 ck] w (Taken_StreamGetMapHead xs w) := by
  have HT := hide (taking_StreamGetMapHead S A bs nA cA z n ck xs w hnA hr hS hl hz1 hz2 hn hn2 he)
  obtain ⟨m, hm⟩ : ∃ m, m = xs.length := ⟨_, rfl⟩
  have HM := hide hm
  clear hnA hr he hn hm
  go_enter Tryd.func30, Tryd.ntmps30
  go_wp2_with (go_at_call 61; go_loud (refine (unhide HT).mono ?_; rintro e w1 ⟨A1, c1, rfl, h1, h2, h3, h4⟩; rw [← unhide HM] at h1 ⊢; have H3 := hide h3; clear h3))
  go_ret2
  rw [unhide HM] at h1 ⊢
  exact ⟨A1, c1, rfl, h1, h2, unhide H3, h4⟩
set_option maxRecDepth 100000 in
set_option maxHeartbeats 1600000 in
theorem same_StreamGetMapHead (S R : Nat → Prop) (A B : Option Addr) (zs : List Int) (n c c' : Nat) (w : World) (hn : n = zs.length) (hn2 : n ≤ 100) (ha : Reads w S 1 A n (zs.map (Value.int .u32))) (hb : Reads w R 1 B n (zs.map (Value.int .u32))) :
    Calls Tryd.prog 29 #[.slice A n c, .slice B n c'] w fun e w' => e = .returned (.bool true) ∧ Below w.heap.size w w' := by
  have HA := hide ha
  have HB := hide hb
  have HN := hide hn
  clear ha hb hn
  go_enter Tryd.func29, Tryd.ntmps29
  go_wp2
  go_loopw [13] (fun i wr => ∃ k : Nat, k ≤ n ∧ i = .int .i64 k ∧ Quiet w wr) (fun i _ => n - (intOf i).toNat)
  case atStart => exact ⟨0, Nat.zero_le _, rfl, Quiet.refl _⟩
  case round =>
    obtain ⟨k, hk, rfl, hq⟩ := hrel
    by_cases hlt : k < n
    · obtain ⟨ad, u, rfl, _, hu, hca⟩ := (unhide HA).at_ hlt
      obtain ⟨bd, u2, rfl, _, hu2, hcb⟩ := (unhide HB).at_ hlt
      have hkx : k < zs.length := by have := unhide HN; omega
      rw [List.getElem?_map, List.getElem?_eq_getElem hkx] at hu hu2
      obtain rfl := Option.some.inj hu
      obtain rfl := Option.some.inj hu2
      generalize zs[k] = x at *
      obtain ⟨q, rfl⟩ := hq
      have hlt2 : (k : Int) < (n : Int) := by omega
      have hk0 : (0 : Int) ≤ (k : Int) := by omega
      clear hu hu2 hkx
      go_wp2_with fail
      go_region
      go_wp2_with fail
      go_roundw
      case rel => exact ⟨k + 1, hlt, by go_num, (Quiet.drewN w q).trans (Quiet.drew _)⟩
      case measure => simp [intOf]; omega
    · obtain rfl : k = n := by omega
      have hlt2 : ¬ (k : Int) < (k : Int) := by omega
      have HQ := hide hq
      clear hq
      go_wp2_with fail
      go_ret
      exact ⟨rfl, (unhide HQ).below (Below.refl _ _)⟩
theorem cells_StreamGetMapHead (xs : List Int) (hx : ∀ x ∈ xs, 0 ≤ x ∧ x ≤ 4294967295) : (xs.map (fun x : Int => x.toNat)).map mk_StreamGetMapHead = xs.map (Value.int .u32) := by
  rw [List.map_map]
  refine List.map_congr_left fun x h => ?_
  have := hx x h
  show Value.int .u32 _ = Value.int .u32 _
  congr 1
  try simp
  try omega
theorem nat_cells (xs : List Int) (hx : ∀ x ∈ xs, 0 ≤ x ∧ x ≤ 4294967295) : ((xs.map fun x : Int => x.toNat).map fun n : Nat => Value.int .u32 (n : Int)) = xs.map (Value.int .u32) := cells_StreamGetMapHead xs hx
theorem nat_lt (xs : List Int) (hx : ∀ x ∈ xs, 0 ≤ x ∧ x ≤ 4294967295) : ∀ n ∈ (xs.map fun x : Int => x.toNat), n < 4294967296 := by
  intro n hn
  obtain ⟨x, h, rfl⟩ := List.mem_map.1 hn
  have := hx x h
  omega
/-- What the law does first: it reads one head back. -/
theorem one_StreamGetMapHead (w : World) : ∃ Q : Ending → World → Prop, Calls Tryd.prog 31 #[.int .i64 9, .slice (some ⟨w.heap.size, 0, none⟩) 1 1, .int .u64 0] (w.alloc (.cells #[.int .u32 5] 38)) Q ∧
    ∀ e w1, Q e w1 → ∃ A1 n1 c1, e = .returned (.slice A1 n1 c1) ∧ Calls Tryd.prog 30 #[.slice A1 n1 c1, .int .i64 1, .int .i64 100, .int .i64 1] w1 fun e2 w2 => ∃ ad c2, e2 = .returned (.tuple #[.slice (some ad) 1 c2, .bool true]) ∧ 1 ≤ c2 ∧ w2.cell? ad = some (.int .u32 5) ∧ Below w.heap.size w w2 := by
  have hx : ∀ x ∈ ([5] : List Int), 0 ≤ x ∧ x ≤ 4294967295 := by intro x hx; simp at hx; omega
  refine ⟨_, headsWritten_9 (([5] : List Int).map fun x : Int => x.toNat) (some ⟨w.heap.size, 0, none⟩) 1 1 0 (Lt (w.heap.size + 1)) (w.alloc (.cells #[.int .u32 5] 38)) rfl (by omega) (by omega) (fun b hb => by simpa [Lt] using hb) (by rw [nat_cells [5] hx]; exact reads_blkS (S := Lt (w.heap.size + 1)) (t := 38) (cs := #[.int .u32 5]) (Blk.new _ _ _) (Nat.lt_succ_self _) 1 1 rfl) (nat_lt [5] hx), ?_⟩
  rintro e w1 ⟨A1, c1, b1, hb1, rfl, hc1, hm1, hr1, hbel1⟩
  have hl1 := EncsP.len 9 encMapH_len _ b1 hb1
  simp at hl1
  refine ⟨A1, b1.length, c1, rfl, (get_StreamGetMapHead _ A1 b1 b1.length c1 100 1 1 (([5] : List Int).map fun x : Int => x.toNat) w1 rfl hr1 (fun b hb => hb.2) (by omega) (by omega) (by omega) rfl (by omega) hb1).mono ?_⟩
  rintro e w2 ⟨A2, c2, rfl, hc2, hm2, hr2, hbel2⟩
  obtain ⟨ad, u, rfl, _, hu, hcell⟩ := hr2.at_ (k := 0) (by simp)
  have hu2 : u = .int .u32 5 := by
    rw [cells_StreamGetMapHead [5] hx] at hu
    simpa using hu.symm
  subst hu2
  refine ⟨ad, c2, rfl, hc2, hcell, ?_⟩
  have hb1 : Below w.heap.size w w1 := ((Below.refl _ _).alloc (Nat.le_refl _) _).trans (hbel1.mono (by simp))
  exact hb1.trans (hbel2.mono hb1.size)
set_option maxRecDepth 100000 in
set_option maxHeartbeats 1600000 in
theorem FnStreamGetMapHead_far (fm b q : Int) (A : Option Addr) (n c : Nat) (w : World) (hf : 2147483647 < n) :
    Calls Tryd.prog 6 #[.slice A n c, .int .u64 fm, .int .i64 b, .int .i64 q] w (TrueR w) := by
  have h1 : (2147483647 : Int) < (n : Int) := by omega
  go_enter Tryd.func6, Tryd.ntmps6
  go_wp2
  go_ret
  exact ⟨rfl, Below.refl _ _⟩
set_option maxRecDepth 100000 in
set_option maxHeartbeats 1600000 in
theorem FnStreamGetMapHead_not (fm b q : Int) (A : Option Addr) (n c : Nat) (w : World) (hf : n ≤ 2147483647) (hb : ¬ Asked b q ∨ 100 < n) :
    Calls Tryd.prog 6 #[.slice A n c, .int .u64 fm, .int .i64 b, .int .i64 q] w (TrueR w) := by
  have h1 : ¬ (2147483647 : Int) < (n : Int) := by omega
  obtain ⟨Q, hQ, hQ2⟩ := one_StreamGetMapHead w
  have HQ := hide hQ
  have HQ2 := hide hQ2
  clear hQ hQ2
  have hcase : (¬ Asked b q) ∨ (Asked b q ∧ 100 < n) := by
    by_cases h : Asked b q
    · exact .inr ⟨h, hb.resolve_left (fun e => e h)⟩
    · exact .inl h
  clear hb
  rcases hcase with hb | ⟨hb, hn⟩
  · go_enter Tryd.func6, Tryd.ntmps6
    go_wp2_with fail
    refine (unhide HQ).mono ?_
    intro e w1 hq1
    obtain ⟨A1, n1, c1, rfl, hg⟩ := unhide HQ2 e w1 hq1
    have HG := hide hg
    clear hq1 hg
    go_wp2_with fail
    refine (unhide HG).mono ?_
    rintro e w2 ⟨ad, c2, rfl, hc2, hcell, hbel⟩
    have HB := hide hbel
    clear hbel
    go_wp2_with (go_at_call 28; go_loud (refine (buffers2_no b q hb _).mono ?_; rintro e w3 ⟨rfl, rfl⟩))
    go_ret
    exact ⟨rfl, unhide HB⟩
  · have hn2 : (100 : Int) < (n : Int) := by omega
    go_enter Tryd.func6, Tryd.ntmps6
    go_wp2_with fail
    refine (unhide HQ).mono ?_
    intro e w1 hq1
    obtain ⟨A1, n1, c1, rfl, hg⟩ := unhide HQ2 e w1 hq1
    have HG := hide hg
    clear hq1 hg
    go_wp2_with fail
    refine (unhide HG).mono ?_
    rintro e w2 ⟨ad, c2, rfl, hc2, hcell, hbel⟩
    have HB := hide hbel
    clear hbel
    go_wp2_with (go_at_call 28; go_loud (refine (buffers2_yes b q hb _).mono ?_; rintro e w3 ⟨rfl, rfl⟩))
    go_ret
    exact ⟨rfl, unhide HB⟩
set_option maxRecDepth 100000 in
set_option maxHeartbeats 3200000 in
theorem FnStreamGetMapHead_near (fm z : Nat) (q : Int) (hfm : fm < 18446744073709551616) (hz : Asked (z : Int) q) (A : Option Addr) (ns : List Int) (n c : Nat) (w : World) (hn : n = ns.length) (hr : Reads w (Lt w.heap.size) 1 A n (ns.map (Value.int .u32))) (hx : ∀ x ∈ ns, 0 ≤ x ∧ x ≤ 4294967295) (hl : n ≤ 100) (hc : n ≤ c) :
    Calls Tryd.prog 6 #[.slice A n c, .int .u64 fm, .int .i64 z, .int .i64 q] w (TrueR w) := by
  have h1 : ¬ (2147483647 : Int) < (n : Int) := by omega
  have h2 : ¬ (100 : Int) < (n : Int) := by omega
  obtain ⟨Q, hQ, hQ2⟩ := one_StreamGetMapHead w
  have HQ := hide hQ
  have HQ2 := hide hQ2
  have HN := hide hn
  have HR := hide hr
  have HX := hide hx
  have HZ := hide hz
  clear hQ hQ2 hn hr hx hz
  go_enter Tryd.func6, Tryd.ntmps6
  go_wp2_with fail
  refine (unhide HQ).mono ?_
  intro e w1 hq1
  obtain ⟨A1, n1, c1, rfl, hg⟩ := unhide HQ2 e w1 hq1
  have HG := hide hg
  clear hq1 hg
  go_wp2_with fail
  refine (unhide HG).mono ?_
  rintro e w2 ⟨ad, c2, rfl, hc2, hcell0, hbel⟩
  have HB := hide hbel
  clear hbel
  go_wp2_with (go_at_call 28; go_loud (refine (buffers2_yes z q (unhide HZ) _).mono ?_; rintro e w3 ⟨rfl, rfl⟩))
  clear hcell0
  go_loopw [49] (fun i wr => ∃ k : Nat, k ≤ n ∧ i = .int .i64 k ∧ wr = w2) (fun i _ => n - (intOf i).toNat)
  case atStart => exact ⟨0, Nat.zero_le _, rfl, rfl⟩
  case round =>
    obtain ⟨k, hk, rfl, rfl⟩ := hrel
    have hbw := unhide HB
    by_cases hlt : k < n
    · obtain ⟨ad, u, rfl, hSb, hu, hcell⟩ := ((unhide HR).below hbw).at_ hlt
      have hln : k < ns.length := by have := unhide HN; omega
      have hux : u = .int .u32 ns[k] := by
        rw [List.getElem?_map, List.getElem?_eq_getElem hln] at hu
        simpa using hu.symm
      generalize ns[k] = x at *
      subst hux
      have hk0 : (0 : Int) ≤ (k : Int) := by omega
      have hk1 : (k : Int) < (n : Int) := by omega
      clear hu hbw
      by_cases hbig : (1048576 : Int) < x
      · go_wp2_with fail
        go_ret
        exact ⟨rfl, unhide HB⟩
      · go_wp2_with fail
        go_roundw
        case rel => exact ⟨k + 1, hlt, by go_num, by first | trivial | rfl⟩
        case measure => simp [intOf]; omega
    · obtain rfl : k = n := by omega
      have hk1 : ¬ (k : Int) < (k : Int) := by omega
      have hn' := unhide HN
      have hAW := headsWritten_9 (ns.map fun x : Int => x.toNat) A k c fm (Lt w.heap.size) wr (by rw [List.length_map]; exact hn') hl hfm (fun b hb => Nat.lt_of_lt_of_le hb hbw.size) (by rw [nat_cells ns (unhide HX)]; exact (unhide HR).below hbw) (nat_lt ns (unhide HX))
      have HAW := hide hAW
      have HW := hide hbw
      clear hAW hbw hn'
      go_wp2_with fail
      refine (unhide HAW).mono ?_
      rintro e w7 ⟨A7, c7, b7, hb7, rfl, hc7, hm7, hr7, hbel7⟩
      have hlen := EncsP.len 9 encMapH_len _ b7 hb7
      rw [List.length_map, ← unhide HN] at hlen
      have hgt := get_StreamGetMapHead _ A7 b7 b7.length c7 z k q (ns.map fun x : Int => x.toNat) w7 rfl hr7 (fun b hb => hb.2) (by omega) (by have := (unhide HZ).1; omega) (by have := (unhide HZ).2.1; omega) (by rw [List.length_map]; exact unhide HN) hl hb7
      have HGT := hide hgt
      have hw7 : Below w.heap.size w w7 := (unhide HW).trans (hbel7.mono (unhide HW).size)
      have HW7 := hide hw7
      obtain ⟨l7, hl7⟩ : ∃ l, l = b7.length := ⟨_, rfl⟩
      rw [← hl7] at HGT hc7 ⊢
      clear hgt hr7 hbel7 hb7 hlen hl7 hw7 hm7
      go_wp2_with fail
      refine (unhide HGT).mono ?_
      rintro e w8 ⟨A8, c8, rfl, hc8, hm8, hr8, hbel8⟩
      have hlk : (ns.map fun x : Int => x.toNat).length = k := by rw [List.length_map]; exact (unhide HN).symm
      rw [hlk] at hc8 hr8 ⊢
      rw [cells_StreamGetMapHead ns (unhide HX)] at hr8
      have hw8 : Below w.heap.size w w8 := (unhide HW7).trans (hbel8.mono (unhide HW7).size)
      have HSM := hide (same_StreamGetMapHead _ _ A8 A ns k c8 c w8 (unhide HN) hl hr8 ((unhide HR).below hw8))
      have HW8 := hide hw8
      clear hr8 hbel8 hw8 hlk
      go_wp2_with (go_at_call 29; go_loud (refine (unhide HSM).mono ?_; rintro e w9 ⟨rfl, hb9⟩; have HB9 := hide hb9; clear hb9))
      go_ret
      exact ⟨rfl, (unhide HW8).trans ((unhide HB9).mono (unhide HW8).size)⟩
theorem FnStreamGetMapHead_walk (A : Option Addr) (n c : Nat) (zs : List Int) (fm b q : Int) (w : World) (hrow : RowIn .u32 w A n c zs) (hfm : (Lit.int .u64 fm).wf = true) (hb : (Lit.int .i64 b).wf = true) (hq : (Lit.int .i64 q).wf = true) :
    Calls Tryd.prog 6 #[.slice A n c, .int .u64 fm, .int .i64 b, .int .i64 q] w fun e w' => e = .returned (.bool true) ∧ Below w.heap.size w w' := by
  obtain ⟨hr, hl, hc, hm, hwf⟩ := ints_of_row hrow
  by_cases hf : 2147483647 < n
  · exact FnStreamGetMapHead_far fm b q A n c w hf
  by_cases hbn : Asked b q ∧ n ≤ 100
  · obtain ⟨z, rfl⟩ := Int.eq_ofNat_of_zero_le (show 0 ≤ b by have := hbn.1.1; omega)
    simp [Lit.wf, IntKind.signed, IntKind.bits, IntKind.min, IntKind.max] at hfm
    obtain ⟨f, rfl⟩ := Int.eq_ofNat_of_zero_le (show 0 ≤ fm by omega)
    refine FnStreamGetMapHead_near f z q (by omega) hbn.1 A (zs.take n) n c w hl.symm hr (fun x hx => ?_) hbn.2 hc
    have h := hwf x hx
    simp [Lit.wf, IntKind.signed, IntKind.bits, IntKind.min, IntKind.max] at h
    omega
  · refine FnStreamGetMapHead_not fm b q A n c w (by omega) ?_
    by_cases h : Asked b q
    · exact .inr (by have : ¬ n ≤ 100 := fun h2 => hbn ⟨h, h2⟩; omega)
    · exact .inl h
end Go.Proofs.YtpadbpmnejgckaaDoor
