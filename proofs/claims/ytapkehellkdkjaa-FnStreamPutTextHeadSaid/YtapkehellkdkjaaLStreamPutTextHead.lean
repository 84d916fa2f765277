/-
  The walk of the law FnStreamPutTextHead. No condition.
-/
import Derived.Test.YtapkehellkdkjaaHeadsInOrder
import Derived.Test.YtapkehellkdkjaaRow
import Derived.Test.YtapkehellkdkjaaSPut
namespace Go.Proofs.Ytapkehellkdkjaa
set_option linter.unusedSimpArgs false
set_option linter.unusedVariables false
set_option linter.unusedVariables false
open Go.RowKit
theorem put_StreamPutTextHead (z : Nat) (hz1 : 18 ≤ z) (hz2 : z ≤ 65536) (S : Nat → Prop) (A : Option Addr) (xs : List Int) (n c : Nat) (w : World) (hn : n = xs.length) (hr : Reads w S 1 A n (xs.map (Value.int .u32))) (hS : Old w S) (hx : ∀ x ∈ xs, 0 ≤ x ∧ x ≤ 4294967295) (hl : n ≤ 100) (hc : n ≤ c) :
    Calls Try.prog 6 #[.int .i64 z, .slice A n c] w (Written (encs encT xs) w) := by
  have hW := written_closTextHead z hz1 hz2 S A xs n c w hn hr hS hx hl hc
  have HW := hide hW
  obtain ⟨bs, hbs⟩ : ∃ bs, bs = encs encT xs := ⟨_, rfl⟩
  rw [← hbs] at HW ⊢
  clear hW hn hr hx hbs
  go_enter Try.func6, Try.ntmps6
  go_wp2_with (go_at_call 12; go_loud (refine (unhide HW).mono ?_; rintro e w1 ⟨A1, c1, rfl, h1, h2, h3, h4⟩; have H3 := hide h3; clear h3))
  go_ret2
  exact ⟨A1, c1, rfl, h1, h2, unhide H3, h4⟩
set_option maxRecDepth 100000 in
set_option maxHeartbeats 1600000 in
theorem FnStreamPutTextHead_far (b : Int) (A : Option Addr) (n c : Nat) (w : World) (hf : 2147483647 < n) :
    Calls Try.prog 3 #[.int .i64 b, .slice A n c] w (TrueR w) := by
  have h1 : (2147483647 : Int) < (n : Int) := by omega
  go_enter Try.func3, Try.ntmps3
  go_wp2
  go_ret
  exact ⟨rfl, Below.refl _ _⟩
set_option maxRecDepth 100000 in
set_option maxHeartbeats 1600000 in
theorem FnStreamPutTextHead_not (b : Int) (A : Option Addr) (n c : Nat) (w : World) (hf : n ≤ 2147483647) (hb : ¬ (18 ≤ b ∧ b ≤ 65536) ∨ 100 < n) :
    Calls Try.prog 3 #[.int .i64 b, .slice A n c] w (TrueR w) := by
  have h1 : ¬ (2147483647 : Int) < (n : Int) := by omega
  have hP := put_StreamPutTextHead 100 (by omega) (by omega) (Lt (w.heap.size + 1)) (some ⟨w.heap.size, 0, none⟩) [5] 1 1 (w.alloc (.cells #[.int .u32 5] 26)) rfl (reads_blkS (S := Lt (w.heap.size + 1)) (t := 26) (cs := #[.int .u32 5]) (Blk.new _ _ _) (Nat.lt_succ_self _) 1 1 rfl) (fun b hb => by simpa [Lt] using hb) (by intro x hx; simp at hx; omega) (by omega) (by omega)
  have hL := (encT_len 5).2
  have hPL : 0 < (encs encT [5]).length := by simpa [encs] using hL
  obtain ⟨bs, hbs⟩ : ∃ bs, bs = encs encT [5] := ⟨_, rfl⟩
  rw [← hbs] at hP hPL
  have HP := hide hP
  clear hP hL hbs
  have hcase : (¬ (18 ≤ b ∧ b ≤ 65536)) ∨ ((18 ≤ b ∧ b ≤ 65536) ∧ 100 < n) := by omega
  clear hb
  obtain ⟨M, hM⟩ : ∃ M, M = bs.length := ⟨_, rfl⟩
  have HM := hide hM
  rw [← hM] at hPL
  clear hM
  rcases hcase with hb | ⟨hb, hn⟩
  · go_enter Try.func3, Try.ntmps3
    go_wp2_with fail
    refine (unhide HP).mono ?_
    rintro e w1 ⟨A1, c1, rfl, _, _, _, hb1⟩
    rw [← unhide HM]
    have HB := hide (show Below w.heap.size w w1 from Below.trans (by repeat (first | with_reducible exact Below.refl _ _ | with_reducible exact x | with_reducible refine Below.alloc ?_ (by first | omega | (simp; omega) | (simp; done)) _ | with_reducible refine Below.setCell ?_ (by first | omega | (simp; omega) | (simp; done)) _ | with_reducible refine Below.drew ?_ | with_reducible refine below_drewN ?_ _)) (hb1.mono (by simp)))
    clear hb1
    go_wp2_with (go_at_call 7; go_loud (refine (buffers_no b hb _).mono ?_; rintro e w2 ⟨rfl, rfl⟩))
    go_ret
    exact ⟨rfl, unhide HB⟩
  · have hn2 : (100 : Int) < (n : Int) := by omega
    go_enter Try.func3, Try.ntmps3
    go_wp2_with fail
    refine (unhide HP).mono ?_
    rintro e w1 ⟨A1, c1, rfl, _, _, _, hb1⟩
    rw [← unhide HM]
    have HB := hide (show Below w.heap.size w w1 from Below.trans (by repeat (first | with_reducible exact Below.refl _ _ | with_reducible exact x | with_reducible refine Below.alloc ?_ (by first | omega | (simp; omega) | (simp; done)) _ | with_reducible refine Below.setCell ?_ (by first | omega | (simp; omega) | (simp; done)) _ | with_reducible refine Below.drew ?_ | with_reducible refine below_drewN ?_ _)) (hb1.mono (by simp)))
    clear hb1
    go_wp2_with (go_at_call 7; go_loud (refine (buffers_yes b hb.1 hb.2 _).mono ?_; rintro e w2 ⟨rfl, rfl⟩))
    go_ret
    exact ⟨rfl, unhide HB⟩
set_option maxRecDepth 100000 in
set_option maxHeartbeats 3200000 in
theorem FnStreamPutTextHead_near (z : Nat) (hz1 : 18 ≤ z) (hz2 : z ≤ 65536) (A : Option Addr) (ns : List Int) (n c : Nat) (w : World) (hn : n = ns.length) (hr : Reads w (Lt w.heap.size) 1 A n (ns.map (Value.int .u32))) (hx : ∀ x ∈ ns, 0 ≤ x ∧ x ≤ 4294967295) (hl : n ≤ 100) (hc : n ≤ c) :
    Calls Try.prog 3 #[.int .i64 z, .slice A n c] w (TrueR w) := by
  have h1 : ¬ (2147483647 : Int) < (n : Int) := by omega
  have h2 : ¬ (100 : Int) < (n : Int) := by omega
  have hP := put_StreamPutTextHead 100 (by omega) (by omega) (Lt (w.heap.size + 1)) (some ⟨w.heap.size, 0, none⟩) [5] 1 1 (w.alloc (.cells #[.int .u32 5] 26)) rfl (reads_blkS (S := Lt (w.heap.size + 1)) (t := 26) (cs := #[.int .u32 5]) (Blk.new _ _ _) (Nat.lt_succ_self _) 1 1 rfl) (fun b hb => by simpa [Lt] using hb) (by intro x hx; simp at hx; omega) (by omega) (by omega)
  have hL := (encT_len 5).2
  have hPL : 0 < (encs encT [5]).length := by simpa [encs] using hL
  obtain ⟨bs, hbs⟩ : ∃ bs, bs = encs encT [5] := ⟨_, rfl⟩
  rw [← hbs] at hP hPL
  have HP := hide hP
  obtain ⟨M, hM⟩ : ∃ M, M = bs.length := ⟨_, rfl⟩
  have HM := hide hM
  rw [← hM] at hPL
  have HN := hide hn
  have HR := hide hr
  have HX := hide hx
  clear hP hL hbs hM hn hr hx
  go_enter Try.func3, Try.ntmps3
  go_wp2_with fail
  refine (unhide HP).mono ?_
  rintro e w1 ⟨A1, c1, rfl, _, _, _, hb1⟩
  rw [← unhide HM]
  have hw1 : Below w.heap.size w w1 := Below.trans (by repeat (first | with_reducible exact Below.refl _ _ | with_reducible exact x | with_reducible refine Below.alloc ?_ (by first | omega | (simp; omega) | (simp; done)) _ | with_reducible refine Below.setCell ?_ (by first | omega | (simp; omega) | (simp; done)) _ | with_reducible refine Below.drew ?_ | with_reducible refine below_drewN ?_ _)) (hb1.mono (by simp))
  have HB := hide hw1
  clear hb1 hw1
  go_wp2_with (go_at_call 7; go_loud (refine (buffers_yes z (by omega) (by omega) _).mono ?_; rintro e w2 ⟨rfl, rfl⟩))
  have hwr := unhide HB
  have hS2 := put_StreamPutTextHead z hz1 hz2 (Lt w.heap.size) A ns n c w1 (unhide HN) ((unhide HR).below hwr) (fun b hb => Nat.lt_of_lt_of_le hb hwr.size) (unhide HX) hl hc
  have HS2 := hide hS2
  clear hS2 hwr
  go_wp2_with fail
  refine (unhide HS2).mono ?_
  rintro e w7 ⟨A7, c7, rfl, hc7, hm7, hr7, hb7⟩
  have hw7 : Below w.heap.size w w7 := (unhide HB).trans (hb7.mono (unhide HB).size)
  have hO := headsInOrder_any (fun b => w1.heap.size ≤ b ∧ b < w7.heap.size) (Lt w.heap.size) A7 _ c7 A ns n c w7 rfl hr7 hc7 (by unfold maxLen at hm7; omega) (fun b hb => hb.2) (unhide HN) ((unhide HR).below hw7) (unhide HX) (fun b hb => Nat.lt_of_lt_of_le hb hw7.size) hc hl
  have HO := hide hO
  have HW7 := hide hw7
  clear hO hw7 hb7 hr7 hm7
  go_wp2_with (go_at_call 8; go_loud (refine (unhide HO).mono ?_; rintro e w8 ⟨rfl, hb8⟩; have HB8 := hide hb8; clear hb8))
  go_ret
  have hw7 := unhide HW7
  exact ⟨rfl, hw7.trans ((unhide HB8).mono hw7.size)⟩
theorem FnStreamPutTextHead_walk (b : Int) (A : Option Addr) (n c : Nat) (zs : List Int) (w : World) (hb : (Lit.int .i64 b).wf = true) (hrow : RowIn .u32 w A n c zs) :
    Calls Try.prog 3 #[.int .i64 b, .slice A n c] w fun e w' => e = .returned (.bool true) ∧ Below w.heap.size w w' := by
  obtain ⟨hr, hl, hc, hm, hwf⟩ := ints_of_row hrow
  by_cases hf : 2147483647 < n
  · exact FnStreamPutTextHead_far b A n c w hf
  by_cases hbn : (18 ≤ b ∧ b ≤ 65536) ∧ n ≤ 100
  · obtain ⟨z, rfl⟩ := Int.eq_ofNat_of_zero_le (show 0 ≤ b by omega)
    refine FnStreamPutTextHead_near z (by omega) (by omega) A (zs.take n) n c w hl.symm hr (fun x hx => ?_) hbn.2 hc
    have h := hwf x hx
    simp [Lit.wf, IntKind.signed, IntKind.bits, IntKind.min, IntKind.max] at h
    omega
  · exact FnStreamPutTextHead_not b A n c w (by omega) (by omega)
end Go.Proofs.Ytapkehellkdkjaa
