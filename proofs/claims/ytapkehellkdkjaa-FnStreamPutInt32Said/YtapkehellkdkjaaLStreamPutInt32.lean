/-
  The walk of the law FnStreamPutInt32. No condition.
-/
import Derived.Test.YtapkehellkdkjaaEncRead
import Derived.Test.YtapkehellkdkjaaRow
import Derived.Test.YtapkehellkdkjaaSPut
namespace Go.Proofs.Ytapkehellkdkjaa
set_option linter.unusedSimpArgs false
set_option linter.unusedVariables false
set_option linter.unusedVariables false
open Go.RowKit
theorem put_StreamPutInt32 (z : Nat) (hz1 : 18 ≤ z) (hz2 : z ≤ 65536) (S : Nat → Prop) (A : Option Addr) (xs : List Int) (n c : Nat) (w : World) (hn : n = xs.length) (hr : Reads w S 1 A n (xs.map (Value.int .i32))) (hS : Old w S) (hx : ∀ x ∈ xs, -2147483648 ≤ x ∧ x ≤ 2147483647) (hl : n ≤ 100) (hc : n ≤ c) :
    Calls Try.prog 11 #[.int .i64 z, .slice A n c] w (Written (encs encI xs) w) := by
  have hW := written_closInt32 z hz1 hz2 S A xs n c w hn hr hS hx hl hc
  have HW := hide hW
  obtain ⟨bs, hbs⟩ : ∃ bs, bs = encs encI xs := ⟨_, rfl⟩
  rw [← hbs] at HW ⊢
  clear hW hn hr hx hbs
  go_enter Try.func11, Try.ntmps11
  go_wp2_with (go_at_call 20; go_loud (refine (unhide HW).mono ?_; rintro e w1 ⟨A1, c1, rfl, h1, h2, h3, h4⟩; have H3 := hide h3; clear h3))
  go_ret2
  exact ⟨A1, c1, rfl, h1, h2, unhide H3, h4⟩
def pk_StreamPutInt32 : Int → Pack := fun x => .mk 2 (x % 18446744073709551616).toNat [] 0 []
def pc_StreamPutInt32 (x : Int) : List Value := [.int .i64 2, .int .u64 (IntKind.u64.wrap x), .string ⟨#[]⟩, .int .i64 0, .slice none 0 0]
theorem ps_StreamPutInt32 (w : World) (S : Nat → Prop) : ∀ (xs : List Int), (∀ x ∈ xs, -2147483648 ≤ x ∧ x ≤ 2147483647) → PacksC w S (xs.map pk_StreamPutInt32) (xs.flatMap pc_StreamPutInt32)
  | [], _ => by unfold PacksC; rfl
  | x :: xs, h => by
    have hx := h x (by simp)
    rw [List.map_cons, List.flatMap_cons]
    unfold PacksC
    refine ⟨_, _, rfl, rfl, ?_, ps_StreamPutInt32 w S xs fun y hy => h y (by simp [hy])⟩
    have h2 := PackC.flat w S 2 (pk_StreamPutInt32 x).num [] 0
    have e : (((pk_StreamPutInt32 x).num : Nat) : Int) = IntKind.u64.wrap x := by
      simp only [pk_StreamPutInt32, Pack.num]
      simp only [IntKind.wrap, IntKind.bits, IntKind.signed]
      simp
      omega
    rw [e] at h2
    exact h2
set_option maxRecDepth 100000 in
set_option maxHeartbeats 1600000 in
theorem FnStreamPutInt32_far (b : Int) (A : Option Addr) (n c : Nat) (w : World) (hf : 2147483647 < n) :
    Calls Try.prog 5 #[.int .i64 b, .slice A n c] w (TrueR w) := by
  have h1 : (2147483647 : Int) < (n : Int) := by omega
  go_enter Try.func5, Try.ntmps5
  go_wp2
  go_ret
  exact ⟨rfl, Below.refl _ _⟩
set_option maxRecDepth 100000 in
set_option maxHeartbeats 1600000 in
theorem FnStreamPutInt32_not (b : Int) (A : Option Addr) (n c : Nat) (w : World) (hf : n ≤ 2147483647) (hb : ¬ (18 ≤ b ∧ b ≤ 65536) ∨ 100 < n) :
    Calls Try.prog 5 #[.int .i64 b, .slice A n c] w (TrueR w) := by
  have h1 : ¬ (2147483647 : Int) < (n : Int) := by omega
  have hP := put_StreamPutInt32 100 (by omega) (by omega) (Lt (w.heap.size + 1)) (some ⟨w.heap.size, 0, none⟩) [5] 1 1 (w.alloc (.cells #[.int .i32 5] 21)) rfl (reads_blkS (S := Lt (w.heap.size + 1)) (t := 21) (cs := #[.int .i32 5]) (Blk.new _ _ _) (Nat.lt_succ_self _) 1 1 rfl) (fun b hb => by simpa [Lt] using hb) (by intro x hx; simp at hx; omega) (by omega) (by omega)
  have hL := (encI_len 5).2
  have hPL : 0 < (encs encI [5]).length := by simpa [encs] using hL
  obtain ⟨bs, hbs⟩ : ∃ bs, bs = encs encI [5] := ⟨_, rfl⟩
  rw [← hbs] at hP hPL
  have HP := hide hP
  clear hP hL hbs
  have hcase : (¬ (18 ≤ b ∧ b ≤ 65536)) ∨ ((18 ≤ b ∧ b ≤ 65536) ∧ 100 < n) := by omega
  clear hb
  obtain ⟨M, hM⟩ : ∃ M, M = bs.length := ⟨_, rfl⟩
  have HM := hide hM
  rw [← hM] at hPL
  clear hM
  rcases hcase with hb | ⟨hb, hn⟩
  · go_enter Try.func5, Try.ntmps5
    go_wp2_with fail
    refine (unhide HP).mono ?_
    rintro e w1 ⟨A1, c1, rfl, _, _, _, hb1⟩
    rw [← unhide HM]
    have HB := hide (show Below w.heap.size w w1 from Below.trans (by repeat (first | with_reducible exact Below.refl _ _ | with_reducible exact x | with_reducible refine Below.alloc ?_ (by first | omega | (simp; omega) | (simp; done)) _ | with_reducible refine Below.setCell ?_ (by first | omega | (simp; omega) | (simp; done)) _ | with_reducible refine Below.drew ?_ | with_reducible refine below_drewN ?_ _)) (hb1.mono (by simp)))
    clear hb1
    go_wp2_with (go_at_call 7; go_loud (refine (buffers_no b hb _).mono ?_; rintro e w2 ⟨rfl, rfl⟩))
    go_ret
    exact ⟨rfl, unhide HB⟩
  · have hn2 : (100 : Int) < (n : Int) := by omega
    go_enter Try.func5, Try.ntmps5
    go_wp2_with fail
    refine (unhide HP).mono ?_
    rintro e w1 ⟨A1, c1, rfl, _, _, _, hb1⟩
    rw [← unhide HM]
    have HB := hide (show Below w.heap.size w w1 from Below.trans (by repeat (first | with_reducible exact Below.refl _ _ | with_reducible exact x | with_reducible refine Below.alloc ?_ (by first | omega | (simp; omega) | (simp; done)) _ | with_reducible refine Below.setCell ?_ (by first | omega | (simp; omega) | (simp; done)) _ | with_reducible refine Below.drew ?_ | with_reducible refine below_drewN ?_ _)) (hb1.mono (by simp)))
    clear hb1
    go_wp2_with (go_at_call 7; go_loud (refine (buffers_yes b hb.1 hb.2 _).mono ?_; rintro e w2 ⟨rfl, rfl⟩))
    go_ret
    exact ⟨rfl, unhide HB⟩
set_option maxRecDepth 100000 in
set_option maxHeartbeats 3200000 in
theorem FnStreamPutInt32_near (z : Nat) (hz1 : 18 ≤ z) (hz2 : z ≤ 65536) (A : Option Addr) (ns : List Int) (n c : Nat) (w : World) (hn : n = ns.length) (hr : Reads w (Lt w.heap.size) 1 A n (ns.map (Value.int .i32))) (hx : ∀ x ∈ ns, -2147483648 ≤ x ∧ x ≤ 2147483647) (hl : n ≤ 100) (hc : n ≤ c) :
    Calls Try.prog 5 #[.int .i64 z, .slice A n c] w (TrueR w) := by
  have h1 : ¬ (2147483647 : Int) < (n : Int) := by omega
  have h2 : ¬ (100 : Int) < (n : Int) := by omega
  have hP := put_StreamPutInt32 100 (by omega) (by omega) (Lt (w.heap.size + 1)) (some ⟨w.heap.size, 0, none⟩) [5] 1 1 (w.alloc (.cells #[.int .i32 5] 21)) rfl (reads_blkS (S := Lt (w.heap.size + 1)) (t := 21) (cs := #[.int .i32 5]) (Blk.new _ _ _) (Nat.lt_succ_self _) 1 1 rfl) (fun b hb => by simpa [Lt] using hb) (by intro x hx; simp at hx; omega) (by omega) (by omega)
  have hL := (encI_len 5).2
  have hPL : 0 < (encs encI [5]).length := by simpa [encs] using hL
  obtain ⟨bs, hbs⟩ : ∃ bs, bs = encs encI [5] := ⟨_, rfl⟩
  rw [← hbs] at hP hPL
  have HP := hide hP
  obtain ⟨M, hM⟩ : ∃ M, M = bs.length := ⟨_, rfl⟩
  have HM := hide hM
  rw [← hM] at hPL
  have HN := hide hn
  have HR := hide hr
  have HX := hide hx
  clear hP hL hbs hM hn hr hx
  go_enter Try.func5, Try.ntmps5
  go_wp2_with fail
  refine (unhide HP).mono ?_
  rintro e w1 ⟨A1, c1, rfl, _, _, _, hb1⟩
  rw [← unhide HM]
  have hw1 : Below w.heap.size w w1 := Below.trans (by repeat (first | with_reducible exact Below.refl _ _ | with_reducible exact x | with_reducible refine Below.alloc ?_ (by first | omega | (simp; omega) | (simp; done)) _ | with_reducible refine Below.setCell ?_ (by first | omega | (simp; omega) | (simp; done)) _ | with_reducible refine Below.drew ?_ | with_reducible refine below_drewN ?_ _)) (hb1.mono (by simp))
  have HB := hide hw1
  clear hb1 hw1
  go_wp2_with (go_at_call 7; go_loud (refine (buffers_yes z (by omega) (by omega) _).mono ?_; rintro e w2 ⟨rfl, rfl⟩))
  go_loopw [8, 38] (fun v i wr => ∃ (k : Nat) (K : Option Addr) (kc : Nat), i = .int .i64 k ∧ k ≤ n ∧ v = .slice K k kc ∧ wr.ownsRow w1.heap.size 33 5 (.slice K k kc) k ((ns.take k).flatMap pc_StreamPutInt32) ∧ Below w1.heap.size w1 wr) (fun _ i _ => n - (intOf i).toNat)
  case atStart => exact ⟨0, none, 0, rfl, Nat.zero_le _, rfl, World.ownsRow_nil _ _ _ _, Below.refl _ _⟩
  case round =>
    obtain ⟨k, K, kc, rfl, hk, rfl, hown, hbel⟩ := hrel
    have hbw : Below w.heap.size w wr := (unhide HB).trans (hbel.mono (unhide HB).size)
    by_cases hlt : k < n
    · obtain ⟨ad, u, rfl, hSb, hu, hcell⟩ := ((unhide HR).below hbw).at_ hlt
      have hln : k < ns.length := by have := unhide HN; omega
      have hux : u = .int .i32 ns[k] := by
        rw [List.getElem?_map, List.getElem?_eq_getElem hln] at hu
        simpa using hu.symm
      have htk : (ns.take (k + 1)).flatMap pc_StreamPutInt32 = (ns.take k).flatMap pc_StreamPutInt32 ++ pc_StreamPutInt32 ns[k] := by
        rw [List.take_succ_eq_append_getElem hln, List.flatMap_append]
        simp
      have hbd := unhide HX ns[k] (List.getElem_mem hln)
      generalize ns[k] = x at *
      subst hux
      have HTK := hide htk
      have HOWN := hide hown
      have HBEL := hide hbel
      have hk0 : (0 : Int) ≤ (k : Int) := by omega
      have hk1 : (k : Int) < (n : Int) := by omega
      clear htk hu hbw hown hbel
      go_wp2_with (at_builtin; go_loud (obtain ⟨i0, hi0, hiz, his, hib⟩ := info_parts info30; refine wpList_append_any (S := fun _ => True) _ rfl _ _ 30 rfl w1.heap.size 33 i0 _ 5 64 Try.underlying30 hi0 hiz his hib ?x1 ?x2 (.slice K k kc) k ((ns.take k).flatMap pc_StreamPutInt32) ?x3 ?x4 (some ⟨wr.heap.size, 0, none⟩) 1 1 (pc_StreamPutInt32 x) ?x5 ?x6 (fives) ?x7 ?x8 ?x9 ?_; (case x1 => rfl); (case x2 => omega); (case x3 => rfl); (case x4 => exact own_below (unhide HOWN) (by repeat (first | with_reducible exact Below.refl _ _ | with_reducible exact x | with_reducible refine Below.alloc ?_ (by first | omega | (simp; omega) | (simp; done)) _ | with_reducible refine Below.setCell ?_ (by first | omega | (simp; omega) | (simp; done)) _ | with_reducible refine Below.drew ?_ | with_reducible refine below_drewN ?_ _))); (case x5 => rfl); (case x6 => exact reads_blkS (S := fun _ => True) (t := 33) (cs := (pc_StreamPutInt32 x).toArray) (Blk.newS rfl) trivial 5 1 rfl); (case x7 => unfold maxLen; omega); (case x8 => omega); (case x9 => have := (unhide HBEL).size; simp; omega); clear hi0 hiz his hib; intro v6 w6 hown6 hgr6 hat6; obtain ⟨K6, kc6, rfl, _, _, _⟩ := own_slice hown6; have hB6 : Below w1.heap.size w1 w6 := ((unhide HBEL).alloc (unhide HBEL).size _).grown hgr6 (by have := (unhide HBEL).size; simp; omega) (fun k hk => ((unhide HOWN).lt _ hk).1); have HB6 := hide hB6; have HO6 := hide hown6; clear hgr6 hown6 hat6 hB6))
      go_roundw
      case rel => exact ⟨k + 1, K6, kc6, by go_num, by omega, rfl, by rw [unhide HTK]; exact unhide HO6, unhide HB6⟩
      case measure => simp [intOf]; omega
    · obtain rfl : k = n := by omega
      have hk1 : ¬ (k : Int) < (k : Int) := by omega
      have hwr := hbw
      have hall : ns.take k = ns := List.take_of_length_le (by have := unhide HN; omega)
      rw [hall] at hown
      obtain ⟨K', kc', hv, hkc, hkm, hRk⟩ := own_slice hown
      obtain ⟨rfl, _, rfl⟩ := Value.slice.inj hv
      have hS2 := put_StreamPutInt32 z hz1 hz2 (Lt w.heap.size) A ns k c wr (unhide HN) ((unhide HR).below hbw) (fun b hb => Nat.lt_of_lt_of_le hb hbw.size) (unhide HX) hl hc
      have HS2 := hide hS2
      have HRK := hide hRk
      have HW := hide hwr
      unfold maxLen at hkm
      clear hS2 hRk hwr hbw hown hbel hall hv
      go_wp2_with fail
      refine (unhide HS2).mono ?_
      rintro e w7 ⟨A7, c7, rfl, hc7, hm7, hr7, hb7⟩
      have hw7 : Below w.heap.size w w7 := (unhide HW).trans (hb7.mono (unhide HW).size)
      have hlen := encs_len encI 9 (fun x => (encI_len x).1) ns
      have hn' := unhide HN
      have hO := inOrder_any (fun b => wr.heap.size ≤ b ∧ b < w7.heap.size) (fun b => w1.heap.size ≤ b ∧ b < wr.heap.size) A7 (encs encI ns) _ c7 K (ns.map pk_StreamPutInt32) (ns.flatMap pc_StreamPutInt32) k kc w7 rfl hr7 hc7 (by unfold maxLen at hm7; omega) (fun b hb => hb.2) (by omega) (by rw [List.length_map]; exact hn') ((unhide HRK).keep (fun b hb => hb7.block b hb.2)) (ps_StreamPutInt32 _ _ ns (unhide HX)) (fun b hb => Nat.lt_of_lt_of_le hb.2 hb7.size) hkc (by omega) (ordI ns (unhide HX))
      have HO := hide hO
      have HW7 := hide hw7
      clear hO hw7 hlen hn' hb7 hr7 hm7
      go_wp2_with (go_at_call 10; go_loud (refine (unhide HO).mono ?_; rintro e w8 ⟨rfl, hb8⟩; have HB8 := hide hb8; clear hb8))
      go_ret
      have hw7 := unhide HW7
      exact ⟨rfl, hw7.trans ((unhide HB8).mono hw7.size)⟩
theorem FnStreamPutInt32_walk (b : Int) (A : Option Addr) (n c : Nat) (zs : List Int) (w : World) (hb : (Lit.int .i64 b).wf = true) (hrow : RowIn .i32 w A n c zs) :
    Calls Try.prog 5 #[.int .i64 b, .slice A n c] w fun e w' => e = .returned (.bool true) ∧ Below w.heap.size w w' := by
  obtain ⟨hr, hl, hc, hm, hwf⟩ := ints_of_row hrow
  by_cases hf : 2147483647 < n
  · exact FnStreamPutInt32_far b A n c w hf
  by_cases hbn : (18 ≤ b ∧ b ≤ 65536) ∧ n ≤ 100
  · obtain ⟨z, rfl⟩ := Int.eq_ofNat_of_zero_le (show 0 ≤ b by omega)
    refine FnStreamPutInt32_near z (by omega) (by omega) A (zs.take n) n c w hl.symm hr (fun x hx => ?_) hbn.2 hc
    have h := hwf x hx
    simp [Lit.wf, IntKind.signed, IntKind.bits, IntKind.min, IntKind.max] at h
    omega
  · exact FnStreamPutInt32_not b A n c w (by omega) (by omega)
end Go.Proofs.Ytapkehellkdkjaa
