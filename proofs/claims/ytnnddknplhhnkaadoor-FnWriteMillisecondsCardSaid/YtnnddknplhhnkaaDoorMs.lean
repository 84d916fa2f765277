/-
  encoding.Milliseconds' Marshal, impl.WriteMilliseconds, and the walk of the law FnWriteMilliseconds. No condition.
-/
import Derived.Test.YtnnddknplhhnkaaDoorU32
namespace Go.Proofs.YtnnddknplhhnkaaDoor
set_option linter.unusedSimpArgs false
set_option linter.unusedVariables false
open Go.RowKit
theorem msMarshal_any (p : Nat) (bs : List UInt8) (n q : Nat) (hq : q = n / 1000000) (hn : q < 4294967296) (w : World) (h : Buf w p bs) (hlen : bs.length ≤ 1000000) :
    Calls Tryd.prog 27 #[.int .i64 n, .pointer (some ⟨p, 0, none⟩)] w fun e w' => e = .returned .nilIface ∧ Buf w' p (bs ++ u32E q) ∧ Below p w w' := by
  have h1 : (n : Int) / 1000000 = ((n / 1000000 : Nat) : Int) := by omega
  have h2 : (n : Int) / 1000000 < 4294967296 := by omega
  have h3 : IntKind.u32.wrap ((n : Int) / 1000000) = (q : Int) := by
    rw [h1, hq]
    simp [IntKind.wrap, IntKind.bits, IntKind.signed]
    omega
  have HQ := hide hq
  clear hq h1
  go_enter Tryd.func27, Tryd.ntmps27
  go_wp2_with (go_at_call 36; go_loud (refine (writeUint32_any p bs q hn _ h hlen).mono ?_; rintro e w1 ⟨rfl, hb1, hw1⟩))
  go_ret
  exact ⟨rfl, hb1, hw1⟩
set_option maxHeartbeats 800000 in
theorem implWriteMilliseconds_any (n q : Nat) (hq : q = n / 1000000) (hn : q < 4294967296) (w : World) :
    Calls Tryd.prog 11 #[.int .i64 n] w (Wrote w (u32E q)) := by
  have HQ := hide hq
  clear hq
  have hB0 : Buf (((w.alloc (.cells #[.slice none 0 0] 23)).alloc (.cells #[.bool false] 4)).alloc (.cells #[.slice none 0 0, .int .i64 0] 52)) (w.heap.size + 1 + 1) [] := ⟨_, Blk.new' (by simp), own_nil _ _ _ _⟩
  obtain ⟨ds, hds⟩ : ∃ ds, ds = u32E q := ⟨_, rfl⟩
  have hdl : ds.length ≤ 200000 := by rw [hds]; have := u32E_len q; omega
  rw [← hds]
  have HD := hide hds
  clear hds
  go_enter_defers Tryd.func11, Tryd.ntmps11
  go_wp2_with (first
    | (go_at_call 27; go_loud (refine (msMarshal_any (w.heap.size + 1 + 1) [] n q (unhide HQ) hn _ hB0 (by simp)).mono ?_; rintro e w1 ⟨rfl, hb1, hw1⟩; rw [List.nil_append, ← unhide HD] at hb1; have HW1 := hide hw1; have hP1 : Blk w1 w.heap.size 23 #[.slice none 0 0] := (((Blk.new w _ _).alloc _).alloc _).below hw1 (by omega); have hQ1 : Blk w1 (w.heap.size + 1) 4 #[.bool false] := ((Blk.new' (by simp)).alloc _).below hw1 (by omega); have hz1 : w.heap.size + 1 + 1 + 1 ≤ w1.heap.size := Nat.le_trans (by simp) hw1.size; clear hw1 hB0))
    | (go_at_call 24; go_loud (refine (bytes_any (w.heap.size + 1 + 1) ds _ hb1 (by omega)).mono ?_; rintro e w2 ⟨rfl, A, c, rfl, hc1, hc2, hr2⟩; have HR2 := hide hr2; clear hr2))
    | (go_at_call 23; go_loud (refine (copied_any (fun b => w.heap.size + 1 + 1 + 1 ≤ b ∧ b < w1.heap.size) A ds ds.length c w1.drew rfl ((unhide HR2).keep (fun _ _ => rfl)) (fun x hx => hx.2) (by omega)).mono ?_; rintro e w3 ⟨v, rfl, hown, hbel⟩; have HO := hide hown; have HB3 := hide hbel; have hP3 : Blk w3 w.heap.size 23 #[.slice none 0 0] := Blk.below (w := w1.drew) hP1 hbel (by show _ < w1.heap.size; omega); have hQ3 : Blk w3 (w.heap.size + 1) 4 #[.bool false] := Blk.below (w := w1.drew) hQ1 hbel (by show _ < w1.heap.size; omega); have p0 := hP3.cell 0; have p1 := hP3.frozen 0; have q0 := hQ3.cell 0; have q1 := hQ3.frozen 0; obtain ⟨A3, c3, rfl, hc3, hm3, _⟩ := own_slice hown; clear hown hbel hP1 hQ1)))
  refine leaves_cons (f := 20) (args := #[.pointer (some ⟨w.heap.size, 0, none⟩), .pointer (some ⟨w.heap.size + 1, 0, none⟩)]) (by simp) (by simp [go_sem]) ?_
  refine (noData_idle ⟨w.heap.size, 0, none⟩ ⟨w.heap.size + 1, 0, none⟩ _).mono ?_
  rintro e u' w'' ⟨rfl, rfl, rfl⟩
  have hr3 := Reads.of_own (unhide HO)
  have hw1 := unhide HW1
  have hw3 : Below w.heap.size w w3 := (((((Below.refl _ _).alloc (Nat.le_refl _) _).alloc (by simp) _).alloc (by simp; omega) _).trans (hw1.mono (by omega))).drew.trans ((unhide HB3).mono (by show _ ≤ w1.heap.size; omega))
  have hz3 : w1.heap.size ≤ w3.heap.size := (unhide HB3).size
  simp [Leaves, settle, results, Tryd.results11, go_sem, p0, q0]
  have hR := hr3.sub (T := fun b => w1.heap.size ≤ b ∧ b < w3.heap.size) (fun b hb => ⟨hb.1, hb.2.1⟩)
  have k0 : ¬ (fun b => w1.heap.size ≤ b ∧ b < w3.heap.size) w.heap.size := fun h => by have := h.1; omega
  have k1 : ¬ (fun b => w1.heap.size ≤ b ∧ b < w3.heap.size) (w.heap.size + 1) := fun h => by have := h.1; omega
  refine ⟨A3, _, c3, rfl, rfl, hc3, hm3, (hR.keep (stays_setCell k1 (stays_setCell k0 (Stays.refl _ _) _) _)).sub (fun b hb => ⟨?_, ?_⟩), (by repeat (first | with_reducible exact Below.refl _ _ | with_reducible exact hw3 | with_reducible refine Below.alloc ?_ (by first | omega | (simp; omega) | (simp; done)) _ | with_reducible refine Below.setCell ?_ (by first | omega | (simp; omega) | (simp; done)) _ | with_reducible refine Below.drew ?_ | with_reducible refine below_drewN ?_ _))⟩
  · have := hb.1
    omega
  · have := hb.2
    simpa using this
theorem ms_awake (w : World) : Calls Tryd.prog 11 #[.int .i64 5000000] w (Wrote w (u32E 5)) := by
  have h := implWriteMilliseconds_any 5000000 5 (by decide) (by decide) w
  simpa only [Int.cast_ofNat_Int] using h
set_option maxRecDepth 100000 in
set_option maxHeartbeats 800000 in
theorem FnWriteMilliseconds_any (n q : Nat) (hq : q = n / 1000000) (hn : q < 4294967296) (w : World) :
    Calls Tryd.prog 4 #[.int .i64 n] w fun e w' => e = .returned (.bool true) ∧ Below w.heap.size w w' := by
  have h1 := hide (show (n : Int) / 1000000 = (q : Int) by omega)
  have h2 : (n : Int) / 1000000 < 4294967296 := by omega
  have h3 : (n : Int) ≤ 9223372036854775807 := by omega
  have h5 : decide ((4294967296 : Int) ≤ (n : Int) / 1000000) = false := by simp; omega
  have h4 : decide ((n : Int) < 0) = false := by simp
  have HQ := hide hq
  have HN := hide hn
  clear hq hn h2
  go_enter Tryd.func4, Tryd.ntmps4
  go_wp2_with fail
  refine (ms_awake w).mono ?_
  rintro e w1 ⟨A1, n1, c1, rfl, rfl, hc1, hm1, hr1, hb1⟩
  go_wp2_with fail
  refine (wrote_flat (Made w w1) A1 (u32E 5) _ c1 4 5 [] 0 w1 rfl hr1 hc1 hm1 (by decide) (fun x hx => hx.2) (uint_read 5 (by decide))).mono ?_
  rintro e w2 ⟨rfl, hb2⟩
  go_wp2_with fail
  refine (implWriteMilliseconds_any n q (unhide HQ) (unhide HN) w2).mono ?_
  rintro e w3 ⟨A3, n3, c3, rfl, rfl, hc3, hm3, hr3, hb3⟩
  have g1 := unhide h1
  have g2 : (q : Int) ≤ 4294967295 := by have := unhide HN; omega
  clear h5
  go_wp2_with fail
  refine (wrote_flat (Made w2 w3) A3 (u32E q) _ c3 4 q [] 0 w3 rfl hr3 hc3 hm3 (Nat.le_trans (u32E_len q) (by decide)) (fun x hx => hx.2) (uint_read q (unhide HN))).mono ?_
  rintro e w4 ⟨rfl, hb4⟩
  go_wp2
  go_ret
  exact ⟨rfl, ((hb1.trans (hb2.mono hb1.size)).trans (hb3.mono (Nat.le_trans hb1.size hb2.size))).trans (hb4.mono (Nat.le_trans (Nat.le_trans hb1.size hb2.size) hb3.size))⟩
set_option maxRecDepth 100000 in
set_option maxHeartbeats 800000 in
theorem FnWriteMilliseconds_out (n : Int) (h : n < 0 ∨ 4294967296 ≤ n / 1000000) (_hb : n ≤ 9223372036854775807) (w : World) :
    Calls Tryd.prog 4 #[.int .i64 n] w fun e w' => e = .returned (.bool true) ∧ Below w.heap.size w w' := by
  by_cases h0 : n < 0
  · clear h
    go_enter Tryd.func4, Tryd.ntmps4
    go_wp2_with fail
    refine (ms_awake w).mono ?_
    rintro e w1 ⟨A1, n1, c1, rfl, rfl, hc1, hm1, hr1, hb1⟩
    go_wp2_with fail
    refine (wrote_flat (Made w w1) A1 (u32E 5) _ c1 4 5 [] 0 w1 rfl hr1 hc1 hm1 (by decide) (fun x hx => hx.2) (uint_read 5 (by decide))).mono ?_
    rintro e w2 ⟨rfl, hb2⟩
    go_wp2
    go_ret
    exact ⟨rfl, hb1.trans (hb2.mono hb1.size)⟩
  · have h5 : decide ((4294967296 : Int) ≤ n / 1000000) = true := by simp; omega
    have h6 : 0 ≤ n := by omega
    clear h h0
    go_enter Tryd.func4, Tryd.ntmps4
    go_wp2_with fail
    refine (ms_awake w).mono ?_
    rintro e w1 ⟨A1, n1, c1, rfl, rfl, hc1, hm1, hr1, hb1⟩
    go_wp2_with fail
    refine (wrote_flat (Made w w1) A1 (u32E 5) _ c1 4 5 [] 0 w1 rfl hr1 hc1 hm1 (by decide) (fun x hx => hx.2) (uint_read 5 (by decide))).mono ?_
    rintro e w2 ⟨rfl, hb2⟩
    go_wp2
    go_ret
    exact ⟨rfl, hb1.trans (hb2.mono hb1.size)⟩
theorem FnWriteMilliseconds_walk (a : Int) (w : World) (h : (Lit.int .i64 a).wf = true) :
    Calls Tryd.prog 4 #[.int .i64 a] w fun e w' => e = .returned (.bool true) ∧ Below w.heap.size w w' := by
  have hx : -9223372036854775808 ≤ a ∧ a ≤ 9223372036854775807 := by simpa [Lit.wf, IntKind.min, IntKind.max, IntKind.signed, IntKind.bits] using h
  by_cases hn : 0 ≤ a ∧ a / 1000000 < 4294967296
  · obtain ⟨n, rfl⟩ := Int.eq_ofNat_of_zero_le hn.1
    exact FnWriteMilliseconds_any n (n / 1000000) rfl (by omega) w
  · exact FnWriteMilliseconds_out a (by omega) hx.2 w
end Go.Proofs.YtnnddknplhhnkaaDoor
