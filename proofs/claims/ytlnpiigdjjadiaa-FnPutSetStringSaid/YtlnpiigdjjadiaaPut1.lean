/-
  What the appending functions of msgp lean on: a copy of bytes (impl.copied), room behind a slice (msgp.ensure).
-/
import Derived.Test.YtlnpiigdjjadiaaProg
import Derived.Test.YtlnpiigdjjadiaaOwn
namespace Go.Proofs.Ytlnpiigdjjadiaa
set_option linter.unusedSimpArgs false
set_option linter.unusedVariables false
open Go.RowKit
theorem info5 : (Try.prog.info? 5).map (fun i => (i.zero, i.size, i.bytes)) = some (some (.int .u8 0), 1, 1) := by kernel_rfl
set_option maxHeartbeats 400000 in
theorem copied_any (S : Nat → Prop) (A : Option Addr) (bs : List UInt8) (n cap : Nat) (w : World) (hn : n = bs.length) (hr : RB w S A bs) (hS : Old w S) (hlen : bs.length ≤ 70368744177664) :
    Calls Try.prog 16 #[.slice A n cap] w fun e w' => ∃ v, e = .returned v ∧ w'.ownsRow w.heap.size 5 1 v bs.length (bs.map u8) ∧ Below w.heap.size w w' := by
  subst hn
  go_enter Try.func16, Try.ntmps16
  go_wp2_with (at_builtin; obtain ⟨i0, hi0, hz0, hz1', hz2⟩ := info_parts info5; refine wpList_append_any (S := S) _ rfl (.tmp 3) (.tmp 4) _ rfl w.heap.size 5 i0 _ 1 1 Try.underlying22 hi0 hz0 hz1' hz2 ?x1 ?x2 (.slice (some ⟨w.heap.size, 0, none⟩) 0 0) 0 [] ?x3 ?x8 A bs.length cap (bs.map u8) ?x4 ?x5 (u8_one bs) ?c3 ?x7 ?c4 ?_; (case x1 => rfl); (case x2 => omega); (case x3 => rfl); (case x4 => rfl); (case x5 => exact hr.keep (by go_simp)); (case x7 => omega); (case x8 => exact World.ownsRow_made w #[] 0 (Nat.le_refl _) (Nat.zero_le _) rfl); (case c3 => unfold maxLen; omega); (case c4 => simp); clear hi0 hz0 hz1' hz2; intro v1 w1 hown hgrow hat)
  go_ret
  refine ⟨v1, rfl, by simpa using hown, ?_⟩
  exact ((by repeat (first | with_reducible exact Below.refl _ _ | with_reducible exact x | with_reducible refine Below.alloc ?_ (by first | omega | (simp; omega) | (simp; done)) _ | with_reducible refine Below.setCell ?_ (by first | omega | (simp; omega) | (simp; done)) _ | with_reducible refine Below.drew ?_ | with_reducible refine below_drewN ?_ _)) : Below w.heap.size w (w.alloc _)).grown hgrow (by simp) (fun k hk => by simp [Value.ownBlock] at hk; omega)
set_option maxHeartbeats 400000 in
theorem ensure_room (g n cap sz : Nat) (w : World) (hcap : cap ≤ maxLen) (hroom : n + sz ≤ cap) :
    Calls Try.prog 39 #[.slice (some ⟨g, 0, none⟩) n cap, .int .i64 sz] w fun e w' => e = .returned (.tuple #[.slice (some ⟨g, 0, none⟩) (n + sz) cap, .int .i64 n]) ∧ w = w' := by
  unfold maxLen at hcap
  go_enter Try.func39, Try.ntmps39
  go_wp2
  go_ret2
  exact ⟨rfl, rfl⟩
theorem make5 (c : Nat) (hc : c ≤ 281474976710656) : ∃ Z : List Value, Z.length = c ∧ ∀ W : World, (Instr.makeSlice 22 (.int .i64 (c : Int)) (.int .i64 (c : Int))).run Try.prog W = .ok (.slice (some ⟨W.heap.size, 0, none⟩) c c) (W.alloc (.cells Z.toArray 5)) := by
  obtain ⟨i0, hi0, hz0, hz1, hz2⟩ := info_parts info5
  refine ⟨(madeCells (Value.cells (.int .u8 0)) (c * 1)).toList, by simp [size_madeCells], fun W => ?_⟩
  have := run_make (P := Try.prog) W 22 5 i0 _ Try.underlying22 hi0 hz0 .i64 .i64 c c (by omega) (by omega) (by rw [hz2]; omega) (by omega)
  rw [hz1] at this
  simpa using this
set_option maxHeartbeats 400000 in
theorem ensure_grow (S : Nat → Prop) (A : Option Addr) (n cap sz : Nat) (xs : List Value) (w : World) (hn : n = xs.length) (hr : Reads w S 1 A n xs) (hS : Old w S) (hone : ∀ u ∈ xs, u.oneCell' = true) (hc : n ≤ cap) (hroom : cap < n + sz) (hlen : n + sz ≤ 35184372088832) :
    Calls Try.prog 39 #[.slice A n cap, .int .i64 sz] w fun e w' => ∃ c', e = .returned (.tuple #[.slice (some ⟨w.heap.size, 0, none⟩) (n + sz) c', .int .i64 n]) ∧ n + sz ≤ c' ∧ c' ≤ maxLen ∧ Row w' 5 w.heap.size c' xs ∧ Below w.heap.size w w' := by
  subst hn
  obtain ⟨Z, hZ, hmk⟩ := make5 (2 * cap + sz) (by omega)
  have e : (((2 * cap + sz : Nat)) : Int) = 2 * (cap : Int) + sz := by omega
  rw [e] at hmk
  clear e
  have HZ := hide hZ
  clear hZ
  have hZ1 : xs.length ≤ Z.length := by have := unhide HZ; omega
  go_enter Try.func39, Try.ntmps39
  go_wp2_with (refine wpList_copy_splice rfl (.tmp 24) (.tmp 25) 22 22 rfl 5 ?hu ?hsz (some ⟨w.heap.size, 0, none⟩) A (2 * cap + sz) (2 * cap + sz) xs.length cap ?hd ?hs w.heap.size 0 Z 5 ?hg xs ?hn ?hpos ?hfit hone w.heap.size w ?hb (Nat.le_refl _) ?_; (case hu => exact Try.underlying22); (case hsz => kernel_rfl); (case hd => rfl); (case hs => rfl); (case hg => exact heap_alloc_new w _); (case hn => exact (Nat.min_eq_left (show xs.length ≤ 2 * cap + sz by omega)).symm); (case hpos => intro h0; exact ⟨rfl, (hr.2 h0).imp fun ad h => ⟨h.1, fun j v hv => (World.cell?_alloc_lt w _ _ (by rw [block_of_add]; exact hS _ h.2.1)).trans (h.2.2 j v hv)⟩⟩); (case hfit => omega); (case hb => exact (Below.refl _ _).alloc (Nat.le_refl _) _); intro w2 HG2 hB2)
  go_ret2
  refine ⟨2 * cap + sz, rfl, by omega, by unfold maxLen; omega, ⟨(splice Z 0 xs).toArray, HG2.out, ?_, by omega, ?_⟩, hB2⟩
  · have := length_splice Z 0 xs (by omega)
    simp [this]
    exact unhide HZ
  · simp [splice]
end Go.Proofs.Ytlnpiigdjjadiaa
