/-
  Lemmas, 3 texts in one: Put1, Puts, BlkT. Each says its conditions.
-/
import Derived.Test.YtlnpiigdjjadiaaDoorProg
import Derived.Test.YtlnpiigdjjadiaaDoorGJSONSetInt16a

/-
  What the appending functions of msgp lean on: a copy of bytes (impl.copied), room behind a slice (msgp.ensure).
-/
namespace Go.Proofs.YtlnpiigdjjadiaaDoor
set_option linter.unusedSimpArgs false
set_option linter.unusedVariables false
open Go.RowKit
theorem info5 : (Tryd.prog.info? 5).map (fun i => (i.zero, i.size, i.bytes)) = some (some (.int .u8 0), 1, 1) := by kernel_rfl
set_option maxHeartbeats 400000 in
theorem copied_any (S : Nat → Prop) (A : Option Addr) (bs : List UInt8) (n cap : Nat) (w : World) (hn : n = bs.length) (hr : RB w S A bs) (hS : Old w S) (hlen : bs.length ≤ 70368744177664) :
    Calls Tryd.prog 26 #[.slice A n cap] w fun e w' => ∃ v, e = .returned v ∧ w'.ownsRow w.heap.size 5 1 v bs.length (bs.map u8) ∧ Below w.heap.size w w' := by
  subst hn
  go_enter Tryd.func26, Tryd.ntmps26
  go_wp2_with (at_builtin; obtain ⟨i0, hi0, hz0, hz1', hz2⟩ := info_parts info5; refine wpList_append_any (S := S) _ rfl (.tmp 3) (.tmp 4) _ rfl w.heap.size 5 i0 _ 1 1 Tryd.underlying24 hi0 hz0 hz1' hz2 ?x1 ?x2 (.slice (some ⟨w.heap.size, 0, none⟩) 0 0) 0 [] ?x3 ?x8 A bs.length cap (bs.map u8) ?x4 ?x5 (u8_one bs) ?c3 ?x7 ?c4 ?_; (case x1 => rfl); (case x2 => omega); (case x3 => rfl); (case x4 => rfl); (case x5 => exact hr.keep (by go_simp)); (case x7 => omega); (case x8 => exact World.ownsRow_made w #[] 0 (Nat.le_refl _) (Nat.zero_le _) rfl); (case c3 => unfold maxLen; omega); (case c4 => simp); clear hi0 hz0 hz1' hz2; intro v1 w1 hown hgrow hat)
  go_ret
  refine ⟨v1, rfl, by simpa using hown, ?_⟩
  exact ((by repeat (first | with_reducible exact Below.refl _ _ | with_reducible exact x | with_reducible refine Below.alloc ?_ (by first | omega | (simp; omega) | (simp; done)) _ | with_reducible refine Below.setCell ?_ (by first | omega | (simp; omega) | (simp; done)) _ | with_reducible refine Below.drew ?_ | with_reducible refine below_drewN ?_ _)) : Below w.heap.size w (w.alloc _)).grown hgrow (by simp) (fun k hk => by simp [Value.ownBlock] at hk; omega)
theorem make5 (c : Nat) (hc : c ≤ 281474976710656) : ∃ Z : List Value, Z.length = c ∧ ∀ W : World, (Instr.makeSlice 24 (.int .i64 (c : Int)) (.int .i64 (c : Int))).run Tryd.prog W = .ok (.slice (some ⟨W.heap.size, 0, none⟩) c c) (W.alloc (.cells Z.toArray 5)) := by
  obtain ⟨i0, hi0, hz0, hz1, hz2⟩ := info_parts info5
  refine ⟨(madeCells (Value.cells (.int .u8 0)) (c * 1)).toList, by simp [size_madeCells], fun W => ?_⟩
  have := run_make (P := Tryd.prog) W 24 5 i0 _ Tryd.underlying24 hi0 hz0 .i64 .i64 c c (by omega) (by omega) (by rw [hz2]; omega) (by omega)
  rw [hz1] at this
  simpa using this
end Go.Proofs.YtlnpiigdjjadiaaDoor

/-
  The small writers of msgp (integers.go): each writes a code and the bytes of a number behind what a row holds. Conditions: there is room in the row.
-/
namespace Go.Proofs.YtlnpiigdjjadiaaDoor
set_option linter.unusedSimpArgs false
set_option linter.unusedVariables false
open Go.RowKit
/-- The bytes of a number, s of them, the highest first. -/
def be : Int → Nat → List UInt8
  | _, 0 => []
  | x, s + 1 => be (x / 256) s ++ [UInt8.ofNat (x % 256).toNat]
theorem u8_ofInt (x : Int) : u8 (UInt8.ofNat (x % 256).toNat) = .int .u8 (x % 256) := by
  unfold u8
  simp
  omega
theorem Row.cast {w : World} {t : TypeId} {g cap : Nat} {xs ys : List Value} (e : xs = ys) (h : Row w t g cap xs) : Row w t g cap ys := e ▸ h
end Go.Proofs.YtlnpiigdjjadiaaDoor

/-
  A block that was just built, read as a row. No condition.
-/
namespace Go.Proofs.YtlnpiigdjjadiaaDoor
set_option linter.unusedSimpArgs false
set_option linter.unusedVariables false
set_option linter.unusedVariables false
open Go.RowKit
theorem reads_blkT {w : World} {S : Nat → Prop} {g : Nat} {t : TypeId} {cs : Array Value} (h : Blk w g t cs) (hS : S g) (size n : Nat) (hn : cs.size = n * size) : Reads w S size (some ⟨g, 0, none⟩) n cs.toList := by
  refine ⟨by simpa using hn, fun _ => ⟨_, rfl, hS, fun j u hu => ?_⟩⟩
  have := h.cell j
  rw [Array.getElem?_toList] at hu
  rw [hu] at this
  rcases j with _ | j
  · exact this
  · simpa [Addr.add] using this
theorem Blk.newT {w : World} {t : TypeId} {cs : Array Value} {g : Nat} (h : w.heap.size = g) : Blk (w.alloc (.cells cs t)) g t cs := h ▸ Blk.new _ _ _
theorem fivesT {k n : Int} {t : ByteArray} {e : Int} : ∀ u ∈ [Value.int .i64 k, .int .u64 n, .string t, .int .i64 e, .slice none 0 0], u.oneCell' = true := by
  intro u hu
  simp only [List.mem_cons, List.not_mem_nil, or_false] at hu
  rcases hu with rfl | rfl | rfl | rfl | rfl <;> rfl
theorem infoPkT : (Tryd.prog.info? 29).map (fun i => (i.zero, i.size, i.bytes)) = some (some (.agg #[.int .i64 0, .int .u64 0, .string ⟨#[]⟩, .int .i64 0, .slice none 0 0]), 5, 64) := by kernel_rfl
end Go.Proofs.YtlnpiigdjjadiaaDoor
