/-
  What the reading of a laws.Given gives a walk. Conditions: none.
-/
import Derived.Test.YtpmcljjhjjmlfaaOpen
import Derived.Test.YtpmcljjhjjmlfaaForms
namespace Go.Proofs.Ytpmcljjhjjmlfaa
set_option linter.unusedSimpArgs false
set_option linter.unusedVariables false
set_option linter.unusedVariables false
open Go.RowKit Go.ChangeShapes Go.WideShapes
theorem cof_given : Try.prog.cellsOf 28 = 9 := by kernel_rfl
theorem cof_bool : Try.prog.cellsOf 4 = 1 := by kernel_rfl
theorem cof_bytes : Try.prog.cellsOf 26 = 1 := by kernel_rfl
/-- The nine cells of a laws.Given and what they lead to. -/
structure GivenIn (W : World) (cs : Array Value) (p : Pack) (k n : Int) (T : ByteArray) (e : Int) (K : Option Addr) (m kc fm : Nat) (sh : Bool) (B : Option Addr) (bl bc : Nat) (zs : List UInt8) (cut : Int) : Prop where
  cells : cs = #[.int .i64 k, .int .u64 n, .string T, .int .i64 e, .slice K m kc, .int .u64 fm, .bool sh, .slice B bl bc, .int .i64 cut]
  pack : PackC W (Lt W.heap.size) p [.int .i64 k, .int .u64 n, .string T, .int .i64 e, .slice K m kc]
  wf : WfP p
  forms : fm < 18446744073709551616
  len : bl = zs.length
  cap : bl ≤ bc
  cap2 : bc ≤ 9223372036854775807
  behind : RB W (Lt W.heap.size) B zs
set_option maxRecDepth 100000 in
theorem given_of_trod {H : Type} {enc : TypeId × Value → H} (W : World) (cs : Array Value) (d : DataW H) (ps : List MemPlace) (h : ∃ fuel, DataW.trod enc Try.prog W 0 (fun _ => true) true fuel 28 cs.toList = some (d, ps)) :
    ∃ p k n T e K m kc fm sh B bl bc zs cut, GivenIn W cs p k n T e K m kc fm sh B bl bc zs cut := by
  obtain ⟨fuel, h⟩ := h
  obtain ⟨xs, n, rfl, hx, hl, hlen, hf⟩ := DataW.trod_struct Try.underlying28 h
  rw [cof_given] at hl
  rcases cs with ⟨cs⟩
  simp only at h hl hf
  match cs, hl, xs, hlen with
  | [c0, c1, c2, c3, c4, c5, c6, c7, c8], _, [y0, y1, y2, y3, y4], _ =>
    have f0 : DataW.trod enc Try.prog W 0 (fun _ => true) true n 25 (([c0, c1, c2, c3, c4, c5, c6, c7, c8].drop 0).take (Try.prog.cellsOf 25)) = some y0 := hf 0 _ rfl
    have f1 : DataW.trod enc Try.prog W 0 (fun _ => true) true n 22 (([c0, c1, c2, c3, c4, c5, c6, c7, c8].drop 5).take (Try.prog.cellsOf 22)) = some y1 := hf 1 _ rfl
    have f2 : DataW.trod enc Try.prog W 0 (fun _ => true) true n 4 (([c0, c1, c2, c3, c4, c5, c6, c7, c8].drop 6).take (Try.prog.cellsOf 4)) = some y2 := hf 2 _ rfl
    have f3 : DataW.trod enc Try.prog W 0 (fun _ => true) true n 26 (([c0, c1, c2, c3, c4, c5, c6, c7, c8].drop 7).take (Try.prog.cellsOf 26)) = some y3 := hf 3 _ rfl
    have f4 : DataW.trod enc Try.prog W 0 (fun _ => true) true n 3 (([c0, c1, c2, c3, c4, c5, c6, c7, c8].drop 8).take (Try.prog.cellsOf 3)) = some y4 := hf 4 _ rfl
    simp only [cof_pack, cof_int, cof_u64, cof_bool, cof_bytes, List.drop_zero, List.drop_succ_cons, List.take_succ_cons, List.take_zero, List.getElem?_cons_zero, List.getElem?_cons_succ] at f0 f1 f2 f3 f4
    obtain ⟨p, hp, hwp⟩ := pack_of_trod W n n _ _ (Nat.le_refl _) f0
    obtain ⟨k, nn, T, e, K, m, kc, rfl, rfl, rfl, rfl, rfl⟩ : ∃ k n t e K m kc, c0 = .int .i64 k ∧ c1 = .int .u64 n ∧ c2 = .string t ∧ c3 = .int .i64 e ∧ c4 = .slice K m kc := by
      cases p with
      | mk k n t e ps =>
      have hp2 := hp
      unfold PackC at hp2
      obtain ⟨K, kc, xs, hc, _⟩ := hp2
      simp only [List.cons.injEq, and_true] at hc
      obtain ⟨rfl, rfl, rfl, rfl, rfl⟩ := hc
      exact ⟨_, _, _, _, _, _, _, rfl, rfl, rfl, rfl, rfl⟩
    obtain ⟨fm, e1, _, hw1⟩ := DataW.trod_int Try.underlying22 f1
    obtain ⟨sh, e2, _⟩ := DataW.trod_bool Try.underlying4 f2
    obtain ⟨cut, e4, _, _⟩ := DataW.trod_int Try.underlying3 f4
    simp only [List.cons.injEq, and_true] at e1 e2 e4
    subst e1 e2 e4
    have hn : 0 ≤ fm ∧ fm ≤ 18446744073709551615 := by simpa [Lit.wf, IntKind.min, IntKind.max, IntKind.signed, IntKind.bits] using hw1
    obtain ⟨fm, rfl⟩ := Int.eq_ofNat_of_zero_le hn.1
    obtain ⟨B, bl, bc, zi, rfl, hrow⟩ : ∃ B bl bc zi, c7 = .slice B bl bc ∧ RowIn .u8 W B bl bc zi := by
      rcases open_ints Try.underlying26 Try.underlying5 (by kernel_rfl) f3 with ⟨hcs, _⟩ | ⟨x, l, c, zs, hcs, _, hl, hm, hz, _, hcell, hwz⟩
      · simp only [List.cons.injEq, and_true] at hcs
        exact ⟨none, 0, 0, [], hcs, .inl ⟨rfl, rfl, rfl, rfl⟩⟩
      · simp only [List.cons.injEq, and_true] at hcs
        exact ⟨some x, l, c, zs, hcs, .inr ⟨_, rfl, hl, hm, by simpa using hz, hcell, hwz⟩⟩
    obtain ⟨zs, h1, h2, h3, h4⟩ := bytes_of_row hrow
    unfold maxLen at h4
    exact ⟨p, k, nn, T, e, K, m, kc, fm, sh, B, bl, bc, zs, cut, ⟨rfl, hp, hwp, by omega, h1, h3, h4, h2⟩⟩
end Go.Proofs.Ytpmcljjhjjmlfaa
