/-
  copy into a row: what the row then holds, and that nothing else has turned. Conditions: none.
-/
import Derived.Test.YtlnpiigdjjadiaaKeeps
import Derived.Deep.RegionLaw
namespace Go.Proofs.Ytlnpiigdjjadiaa
set_option linter.unusedSimpArgs false
set_option linter.unusedVariables false
open Go.RowKit
section
variable {P : Program} {w : World}
theorem run_copy_into (dT sT ty elem : TypeId) (S : Nat → Prop) (A dp : Option Addr) (g off dLen dCap sLen sCap cap : Nat) (t : TypeId) (xs ys cs : List Value) (hu : P.underlying dT = some (.slice elem)) (hsz : (P.info? elem).map (·.size) = some 1)
    (hr : Row w t g cap xs) (hoff : xs.length = off) (hy : Reads w S 1 A sLen ys) (hcs : cs = ys.take (Nat.min sLen dLen)) (hdp : 0 < cs.length → dp = some ⟨g, off, none⟩) (hfit : off + cs.length ≤ cap) (h1 : ∀ v ∈ cs, v.oneCell' = true) :
    ∃ w', (Builtin.copy_ #[dT, sT] ty #[.slice dp dLen dCap, .slice A sLen sCap]).run P w = .ok (goInt cs.length) w' ∧ Row w' t g cap (xs ++ cs) ∧ Keeps (fun b => b = g) w w' := by
  have hn : cs.length = Nat.min sLen dLen := by
    rw [hcs, List.length_take, hy.len_]
    simp
  by_cases h0 : cs.length = 0
  · have he : cs = [] := List.eq_nil_of_length_eq_zero h0
    refine ⟨w, ?_, by rw [he, List.append_nil]; exact hr, Keeps.refl _ _⟩
    rw [h0]
    exact run_copy_none w dT sT ty elem dp A dLen dCap sLen sCap hu hsz (by rw [← hn]; exact h0)
  · obtain ⟨cur, hb, hcz, hl, ht⟩ := hr
    have hmn : Nat.min sLen dLen ≤ sLen := Nat.min_le_left _ _
    obtain ⟨ad, rfl, _, hcell⟩ := hy.2 (by omega)
    obtain rfl := hdp (by omega)
    have hsrc : ∀ j v, cs[j]? = some v → w.cell? (ad.add j) = some v := by
      intro j v hj
      refine hcell j v ?_
      rw [hcs, List.getElem?_take] at hj
      split at hj
      · exact hj
      · cases hj
    have hrun := run_copy_row (P := P) w dT sT ty elem g off dLen dCap ad sLen sCap cur t cs hu hsz hb hn hsrc (by omega) h1
    refine ⟨_, hrun, Row.spliced (w := w) hcz hoff (by rw [← hoff]; exact ht) hfit ?_, ?_⟩
    · simpa [splice] using setRow_heap w g _ _ t _ hb
    · exact ⟨below_setRow (Below.refl 0 w) (Nat.zero_le _) _, fun b _ hn => setRow_other w g b _ hn⟩
theorem step_copy_into {ops : Array Oper} {o : Oper} {a : Act} {K : Act → World → Prop} {Q : Exit → Act → World → Prop} {E : Prop} (hgd : o.guard = none) (d s : Operand) (dT sT : TypeId)
    (ho : o.op = .call { callee := .builtin .copy, args := #[d, s], argTypes := #[dT, sT] }) (elem : TypeId) (S : Nat → Prop) (A dp : Option Addr) (g off dLen dCap sLen sCap cap : Nat) (t : TypeId) (xs ys cs : List Value) (hu : P.underlying dT = some (.slice elem)) (hsz : (P.info? elem).map (·.size) = some 1)
    (hd : a.eval d = .slice dp dLen dCap) (hs : a.eval s = .slice A sLen sCap)
    (hr : Row w t g cap xs) (hoff : xs.length = off) (hy : Reads w S 1 A sLen ys) (hcs : cs = ys.take (Nat.min sLen dLen)) (hdp : 0 < cs.length → dp = some ⟨g, off, none⟩) (hfit : off + cs.length ≤ cap) (h1 : ∀ v ∈ cs, v.oneCell' = true)
    (h : ∀ w', Hid (Row w' t g cap (xs ++ cs)) → Hid (Keeps (fun b => b = g) w w') → K (a.put o.dst (goInt cs.length)) w') :
    if Region.wanted o (yielded ops a.tmps) = true then Oper.wp P o a w K Q else E := by
  have hw : Region.wanted o (yielded ops a.tmps) = true := by simp [Region.wanted, hgd]
  rw [if_pos hw]
  obtain ⟨w', hrun, h2, h3⟩ := run_copy_into (P := P) (w := w) dT sT o.type elem S A dp g off dLen dCap sLen sCap cap t xs ys cs hu hsz hr hoff hy hcs hdp hfit h1
  unfold Oper.wp
  simp [execOp, ho, resolve, invoke, builtin, hd, hs, hrun, Result.andThen]
  exact h _ h2 h3
theorem wpList_copy_into {ops : Array Oper} {rest : List Oper} {o : Oper} {a : Act} {Q : Exit → Act → World → Prop} (hgd : o.guard = none) (d s : Operand) (dT sT : TypeId)
    (ho : o.op = .call { callee := .builtin .copy, args := #[d, s], argTypes := #[dT, sT] }) (elem : TypeId) (S : Nat → Prop) (A dp : Option Addr) (g off dLen dCap sLen sCap cap : Nat) (t : TypeId) (xs ys cs : List Value) (hu : P.underlying dT = some (.slice elem)) (hsz : (P.info? elem).map (·.size) = some 1)
    (hd : a.eval d = .slice dp dLen dCap) (hs : a.eval s = .slice A sLen sCap)
    (hr : Row w t g cap xs) (hoff : xs.length = off) (hy : Reads w S 1 A sLen ys) (hcs : cs = ys.take (Nat.min sLen dLen)) (hdp : 0 < cs.length → dp = some ⟨g, off, none⟩) (hfit : off + cs.length ≤ cap) (h1 : ∀ v ∈ cs, v.oneCell' = true)
    (h : ∀ w', Hid (Row w' t g cap (xs ++ cs)) → Hid (Keeps (fun b => b = g) w w') → wpList P ops Q rest (a.put o.dst (goInt cs.length)) w') : wpList P ops Q (o :: rest) a w := by
  refine wpList_plain hgd fun K hK => ?_
  obtain ⟨w', hrun, h2, h3⟩ := run_copy_into (P := P) (w := w) dT sT o.type elem S A dp g off dLen dCap sLen sCap cap t xs ys cs hu hsz hr hoff hy hcs hdp hfit h1
  unfold Oper.wp
  simp [execOp, ho, resolve, invoke, builtin, hd, hs, hrun, Result.andThen]
  exact hK _ _ (h _ h2 h3)
end
end Go.Proofs.Ytlnpiigdjjadiaa
