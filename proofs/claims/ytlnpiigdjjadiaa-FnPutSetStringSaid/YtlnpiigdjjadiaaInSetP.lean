/-
  Plain: a list's values, each once, by their order.
-/
import Derived.Test.YtlnpiigdjjadiaaOwn
import Derived.Test.YtlnpiigdjjadiaaPuts
import Derived.Deep.QuietTactic
import Derived.BigQuiet
import Derived.BigRegion
import Derived.BigGuardPart
import Derived.ArgAppend
import Derived.Deep.RegionWith
import Derived.Deep.RegionHeld3
namespace Go.Proofs.Ytlnpiigdjjadiaa
set_option linter.unusedSimpArgs false
set_option linter.unusedVariables false
open Go.RowKit
theorem Blk.newS' (w : World) {t : TypeId} {cs : Array Value} : Blk ((w.alloc (.cells cs t)).drew) w.heap.size t cs := Blk.new w t cs
theorem ints_one (k : IntKind) (xs : List Int) : ∀ u ∈ xs.map (Value.int k), u.oneCell' = true := by
  intro u hu
  obtain ⟨x, _, rfl⟩ := List.mem_map.1 hu
  rfl
theorem own_one' {w : World} {g : Nat} {t : TypeId} {u : Value} {base : Nat} (h : Blk w g t #[u]) (hb : base ≤ g) : w.ownsRow base t 1 (.slice (some ⟨g, 0, none⟩) 1 1) 1 [u] := ⟨rfl, .inr ⟨g, 1, #[u], rfl, hb, h, Nat.le_refl _, by unfold maxLen; omega, rfl, rfl⟩⟩
theorem step_append_run {P : Program} {ops : Array Oper} {o : Oper} {a : Act} {w : World} {K : Act → World → Prop} {Q : Exit → Act → World → Prop} {E : Prop} (hgd : o.guard = none) (s x : Operand) (t : TypeId)
    (ho : o.op = .call { callee := .builtin .append, args := #[s, x], argTypes := #[t, t] }) (sv xv v : Value) (w' : World) (hs : a.eval s = sv) (hx : a.eval x = xv) (hrun : (Builtin.append_ #[t, t] o.type #[sv, xv]).run P w = .ok v w') (h : K (a.put o.dst v) w') :
    if Region.wanted o (yielded ops a.tmps) = true then Oper.wp P o a w K Q else E := by
  have hw : Region.wanted o (yielded ops a.tmps) = true := by simp [Region.wanted, hgd]
  rw [if_pos hw]
  unfold Oper.wp execOp
  simp only [ho, resolve, invoke, builtin, Sem.run_bind, Sem.run_pure, Result.andThen_ok, List.map_toArray, List.map_cons, List.map_nil, hs, hx, hrun]
  exact h
theorem own_baseS {w : World} {b b' : Nat} {e : TypeId} {size : Nat} {v : Value} {n : Nat} {xs : List Value} (h : w.ownsRow b e size v n xs) (hb : b' ≤ b) : w.ownsRow b' e size v n xs := by
  refine ⟨h.1, ?_⟩
  rcases h.2 with h1 | ⟨g, cap, cur, rfl, h1, h2⟩
  · exact .inl h1
  · exact .inr ⟨g, cap, cur, rfl, Nat.le_trans hb h1, h2⟩
/-- How many stand ahead of x. -/
def ahead (x : Int) : List Int → Nat
  | [] => 0
  | y :: ys => if y < x then ahead x ys + 1 else 0
theorem ahead_le (x : Int) : ∀ ys, ahead x ys ≤ ys.length
  | [] => Nat.le_refl _
  | y :: ys => by
    unfold ahead
    split
    · have := ahead_le x ys
      simp
      omega
    · omega
theorem ahead_lt (x : Int) : ∀ (ys : List Int) (j : Nat) (h : j < ahead x ys), ∃ h2 : j < ys.length, ys[j] < x
  | [], j, h => by simp [ahead] at h
  | y :: ys, j, h => by
    unfold ahead at h
    split at h
    · rename_i hy
      rcases j with _ | j
      · exact ⟨by simp, hy⟩
      · obtain ⟨h2, h3⟩ := ahead_lt x ys j (by omega)
        exact ⟨by simp; omega, by simpa using h3⟩
    · omega
theorem ahead_at (x : Int) : ∀ (ys : List Int) (h : ahead x ys < ys.length), ¬ ys[ahead x ys] < x
  | [], h => by simp at h
  | y :: ys, h => by
    by_cases hy : y < x
    · have e : ahead x (y :: ys) = ahead x ys + 1 := by simp [ahead, hy]
      have h2 : ahead x ys < ys.length := by rw [e] at h; simp at h; omega
      have h3 := ahead_at x ys h2
      have e2 : (y :: ys)[ahead x (y :: ys)] = ys[ahead x ys] := by
        have : (y :: ys)[ahead x (y :: ys)]? = ys[ahead x ys]? := by rw [e]; rfl
        rw [List.getElem?_eq_getElem h, List.getElem?_eq_getElem h2] at this
        exact Option.some.inj this
      rw [e2]
      exact h3
    · have e : ahead x (y :: ys) = 0 := by simp [ahead, hy]
      have e2 : (y :: ys)[ahead x (y :: ys)] = y := by
        have : (y :: ys)[ahead x (y :: ys)]? = some y := by rw [e]; rfl
        rw [List.getElem?_eq_getElem h] at this
        exact Option.some.inj this
      rw [e2]
      exact hy
/-- x laid into a list that is in order, unless it is there. -/
def insL (x : Int) (ys : List Int) : List Int := if ys[ahead x ys]? = some x then ys else ys.take (ahead x ys) ++ x :: ys.drop (ahead x ys)
def setL (zs : List Int) : List Int := zs.foldl (fun ys x => insL x ys) []
theorem setL_snoc (zs : List Int) (x : Int) : setL (zs ++ [x]) = insL x (setL zs) := by simp [setL]
theorem insL_len (x : Int) (ys : List Int) : (insL x ys).length ≤ ys.length + 1 := by
  unfold insL
  split
  · omega
  · rw [List.length_append, List.length_cons, List.length_take, List.length_drop]
    have := ahead_le x ys
    omega
theorem setL_len (zs : List Int) : (setL zs).length ≤ zs.length := by
  have h : ∀ (zs acc : List Int), (zs.foldl (fun ys x => insL x ys) acc).length ≤ acc.length + zs.length := by
    intro zs
    induction zs with
    | nil => intro acc; simp
    | cons z zs ih =>
      intro acc
      have h1 := ih (insL z acc)
      have h2 := insL_len z acc
      rw [List.foldl_cons, List.length_cons]
      omega
  have := h zs []
  simpa [setL] using this
end Go.Proofs.Ytlnpiigdjjadiaa
