/-
  A list of byte slices that the call itself makes (may, in Forms.putInt and putExt): each owns bytes that P takes. And: append of a string's bytes as a step. Conditions: none.
-/
import Derived.Test.YtlnpiigdjjadiaaDoorGGetSetBytee
import Derived.Lib.AppendStr
namespace Go.Proofs.YtlnpiigdjjadiaaDoor
set_option linter.unusedSimpArgs false
set_option linter.unusedVariables false
open Go.RowKit
theorem infoBs : (Tryd.prog.info? 24).map (fun i => (i.zero, i.size, i.bytes)) = some (some (.slice none 0 0), 1, 24) := by kernel_rfl
theorem own_base {w : World} {b b' : Nat} {e : TypeId} {size : Nat} {v : Value} {n : Nat} {xs : List Value} (h : w.ownsRow b e size v n xs) (hb : b' ≤ b) : w.ownsRow b' e size v n xs :=
  ⟨h.1, h.2.imp id fun ⟨g, cap, cur, a, b, r⟩ => ⟨g, cap, cur, a, Nat.le_trans hb b, r⟩⟩
/-- v is a list of n byte slices, each of which owns bytes that P takes. -/
def May (w0 : Nat) (P : List UInt8 → Prop) (w : World) (v : Value) (n : Nat) : Prop :=
  ∃ vs : List Value, vs.length = n ∧ w.ownsRow w0 24 1 v n vs ∧ ∀ u ∈ vs, ∃ bs, P bs ∧ (∃ A c, u = .slice A bs.length c) ∧ w.ownsRow w0 5 1 u bs.length (bs.map u8)
theorem May.nil (w0 : Nat) (P : List UInt8 → Prop) (w : World) : May w0 P w (.slice none 0 0) 0 := ⟨[], rfl, World.ownsRow_nil _ _ _ _, fun _ h => by simp at h⟩
theorem own_kept_ty {w w' : World} {w0 b' : Nat} {e e' : TypeId} {size size' n n' : Nat} {u v : Value} {xs ys : List Value} (h : w.ownsRow w0 e size u n xs) (hv : w.ownsRow b' e' size' v n' ys) (hne : e ≠ e') (hg : w.grownBy w' v.ownBlock) : w'.ownsRow w0 e size u n xs := by
  refine h.kept hg ?_
  rcases h.2 with ⟨rfl, _⟩ | ⟨g, cap, cur, rfl, _, hgb, _⟩
  · exact .inl rfl
  · right
    rcases hv.2 with ⟨rfl, _⟩ | ⟨g', cap', cur', rfl, _, hgb', _⟩
    · simp [Value.ownBlock]
    · intro he
      simp only [Value.ownBlock, Option.some.injEq] at he
      subst he
      rw [hgb] at hgb'
      injection hgb' with h1
      injection h1 with _ h2
      exact hne h2
theorem blk_kept_ty {w w' : World} {b' : Nat} {e e' : TypeId} {size' n' g : Nat} {cs : Array Value} {v : Value} {ys : List Value} (h : Blk w g e cs) (hv : w.ownsRow b' e' size' v n' ys) (hne : e ≠ e') (hg : w.grownBy w' v.ownBlock) : Blk w' g e cs := by
  refine (hg.block g h.lt ?_).trans h
  intro he
  rcases hv.2 with ⟨rfl, _⟩ | ⟨g', cap', cur', rfl, _, hgb', _⟩
  · simp [Value.ownBlock] at he
  · simp only [Value.ownBlock, Option.some.injEq] at he
    subst he
    unfold Blk at h
    rw [h] at hgb'
    injection hgb' with h1
    injection h1 with _ h2
    exact hne h2
theorem May.below {w0 : Nat} {P : List UInt8 → Prop} {w w' : World} {v : Value} {n : Nat} (h : May w0 P w v n) (hb : Below w.heap.size w w') : May w0 P w' v n := by
  obtain ⟨vs, h1, h2, h3⟩ := h
  exact ⟨vs, h1, own_below h2 hb, fun u hu => by obtain ⟨bs, a, b, c⟩ := h3 u hu; exact ⟨bs, a, b, own_below c hb⟩⟩
theorem May.kept {w0 : Nat} {P : List UInt8 → Prop} {w w' : World} {v : Value} {n : Nat} {row : Option Nat} (h : May w0 P w v n) (hg : w.grownBy w' row) (hr : ∀ k, row = some k → k < w0 ∨ w.heap.size ≤ k) : May w0 P w' v n := by
  have key : ∀ {e : TypeId} {u : Value} {m : Nat} {xs : List Value}, w.ownsRow w0 e 1 u m xs → w'.ownsRow w0 e 1 u m xs := by
    intro e u m xs hu
    refine hu.kept hg ?_
    rcases hk : u.ownBlock with _ | k
    · exact .inl rfl
    · right
      intro he
      have h1 := own_ge' hu k hk
      have h2 := hr k he.symm
      omega
  obtain ⟨vs, h1, h2, h3⟩ := h
  exact ⟨vs, h1, key h2, fun u hu => by obtain ⟨bs, a, b, c⟩ := h3 u hu; exact ⟨bs, a, b, key c⟩⟩
/-- One more slice, appended. -/
theorem wpList_may {Q : Exit → Act → World → Prop} {ops : Array Oper} {rest : List Oper} {o : Oper} {a : Act} {w : World} (hgd : o.guard = none) (s x : Operand)
    (ho : o.op = .call { callee := .builtin .append, args := #[s, x], argTypes := #[95, 95] })
    (w0 : Nat) (P : List UInt8 → Prop) (v : Value) (n b : Nat) (u : Value) (bs : List UInt8) (hs : a.eval s = v) (hx : a.eval x = .slice (some ⟨b, 0, none⟩) 1 1)
    (hm : May w0 P w v n) (hb : Blk w b 24 #[u]) (hu : w.ownsRow w0 5 1 u bs.length (bs.map u8)) (hsl : ∃ A c, u = .slice A bs.length c) (hP : P bs) (hn : n ≤ 100000) (hw0 : w0 ≤ w.heap.size)
    (h : ∀ v' w', May w0 P w' v' (n + 1) → (∀ B t cs, w0 ≤ B → t ≠ 24 → Blk w B t cs → Blk w' B t cs) → Below w0 w w' → wpList Tryd.prog ops Q rest (a.put o.dst v') w') : wpList Tryd.prog ops Q (o :: rest) a w := by
  obtain ⟨vs, hvs, hmo, hel⟩ := hm
  obtain ⟨i0, hi0, hz0, hz1', hz2⟩ := info_parts infoBs
  refine wpList_append_any (S := fun _ => True) w hgd s x 95 ho w0 24 i0 _ 1 24 Tryd.underlying95 hi0 hz0 hz1' hz2 rfl (by omega) v n vs hs hmo (some ⟨b, 0, none⟩) 1 1 [u] hx (reads_blk (S := fun _ => True) hb trivial 1 1 rfl) ?_ (by unfold maxLen; omega) (by omega) hw0 ?_
  · intro y hy
    obtain ⟨A, c, rfl⟩ := hsl
    simp only [List.mem_cons, List.not_mem_nil, or_false] at hy
    subst hy
    rfl
  · intro v' w' hown hg hat
    refine h v' w' ⟨vs ++ [u], by simp [hvs], hown, ?_⟩ (fun B t cs _ ht hB => blk_kept_ty hB hmo ht hg) ((Below.refl _ _).grown hg hw0 (fun k hk => (own_ge' hmo k hk).1))
    intro y hy
    rcases List.mem_append.1 hy with hy | hy
    · obtain ⟨bs', a1, a2, a3⟩ := hel y hy
      exact ⟨bs', a1, a2, own_kept_ty a3 hmo (by decide) hg⟩
    · simp only [List.mem_cons, List.not_mem_nil, or_false] at hy
      subst hy
      exact ⟨bs, hP, hsl, own_kept_ty hu hmo (by decide) hg⟩
/-- The slice chosen. -/
theorem May.at_ {w0 : Nat} {P : List UInt8 → Prop} {w : World} {v : Value} {n k : Nat} (h : May w0 P w v n) (hk : k < n) :
    ∃ g c A' c' bs, v = .slice (some ⟨g, 0, none⟩) n c ∧ g < w.heap.size ∧ n ≤ c ∧ c ≤ maxLen ∧ w.cell? ⟨g, k, none⟩ = some (.slice A' bs.length c') ∧ P bs ∧ w.ownsRow w0 5 1 (.slice A' bs.length c') bs.length (bs.map u8) := by
  obtain ⟨vs, h1, h2, h3⟩ := h
  rcases own_row h2 with ⟨_, rfl, _⟩ | ⟨g, cap, rfl, _, hcm, hnc, _, hrow⟩
  · omega
  · have hl : k < vs.length := by omega
    obtain ⟨bs, a, ⟨A', c', b⟩, c⟩ := h3 vs[k] (List.getElem_mem hl)
    have hcell := hrow.at_ (List.getElem?_eq_getElem hl)
    rw [b] at c hcell
    exact ⟨g, cap, A', c', bs, rfl, hrow.lt, hnc, hcm, hcell, a, c⟩
theorem u8_strCells (bs : List UInt8) : Lib.strCells ⟨bs.toArray⟩ = bs.map u8 := by simp [Lib.strCells, u8]
theorem wp_append_str {P : Program} {o : Oper} {a : Act} {w : World} {K : Act → World → Prop} {Q : Exit → Act → World → Prop} (s x : Operand) (t u : TypeId)
    (ho : o.op = .call { callee := .builtin .append, args := #[s, x], argTypes := #[t, u] })
    (base : Nat) (e : TypeId) (i : TypeInfo) (ht : P.underlying t = some (.slice e)) (hu : P.underlying u = some .string) (hi : P.info? e = some i) (hz : i.zero = some (.int .u8 0))
    (hsize : i.size = 1) (hby : i.bytes = 1) (v : Value) (n : Nat) (xs : List Value) (hs : a.eval s = v) (hown : w.ownsRow base e 1 v n xs)
    (bs : List UInt8) (hx : a.eval x = .string ⟨bs.toArray⟩) (h63 : n + bs.length ≤ 140737488355328) (hbase : base ≤ w.heap.size)
    (h : ∀ v' w', w'.ownsRow base e 1 v' (n + bs.length) (xs ++ bs.map u8) → w.grownBy w' v.ownBlock → K (a.put o.dst v') w') : o.wp P a w K Q := by
  have hsz : (⟨bs.toArray⟩ : ByteArray).size = bs.length := by simp [ByteArray.size]
  obtain ⟨v', w', hrun, h2, h3, h4⟩ := Lib.run_append_own_string (P := P) w base t u o.type e i ht hu hi hz hsize hby v n xs hown ⟨bs.toArray⟩ (by rw [hsz]; unfold maxLen; omega) (by rw [hsz]; omega) hbase
  rw [hsz, u8_strCells] at h2
  unfold Oper.wp execOp
  simp only [ho, resolve, invoke, builtin, Sem.run_bind, Sem.run_pure, Result.andThen_ok, List.map_toArray, List.map_cons, List.map_nil, hs, hx, hrun]
  exact h v' w' h2 h3
/-- append of a string's bytes, as one step of a region that draws. -/
theorem step_append_str {P : Program} {ops : Array Oper} {o : Oper} {a : Act} {w : World} {K : Act → World → Prop} {Q : Exit → Act → World → Prop} {E : Prop} (hgd : o.guard = none) (s x : Operand) (t u : TypeId)
    (ho : o.op = .call { callee := .builtin .append, args := #[s, x], argTypes := #[t, u] })
    (base : Nat) (e : TypeId) (i : TypeInfo) (ht : P.underlying t = some (.slice e)) (hu : P.underlying u = some .string) (hi : P.info? e = some i) (hz : i.zero = some (.int .u8 0))
    (hsize : i.size = 1) (hby : i.bytes = 1) (v : Value) (n : Nat) (xs : List Value) (hs : a.eval s = v) (hown : w.ownsRow base e 1 v n xs)
    (bs : List UInt8) (hx : a.eval x = .string ⟨bs.toArray⟩) (h63 : n + bs.length ≤ 140737488355328) (hbase : base ≤ w.heap.size)
    (h : ∀ v' w', w'.ownsRow base e 1 v' (n + bs.length) (xs ++ bs.map u8) → w.grownBy w' v.ownBlock → K (a.put o.dst v') w') :
    if Region.wanted o (yielded ops a.tmps) = true then Oper.wp P o a w K Q else E := by
  have hw : Region.wanted o (yielded ops a.tmps) = true := by simp [Region.wanted, hgd]
  rw [if_pos hw]
  exact wp_append_str s x t u ho base e i ht hu hi hz hsize hby v n xs hs hown bs hx h63 hbase h
end Go.Proofs.YtlnpiigdjjadiaaDoor
