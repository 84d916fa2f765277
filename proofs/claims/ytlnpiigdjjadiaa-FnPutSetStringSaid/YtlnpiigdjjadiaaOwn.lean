/-
  Words for a byte slice that the call itself owns: appends onto it, room for more, bytes written one behind the other.
-/
import Derived.Test.YtlnpiigdjjadiaaWords
namespace Go.Proofs.Ytlnpiigdjjadiaa
set_option linter.unusedSimpArgs false
set_option linter.unusedVariables false
open Go.RowKit
section
variable {P : Program} (w : World)
theorem run_append_of_nil (base : Nat) (t ty e : TypeId) (i : TypeInfo) (size : Nat) (ht : P.underlying t = some (.slice e)) (hi : P.info? e = some i)
    (v : Value) (n : Nat) (xs : List Value) (hown : w.ownsRow base e size v n xs) (c : Nat) : (Builtin.append_ #[t, t] ty #[v, .slice none 0 c]).run P w = .ok v w := by
  rcases hown.2 with ⟨rfl, rfl⟩ | ⟨g, cap, cur, rfl, _, _, hnc, _⟩
  · simp [Builtin.append_, run_underlying ht, sizeOf, typeInfo, hi, Builtin.lenOf, Builtin.firstCells]
  · simp [Builtin.append_, run_underlying ht, sizeOf, typeInfo, hi, Builtin.lenOf, Builtin.firstCells, hnc, storeCells]
theorem run_append_any {S : Nat → Prop} (base : Nat) (t ty e : TypeId) (i : TypeInfo) (z : Value) (size bytes : Nat) (ht : P.underlying t = some (.slice e)) (hi : P.info? e = some i) (hz : i.zero = some z)
    (hsize : i.size = size) (hby : i.bytes = bytes) (hzs : z.cells.size = size) (hsz : 0 < size)
    (v : Value) (n : Nat) (xs : List Value) (hown : w.ownsRow base e size v n xs)
    (A : Option Addr) (m c : Nat) (news : List Value) (hr : Reads w S size A m news) (h1 : ∀ u ∈ news, u.oneCell' = true)
    (h63 : n + m ≤ maxLen) (hbytes : (n + m) * bytes ≤ 140737488355328) (hbase : base ≤ w.heap.size) :
    ∃ v' w', (Builtin.append_ #[t, t] ty #[v, .slice A m c]).run P w = .ok v' w' ∧ w'.ownsRow base e size v' (n + m) (xs ++ news) ∧ w.grownBy w' v.ownBlock ∧
      (v'.ownBlock = v.ownBlock ∨ v'.ownBlock = some w.heap.size) := by
  rcases A with _ | ad
  · have hm : m = 0 := by
      rcases Nat.eq_zero_or_pos m with h0 | h0
      · exact h0
      · obtain ⟨ad, h, _⟩ := hr.2 h0
        cases h
    subst hm
    have hn : news = [] := List.eq_nil_of_length_eq_zero (by simpa using hr.1)
    subst hn
    exact ⟨v, w, run_append_of_nil w base t ty e i size ht hi v n xs hown c, by simpa using hown, World.grownBy.refl w _, .inl rfl⟩
  · have hcells : ∀ j u, news[j]? = some u → w.cell? (ad.add j) = some u := by
      intro j u hu
      rcases Nat.eq_zero_or_pos m with h0 | h0
      · subst h0
        have hn : news = [] := List.eq_nil_of_length_eq_zero (by simpa using hr.1)
        subst hn
        simp at hu
      · obtain ⟨ad', h, _, hc⟩ := hr.2 h0
        injection h with h
        subst h
        exact hc j u hu
    obtain ⟨v', w', hrun, h2, h3, _, h5⟩ := run_append_own_at (P := P) w base t ty e i z size bytes ht hi hz hsize hby hzs hsz v n xs hown ad m c news hr.1 hcells h1 h63 hbytes hbase
    exact ⟨v', w', hrun, h2, h3, h5⟩
theorem wp_append_any {S : Nat → Prop} {o : Oper} {a : Act} {K : Act → World → Prop} {Q : Exit → Act → World → Prop} (s x : Operand) (t : TypeId)
    (ho : o.op = .call { callee := .builtin .append, args := #[s, x], argTypes := #[t, t] })
    (base : Nat) (e : TypeId) (i : TypeInfo) (z : Value) (size bytes : Nat) (ht : P.underlying t = some (.slice e)) (hi : P.info? e = some i) (hz : i.zero = some z)
    (hsize : i.size = size) (hby : i.bytes = bytes) (hzs : z.cells.size = size) (hsz : 0 < size)
    (v : Value) (n : Nat) (xs : List Value) (hs : a.eval s = v) (hown : w.ownsRow base e size v n xs)
    (A : Option Addr) (m c : Nat) (news : List Value) (hx : a.eval x = .slice A m c) (hr : Reads w S size A m news) (h1 : ∀ u ∈ news, u.oneCell' = true)
    (h63 : n + m ≤ maxLen) (hbytes : (n + m) * bytes ≤ 140737488355328) (hbase : base ≤ w.heap.size)
    (h : ∀ v' w', w'.ownsRow base e size v' (n + m) (xs ++ news) → w.grownBy w' v.ownBlock → (v'.ownBlock = v.ownBlock ∨ v'.ownBlock = some w.heap.size) → K (a.put o.dst v') w') : o.wp P a w K Q := by
  obtain ⟨v', w', hrun, h2, h3, h4⟩ := run_append_any (P := P) w base t o.type e i z size bytes ht hi hz hsize hby hzs hsz v n xs hown A m c news hr h1 h63 hbytes hbase
  unfold Oper.wp execOp
  simp only [ho, resolve, invoke, builtin, Sem.run_bind, Sem.run_pure, Result.andThen_ok, List.map_toArray, List.map_cons, List.map_nil, hs, hx, hrun]
  exact h v' w' h2 h3 h4
theorem wpList_append_any {S : Nat → Prop} {ops : Array Oper} {rest : List Oper} {o : Oper} {a : Act} {Q : Exit → Act → World → Prop} (hgd : o.guard = none) (s x : Operand) (t : TypeId)
    (ho : o.op = .call { callee := .builtin .append, args := #[s, x], argTypes := #[t, t] })
    (base : Nat) (e : TypeId) (i : TypeInfo) (z : Value) (size bytes : Nat) (ht : P.underlying t = some (.slice e)) (hi : P.info? e = some i) (hz : i.zero = some z)
    (hsize : i.size = size) (hby : i.bytes = bytes) (hzs : z.cells.size = size) (hsz : 0 < size)
    (v : Value) (n : Nat) (xs : List Value) (hs : a.eval s = v) (hown : w.ownsRow base e size v n xs)
    (A : Option Addr) (m c : Nat) (news : List Value) (hx : a.eval x = .slice A m c) (hr : Reads w S size A m news) (h1 : ∀ u ∈ news, u.oneCell' = true)
    (h63 : n + m ≤ maxLen) (hbytes : (n + m) * bytes ≤ 140737488355328) (hbase : base ≤ w.heap.size)
    (h : ∀ v' w', w'.ownsRow base e size v' (n + m) (xs ++ news) → w.grownBy w' v.ownBlock → (v'.ownBlock = v.ownBlock ∨ v'.ownBlock = some w.heap.size) → wpList P ops Q rest (a.put o.dst v') w') : wpList P ops Q (o :: rest) a w :=
  wpList_plain hgd fun _ hK => wp_append_any w s x t ho base e i z size bytes ht hi hz hsize hby hzs hsz v n xs hs hown A m c news hx hr h1 h63 hbytes hbase fun v' w' h2 h3 h4 => hK _ _ (h v' w' h2 h3 h4)
end
/-- Block g is a row of cap cells of type t that begins with xs. -/
def Row (w : World) (t : TypeId) (g cap : Nat) (xs : List Value) : Prop := ∃ cur : Array Value, Blk w g t cur ∧ cur.size = cap ∧ xs.length ≤ cap ∧ cur.toList.take xs.length = xs
section
variable {w w' : World} {t : TypeId} {g cap n B : Nat} {xs ys : List Value}
theorem Row.keep (h : Row w t g cap xs) (hk : w'.heap[g]? = w.heap[g]?) : Row w' t g cap xs := by
  obtain ⟨cur, hb, r⟩ := h
  exact ⟨cur, hk.trans hb, r⟩
theorem Row.le_ (h : Row w t g cap xs) : xs.length ≤ cap := by
  obtain ⟨cur, _, _, h, _⟩ := h
  exact h
theorem Row.lt (h : Row w t g cap xs) : g < w.heap.size := by
  obtain ⟨cur, hb, _⟩ := h
  exact hb.lt
theorem Row.cell (h : Row w t g cap xs) (hn : n < cap) : ∃ u, w.cell? ⟨g, n, none⟩ = some u := by
  obtain ⟨cur, hb, hs, _⟩ := h
  exact ⟨cur[n], by rw [hb.cell n]; simp [hs, hn]⟩
theorem Row.frozen (h : Row w t g cap xs) (n : Nat) : w.frozen? ⟨g, n, none⟩ = false := by
  obtain ⟨cur, hb, _⟩ := h
  exact hb.frozen n
theorem Row.at_ (h : Row w t g cap xs) {u : Value} (hu : xs[n]? = some u) : w.cell? ⟨g, n, none⟩ = some u := by
  obtain ⟨cur, hb, hs, hl, ht⟩ := h
  rw [hb.cell n]
  rw [← ht, List.getElem?_take] at hu
  split at hu
  · simpa using hu
  · cases hu
theorem Row.push (h : Row w t g cap xs) (hn : xs.length = n) (hc : n < cap) (u : Value) : Row (w.setCell ⟨g, n, none⟩ u) t g cap (xs ++ [u]) := by
  obtain ⟨cur, hb, hs, hl, ht⟩ := h
  subst hn
  refine ⟨cur.setIfInBounds xs.length u, hb.set_ _ u, by simp [hs], by simp; omega, ?_⟩
  have hlt : xs.length < cur.size := by omega
  rw [List.length_append, List.length_singleton, List.take_succ_eq_append_getElem (by simpa using hlt)]
  simp
  rw [List.take_set_of_le (Nat.le_refl _), ht]
theorem Row.pre (h : Row w t g cap (xs ++ ys)) : Row w t g cap xs := by
  obtain ⟨cur, hb, hs, hl, ht⟩ := h
  refine ⟨cur, hb, hs, by simp at hl; omega, ?_⟩
  have := congrArg (List.take xs.length) ht
  rw [List.take_take, List.take_left, Nat.min_eq_left (by simp)] at this
  exact this
theorem Row.own (h : Row w t g cap xs) (hn : xs.length = n) (hB : B ≤ g) (hm : cap ≤ maxLen) : w.ownsRow B t 1 (.slice (some ⟨g, 0, none⟩) n cap) n xs := by
  obtain ⟨cur, hb, hs, hl, ht⟩ := h
  subst hn
  exact ⟨by simp, .inr ⟨g, cap, cur, rfl, hB, hb, hl, hm, by simpa using hs, by simpa using ht⟩⟩
/-- What an owned slice of one-cell elements is: nil, or a row. -/
theorem own_row {v : Value} (h : w.ownsRow B t 1 v n xs) : (v = .slice none 0 0 ∧ n = 0 ∧ xs = []) ∨ ∃ g cap, v = .slice (some ⟨g, 0, none⟩) n cap ∧ B ≤ g ∧ cap ≤ maxLen ∧ n ≤ cap ∧ xs.length = n ∧ Row w t g cap xs := by
  obtain ⟨hl, h⟩ := h
  rcases h with ⟨rfl, rfl⟩ | ⟨g, cap, cur, rfl, hb, hg, hnc, hcm, hcs, ht⟩
  · exact .inl ⟨rfl, rfl, List.eq_nil_of_length_eq_zero (by simpa using hl)⟩
  · simp only [Nat.mul_one] at hl hcs ht
    exact .inr ⟨g, cap, rfl, hb, hcm, hnc, hl, cur, hg, hcs, by omega, by rw [hl]; exact ht⟩
end
theorem cutA_at (g cap n : Nat) (h : n < cap) : cutA (some ⟨g, 0, none⟩) cap n 1 = some ⟨g, n, none⟩ := by
  unfold cutA
  rw [if_neg (by omega)]
  simp [Addr.add]
  omega
theorem grown_setCell {a w : World} {g : Nat} (h : a.grownBy w (some g)) (n : Nat) (u : Value) : a.grownBy (w.setCell ⟨g, n, none⟩ u) (some g) :=
  ⟨h.os, h.tape, h.output, by simpa [World.setCell] using h.size, fun i hi hne => (Below.heap_setCell w ⟨g, n, none⟩ u i (fun e => hne (by rw [e]))).trans (h.block i hi hne)⟩
theorem grown_drew {a w : World} {row : Option Nat} (h : a.grownBy w row) : a.grownBy w.drew row := ⟨h.os, h.tape, h.output, h.size, h.block⟩
theorem grown_quiet {a w w' : World} {row : Option Nat} (h : a.grownBy w row) (hq : Quiet w w') : a.grownBy w' row := by
  obtain ⟨n, rfl⟩ := hq
  exact ⟨h.os, h.tape, h.output, h.size, h.block⟩
theorem grown_trans' {a b c : World} {row row' : Option Nat} (h : a.grownBy b row) (k : b.grownBy c row') (hr : ∀ g, row' = some g → row = some g ∨ a.heap.size ≤ g) : a.grownBy c row :=
  ⟨k.os.trans h.os, k.tape.trans h.tape, k.output.trans h.output, Nat.le_trans h.size k.size, fun i hi hne => (k.block i (Nat.lt_of_lt_of_le hi h.size) (fun e => by
    rcases hr i e.symm with h1 | h1
    · exact hne h1.symm
    · omega)).trans (h.block i hi hne)⟩
end Go.Proofs.Ytlnpiigdjjadiaa
