/-
  A map of pairs of ints that is written out as a literal ('map[int][2]int{..}'): what the walk's operations make of it, and what a look-up answers. Conditions: no key stands twice.
-/
import Derived.Test.YtapkehellkdkjaaMaps
import Derived.Laws.Tables
namespace Go.Proofs.Ytapkehellkdkjaa
set_option linter.unusedSimpArgs false
set_option linter.unusedVariables false
open Go.RowKit
def entsV : List (Int × Value) → Nat → List MapEntry
  | [], _ => []
  | (k, v) :: r, i => { key := .int .i64 k, val := v, born := i } :: entsV r (i + 1)
def mapOfV (l : List (Int × Value)) : Obj := .map (entsV l 0).toArray l.length
def lookV : List (Int × Value) → Int → Option Value
  | [], _ => none
  | (k, v) :: r, x => if x = k then some v else lookV r x
theorem entsV_append (l : List (Int × Value)) (k : Int) (v : Value) : ∀ i, entsV (l ++ [(k, v)]) i = entsV l i ++ [{ key := .int .i64 k, val := v, born := i + l.length }] := by
  induction l with
  | nil => intro i; simp [entsV]
  | cons x l ih =>
    intro i
    obtain ⟨a, b⟩ := x
    simp [entsV, ih, Nat.add_assoc, Nat.add_comm 1]
theorem findNowV_none (l : List (Int × Value)) (x : Int) (h : ∀ p ∈ l, p.1 ≠ x) : ∀ i j, Instr.findNow (.int .i64) (.int .i64 x) (entsV l i) j = some none := by
  induction l with
  | nil => intro i j; rfl
  | cons p l ih =>
    intro i j
    obtain ⟨a, b⟩ := p
    have ha : (x == a) = false := by
      have := h (a, b) (by simp)
      simpa using fun e : x = a => this e.symm
    simp [entsV, Instr.findNow, Instr.sameNow, ha]
    exact ih (fun p hp => h p (by simp [hp])) _ _
theorem findNowV_look (l : List (Int × Value)) (x : Int) : ∀ i j, (∃ r, Instr.findNow (.int .i64) (.int .i64 x) (entsV l i) j = some (some r) ∧ lookV l x = some r.2) ∨
    (Instr.findNow (.int .i64) (.int .i64 x) (entsV l i) j = some none ∧ lookV l x = none) := by
  induction l with
  | nil => intro i j; exact .inr ⟨rfl, rfl⟩
  | cons p l ih =>
    intro i j
    obtain ⟨a, b⟩ := p
    by_cases h : x = a
    · subst h
      exact .inl ⟨(j, b), by simp [entsV, Instr.findNow, Instr.sameNow], by simp [lookV]⟩
    · have ha : (x == a) = false := by simpa using h
      rcases ih (i + 1) (j + 1) with ⟨r, h1, h2⟩ | ⟨h1, h2⟩
      · exact .inl ⟨r, by simpa [entsV, Instr.findNow, Instr.sameNow, ha] using h1, by simpa [lookV, h] using h2⟩
      · exact .inr ⟨by simpa [entsV, Instr.findNow, Instr.sameNow, ha] using h1, by simpa [lookV, h] using h2⟩
/-- What a literal's operations put in: where a pair is built, its key, the pair. -/
def pairOps (T t : TypeId) (m : Tmp) : List Oper → Option (List (Tmp × Int × Int × Int))
  | [] => some []
  | { dst := some d, op := .build T' ps, guard := none, .. } :: { dst := none, op := .insert t' (.tmp m') (.const (.int .i64 k)) (.tmp d'), guard := none, .. } :: r =>
    match ps with
    | ⟨[(0, .const (.int .i64 x)), (1, .const (.int .i64 y))]⟩ => if T' = T ∧ t' = t ∧ m' = m ∧ d' = d ∧ d ≠ m then (pairOps T t m r).map ((d, k, x, y) :: ·) else none
    | _ => none
  | _ => none
def pairV (p : Tmp × Int × Int × Int) : Int × Value := (p.2.1, .agg #[.int .i64 p.2.2.1, .int .i64 p.2.2.2])
def putPairs : Act → List (Tmp × Int × Int × Int) → Act
  | a, [] => a
  | a, p :: r => putPairs (a.put (some p.1) (.agg #[.int .i64 p.2.2.1, .int .i64 p.2.2.2])) r
def noneIsV (x : Int) (l : List (Int × Value)) : Bool := l.all fun p => p.1 != x
def freshV : List (Int × Value) → List (Int × Value) → Bool
  | _, [] => true
  | l, p :: r => noneIsV p.1 l && freshV (l ++ [p]) r
section
variable {P : Program} {t kt et : TypeId} (ht : P.underlying t = some (.map kt et)) (hk : P.underlying kt = some (.int .i64))
include ht hk
theorem run_insertV (w : World) (l : List (Int × Value)) (k : Int) (v : Value) (h : ∀ p ∈ l, p.1 ≠ k) :
    (Instr.mapUpdate t (.map (some w.heap.size)) (.int .i64 k) v).run P (w.alloc (mapOfV l)) = .ok () (w.alloc (mapOfV (l ++ [(k, v)]))) := by
  have hb : (w.alloc (mapOfV l)).heap[w.heap.size]? = some (.map (entsV l 0).toArray l.length) := heap_alloc_new w _
  have hf := findNowV_none l k h 0 0
  have hset : (w.heap.push (mapOfV l)).setIfInBounds w.heap.size (mapOfV (l ++ [(k, v)])) = w.heap.push (mapOfV (l ++ [(k, v)])) := by
    apply Array.ext_getElem?
    intro i
    rw [Array.getElem?_setIfInBounds, Array.getElem?_push, Array.getElem?_push]
    by_cases h1 : w.heap.size = i
    · simp [h1]
    · rw [if_neg h1, if_neg (fun e => h1 e.symm), if_neg (fun e => h1 e.symm)]
  have hik : MapKept.IsKey (.int .i64) (.int .i64 k) := by simp [MapKept.IsKey]
  have hpush : (Obj.map ((entsV l 0).toArray.push { key := .int .i64 k, val := v, born := l.length }) (l.length + 1)) = mapOfV (l ++ [(k, v)]) := by
    unfold mapOfV
    rw [entsV_append]
    simp
  simp only [Instr.mapUpdate, Sem.run_bind, run_underlying ht, MapKept.run_getObj_map hb, MapKept.run_checkKey hk hik, MapKept.run_findKey hk hf, MapKept.run_setObj_map _ hb, Result.andThen, hpush]
  congr 1
  show ({ w.alloc (mapOfV l) with heap := (w.heap.push (mapOfV l)).setIfInBounds w.heap.size (mapOfV (l ++ [(k, v)])) } : World) = _
  rw [hset]
  rfl
theorem run_lookupV (w : World) (l : List (Int × Value)) (n : Nat) (hn : w.heap.size = n) (k : Int) (z : Value) (hz : ∀ w, (zeroValue et).run P w = .ok z w) :
    (Instr.lookup t (.map (some n)) (.int .i64 k) true).run P (w.alloc (mapOfV l)) = .ok (.tuple #[(lookV l k).getD z, .bool (lookV l k).isSome]) (w.alloc (mapOfV l)) := by
  subst hn
  have hb : (w.alloc (mapOfV l)).heap[w.heap.size]? = some (.map (entsV l 0).toArray l.length) := heap_alloc_new w _
  have hik : MapKept.IsKey (.int .i64) (.int .i64 k) := by simp [MapKept.IsKey]
  rcases findNowV_look l k 0 0 with ⟨r, h1, h2⟩ | ⟨h1, h2⟩
  · obtain ⟨i, v⟩ := r
    simp only at h2
    simp [Instr.lookup, run_underlying ht, MapKept.run_getObj_map hb, MapKept.run_checkKey hk hik, MapKept.run_findKey hk h1, Result.andThen, h2]
  · simp [Instr.lookup, run_underlying ht, MapKept.run_getObj_map hb, MapKept.run_checkKey hk hik, MapKept.run_findKey hk h1, Result.andThen, hz, h2]
theorem wpList_pairs {ops : Array Oper} {Q : Exit → Act → World → Prop} {T : TypeId} (hb : ∀ x y : Int, P.built T [(0, .int .i64 x), (1, .int .i64 y)] = some #[.int .i64 x, .int .i64 y]) (m : Tmp) (w : World) (rest : List Oper) :
    ∀ (kvs : List (Tmp × Int × Int × Int)) (os : List Oper) (l : List (Int × Value)) (a : Act), pairOps T t m os = some kvs → freshV l (kvs.map pairV) = true → (∀ p ∈ kvs, p.1 < a.tmps.size) → a.tmps.getD m undef = .map (some w.heap.size) →
      wpList P ops Q rest (putPairs a kvs) (w.alloc (mapOfV (l ++ kvs.map pairV))) → wpList P ops Q (os ++ rest) a (w.alloc (mapOfV l)) := by
  intro kvs
  induction kvs with
  | nil =>
    intro os l a h hf hd hm hw
    unfold pairOps at h
    split at h
    · simpa [putPairs] using hw
    · split at h
      · split at h
        · rw [Option.map_eq_some_iff] at h
          obtain ⟨_, _, h⟩ := h
          cases h
        · cases h
      · cases h
    · cases h
  | cons p0 kr ih0 =>
    intro os l a h hf hd hm hw
    unfold pairOps at h
    split at h
    · cases h
    · rename_i d T' ps ty1 pos1 af1 t' m' k d' ty2 pos2 af2 r
      split at h
      · rename_i x y
        split at h
        · rename_i hc
          obtain ⟨rfl, rfl, rfl, rfl, hdm⟩ := hc
          rw [Option.map_eq_some_iff] at h
          obtain ⟨kr', hr, h⟩ := h
          simp only [List.cons.injEq] at h
          obtain ⟨rfl, rfl⟩ := h
          simp only [List.map_cons, freshV, Bool.and_eq_true] at hf
          obtain ⟨hf1, hf2⟩ := hf
          have hne : ∀ p ∈ l, p.1 ≠ k := fun p hp => by
            have := List.all_eq_true.1 hf1 p hp
            simpa [pairV] using this
          have hds : d' < a.tmps.size := hd (d', k, x, y) (by simp)
          have hrun := run_insertV ht hk w l k (.agg #[.int .i64 x, .int .i64 y]) hne
          have hput : (a.put (some d') (.agg #[.int .i64 x, .int .i64 y])).tmps.getD m' undef = .map (some w.heap.size) := by
            simp only [Act.put, Array.getD_eq_getD_getElem?] at hm ⊢
            rw [Array.getElem?_setIfInBounds, if_neg hdm]
            exact hm
          have hputd : (a.put (some d') (.agg #[.int .i64 x, .int .i64 y])).tmps.getD d' undef = .agg #[.int .i64 x, .int .i64 y] := by
            simp only [Act.put, Array.getD_eq_getD_getElem?]
            rw [Array.getElem?_setIfInBounds, if_pos rfl, if_pos hds]
            rfl
          rw [List.cons_append, List.cons_append]
          refine wpList_build rfl T' _ rfl (by simp [Act.eval, hb]) ?_
          have ih := ih0 r (l ++ [(k, .agg #[.int .i64 x, .int .i64 y])]) (a.put (some d') (.agg #[.int .i64 x, .int .i64 y])) hr hf2 (fun p hp => by simpa [Act.put] using hd p (by simp [hp])) hput (by simpa [putPairs, pairV] using hw)
          refine wpList_plain rfl fun K hK => ?_
          unfold Oper.wp
          have he : a.put (some d') (.agg ((P.built T' (Array.map (fun x => (x.1, a.eval x.2)) #[(0, Operand.const (Value.int IntKind.i64 x)), (1, Operand.const (Value.int IntKind.i64 y))]).toList).getD #[])) = a.put (some d') (.agg #[.int .i64 x, .int .i64 y]) := by
            simp [Act.eval, hb]
          rw [he]
          simp only [execOp, Act.eval, hput, hputd, Sem.run_bind, hrun, Result.andThen]
          have := hK _ _ ih
          simpa [Oper.upon, Act.put, Sem.run_pure, Sem.run_bind, Result.andThen] using this
        · cases h
      · cases h
    · cases h
/-- The whole literal: 'make', then a pair and a store a key. -/
theorem wpList_mapLit2 {ops : Array Oper} {Q : Exit → Act → World → Prop} {T : TypeId} (hb : ∀ x y : Int, P.built T [(0, .int .i64 x), (1, .int .i64 y)] = some #[.int .i64 x, .int .i64 y]) {m : Tmp} {ty : TypeId} {pos : String} {after : Array Edge} {l : List Oper} {a : Act} {w : World} (n : Nat) (kvs : List (Tmp × Int × Int × Int))
    (hm : m < a.tmps.size) (hl : pairOps T t m (l.take n) = some kvs) (hf : freshV [] (kvs.map pairV) = true) (hd : ∀ p ∈ kvs, p.1 < a.tmps.size)
    (h : wpList P ops Q (l.drop n) (putPairs (a.put (some m) (.map (some w.heap.size))) kvs) (w.alloc (mapOfV (kvs.map pairV)))) :
    wpList P ops Q ({ dst := some m, op := .makeMap t none, type := ty, pos := pos, after := after, guard := none } :: l) a w := by
  have hi := wpList_pairs ht hk (P := P) (ops := ops) (Q := Q) hb m w (l.drop n) kvs (l.take n) [] (a.put (some m) (.map (some w.heap.size))) hl hf (fun p hp => by simpa [Act.put] using hd p hp) (by simp [Act.put, hm]) (by simpa using h)
  rw [List.take_append_drop] at hi
  refine wpList_plain rfl fun K hK => ?_
  unfold Oper.wp
  simp only [execOp, Option.map_none, Sem.run_bind, run_makeMap, Result.andThen]
  exact hK _ _ hi
end
end Go.Proofs.Ytapkehellkdkjaa
