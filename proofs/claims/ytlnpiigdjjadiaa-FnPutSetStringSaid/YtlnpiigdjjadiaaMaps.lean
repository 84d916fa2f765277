/-
  A map of ints that is written out as a literal ('map[int]int{..}'): what the walk's operations make of it, and what a look-up answers. Conditions: no key stands twice.
-/
import Derived.Test.YtlnpiigdjjadiaaWords
namespace Go.Proofs.Ytlnpiigdjjadiaa
set_option linter.unusedSimpArgs false
set_option linter.unusedVariables false
open Go.RowKit
def entsFrom : List (Int × Int) → Nat → List MapEntry
  | [], _ => []
  | (k, v) :: r, i => { key := .int .i64 k, val := .int .i64 v, born := i } :: entsFrom r (i + 1)
/-- The map that a literal makes. -/
def mapOf (l : List (Int × Int)) : Obj := .map (entsFrom l 0).toArray l.length
/-- What it holds under a key; 0 where there is none. -/
def look : List (Int × Int) → Int → Int
  | [], _ => 0
  | (k, v) :: r, x => if x = k then v else look r x
theorem entsFrom_append (l : List (Int × Int)) (k v : Int) : ∀ i, entsFrom (l ++ [(k, v)]) i = entsFrom l i ++ [{ key := .int .i64 k, val := .int .i64 v, born := i + l.length }] := by
  induction l with
  | nil => intro i; simp [entsFrom]
  | cons x l ih =>
    intro i
    obtain ⟨a, b⟩ := x
    simp [entsFrom, ih, Nat.add_assoc, Nat.add_comm 1]
theorem findNow_none (l : List (Int × Int)) (x : Int) (h : ∀ p ∈ l, p.1 ≠ x) : ∀ i j, Instr.findNow (.int .i64) (.int .i64 x) (entsFrom l i) j = some none := by
  induction l with
  | nil => intro i j; rfl
  | cons p l ih =>
    intro i j
    obtain ⟨a, b⟩ := p
    have ha : (x == a) = false := by
      have := h (a, b) (by simp)
      simpa using fun e : x = a => this e.symm
    simp [entsFrom, Instr.findNow, Instr.sameNow, ha]
    exact ih (fun p hp => h p (by simp [hp])) _ _
theorem findNow_look (l : List (Int × Int)) (x : Int) : ∀ i j, (∃ r, Instr.findNow (.int .i64) (.int .i64 x) (entsFrom l i) j = some (some r) ∧ r.2 = .int .i64 (look l x)) ∨
    (Instr.findNow (.int .i64) (.int .i64 x) (entsFrom l i) j = some none ∧ look l x = 0) := by
  induction l with
  | nil => intro i j; exact .inr ⟨rfl, rfl⟩
  | cons p l ih =>
    intro i j
    obtain ⟨a, b⟩ := p
    by_cases h : x = a
    · subst h
      exact .inl ⟨(j, .int .i64 b), by simp [entsFrom, Instr.findNow, Instr.sameNow], by simp [look]⟩
    · have ha : (x == a) = false := by simpa using h
      rcases ih (i + 1) (j + 1) with ⟨r, h1, h2⟩ | ⟨h1, h2⟩
      · exact .inl ⟨r, by simpa [entsFrom, Instr.findNow, Instr.sameNow, ha] using h1, by simpa [look, h] using h2⟩
      · exact .inr ⟨by simpa [entsFrom, Instr.findNow, Instr.sameNow, ha] using h1, by simpa [look, h] using h2⟩
section
variable {P : Program} {t kt et : TypeId} (ht : P.underlying t = some (.map kt et)) (hk : P.underlying kt = some (.int .i64))
include ht hk
theorem run_insert_lit (w : World) (l : List (Int × Int)) (k v : Int) (h : ∀ p ∈ l, p.1 ≠ k) :
    (Instr.mapUpdate t (.map (some w.heap.size)) (.int .i64 k) (.int .i64 v)).run P (w.alloc (mapOf l)) = .ok () (w.alloc (mapOf (l ++ [(k, v)]))) := by
  have hb : (w.alloc (mapOf l)).heap[w.heap.size]? = some (.map (entsFrom l 0).toArray l.length) := heap_alloc_new w _
  have hf := findNow_none l k h 0 0
  have hset : (w.heap.push (mapOf l)).setIfInBounds w.heap.size (mapOf (l ++ [(k, v)])) = w.heap.push (mapOf (l ++ [(k, v)])) := by
    apply Array.ext_getElem?
    intro i
    rw [Array.getElem?_setIfInBounds, Array.getElem?_push, Array.getElem?_push]
    by_cases h1 : w.heap.size = i
    · simp [h1]
    · rw [if_neg h1, if_neg (fun e => h1 e.symm), if_neg (fun e => h1 e.symm)]
  have hik : MapKept.IsKey (.int .i64) (.int .i64 k) := by simp [MapKept.IsKey]
  have hpush : (Obj.map ((entsFrom l 0).toArray.push { key := .int .i64 k, val := .int .i64 v, born := l.length }) (l.length + 1)) = mapOf (l ++ [(k, v)]) := by
    unfold mapOf
    rw [entsFrom_append]
    simp
  simp only [Instr.mapUpdate, Sem.run_bind, run_underlying ht, MapKept.run_getObj_map hb, MapKept.run_checkKey hk hik, MapKept.run_findKey hk hf, MapKept.run_setObj_map _ hb, Result.andThen, hpush]
  congr 1
  show ({ w.alloc (mapOf l) with heap := (w.heap.push (mapOf l)).setIfInBounds w.heap.size (mapOf (l ++ [(k, v)])) } : World) = _
  rw [hset]
  rfl
theorem run_lookup_lit (w : World) (l : List (Int × Int)) (n : Nat) (hn : w.heap.size = n) (k : Int) (hz : ∀ w, (zeroValue et).run P w = .ok (.int .i64 0) w) :
    (Instr.lookup t (.map (some n)) (.int .i64 k) false).run P (w.alloc (mapOf l)) = .ok (.int .i64 (look l k)) (w.alloc (mapOf l)) := by
  subst hn
  have hb : (w.alloc (mapOf l)).heap[w.heap.size]? = some (.map (entsFrom l 0).toArray l.length) := heap_alloc_new w _
  have hik : MapKept.IsKey (.int .i64) (.int .i64 k) := by simp [MapKept.IsKey]
  rcases findNow_look l k 0 0 with ⟨r, h1, h2⟩ | ⟨h1, h2⟩
  · obtain ⟨i, v⟩ := r
    simp only at h2
    subst h2
    simp [Instr.lookup, run_underlying ht, MapKept.run_getObj_map hb, MapKept.run_checkKey hk hik, MapKept.run_findKey hk h1, Result.andThen]
  · simp [Instr.lookup, run_underlying ht, MapKept.run_getObj_map hb, MapKept.run_checkKey hk hik, MapKept.run_findKey hk h1, Result.andThen, hz, h2]
end
/-- What an operation of the literal puts into the map. -/
def insOf (t : TypeId) (m : Tmp) (o : Oper) : Option (Int × Int) :=
  match o with
  | { dst := none, op := .insert t' (.tmp m') (.const (.int .i64 k)) (.const (.int .i64 v)), guard := none, .. } => if t' = t ∧ m' = m then some (k, v) else none
  | _ => none
theorem insOf_some {t : TypeId} {m : Tmp} {o : Oper} {k v : Int} (h : insOf t m o = some (k, v)) : o.dst = none ∧ o.op = .insert t (.tmp m) (.const (.int .i64 k)) (.const (.int .i64 v)) ∧ o.guard = none := by
  unfold insOf at h
  split at h
  · split at h
    · rename_i hh
      obtain ⟨rfl, rfl⟩ := hh
      simp only [Option.some.injEq, Prod.mk.injEq] at h
      obtain ⟨rfl, rfl⟩ := h
      exact ⟨rfl, rfl, rfl⟩
    · cases h
  · cases h
def noneIs (x : Int) (l : List (Int × Int)) : Bool := l.all fun p => p.1 != x
def fresh_ : List (Int × Int) → List (Int × Int) → Bool
  | _, [] => true
  | l, (k, v) :: r => noneIs k l && fresh_ (l ++ [(k, v)]) r
section
variable {P : Program} {t kt et : TypeId} (ht : P.underlying t = some (.map kt et)) (hk : P.underlying kt = some (.int .i64))
include ht hk
theorem wpList_inserts {ops : Array Oper} {Q : Exit → Act → World → Prop} (m : Tmp) (w : World) (a : Act) (hm : a.tmps.getD m undef = .map (some w.heap.size)) (rest : List Oper) :
    ∀ (os : List Oper) (kvs l : List (Int × Int)), os.map (insOf t m) = kvs.map some → fresh_ l kvs = true →
      wpList P ops Q rest a (w.alloc (mapOf (l ++ kvs))) → wpList P ops Q (os ++ rest) a (w.alloc (mapOf l))
  | [], [], l, _, _, h => by simpa using h
  | [], _ :: _, _, h, _, _ => by simp at h
  | _ :: _, [], _, h, _, _ => by simp at h
  | o :: os, (k, v) :: kvs, l, h, hf, hw => by
    simp only [List.map_cons, List.cons.injEq] at h
    obtain ⟨h1, h2⟩ := h
    obtain ⟨hd, ho, hg⟩ := insOf_some h1
    simp only [fresh_, Bool.and_eq_true] at hf
    obtain ⟨hf1, hf2⟩ := hf
    have hne : ∀ p ∈ l, p.1 ≠ k := fun p hp => by
      have := List.all_eq_true.1 hf1 p hp
      simpa using this
    have hrun := run_insert_lit ht hk w l k v hne
    refine wpList_plain hg fun K hK => ?_
    unfold Oper.wp
    simp only [execOp, ho, Act.eval, hm, Sem.run_bind, hrun, Result.andThen]
    have hput : a.put o.dst undef = a := by rw [hd]; rfl
    have := hK _ _ (wpList_inserts m w a hm rest os kvs (l ++ [(k, v)]) h2 hf2 (by simpa using hw))
    simpa [Oper.upon, hput, Sem.run_pure, Sem.run_bind, Result.andThen] using this
/-- The whole literal: 'make', then a store a key. -/
theorem wpList_mapLit {ops : Array Oper} {Q : Exit → Act → World → Prop} {m : Tmp} {ty : TypeId} {pos : String} {after : Array Edge} {l : List Oper} {a : Act} {w : World} (n : Nat) (kvs : List (Int × Int))
    (hm : m < a.tmps.size) (hl : (l.take n).map (insOf t m) = kvs.map some) (hf : fresh_ [] kvs = true)
    (h : wpList P ops Q (l.drop n) (a.put (some m) (.map (some w.heap.size))) (w.alloc (mapOf kvs))) :
    wpList P ops Q ({ dst := some m, op := .makeMap t none, type := ty, pos := pos, after := after, guard := none } :: l) a w := by
  have hi := wpList_inserts ht hk (P := P) (ops := ops) (Q := Q) m w (a.put (some m) (.map (some w.heap.size))) (by simp [Act.put, hm]) (l.drop n) (l.take n) kvs [] hl hf (by simpa using h)
  rw [List.take_append_drop] at hi
  refine wpList_plain rfl fun K hK => ?_
  unfold Oper.wp
  simp only [execOp, Option.map_none, Sem.run_bind, run_makeMap, Result.andThen]
  exact hK _ _ hi
end
end Go.Proofs.Ytlnpiigdjjadiaa
