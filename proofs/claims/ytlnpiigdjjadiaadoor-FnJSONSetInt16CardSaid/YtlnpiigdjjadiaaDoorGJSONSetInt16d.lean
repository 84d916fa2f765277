/-
  A slice of integers of the call's own, sorted by the library: between what append's laws say and what the sort's contract says. Conditions: none.
-/
import Derived.Test.YtlnpiigdjjadiaaDoorGJSONSetInt16c
import Derived.Shelf.SlSortCmp.Whole1
import Derived.Sort.OwnSorted
namespace Go.Proofs.YtlnpiigdjjadiaaDoor
set_option linter.unusedSimpArgs false
set_option linter.unusedVariables false
set_option linter.unusedVariables false
open Go.RowKit Go.Sort
theorem holds_ints {enc : Int → Value} {w : World} {g : Nat} {cur : Array Value} {e : TypeId} {ss : List Int} (hb : w.heap[g]? = some (.cells cur e (0, 0))) (ht : cur.toList.take ss.length = ss.map enc) : Holds enc w g 0 ss.toArray := by
  intro j hj
  have hj' : j < ss.length := by simpa using hj
  refine ⟨?_, by simp [World.frozen?, hb]⟩
  have h1 : (cur.toList.take ss.length)[j]? = (ss.map enc)[j]? := by rw [ht]
  rw [List.getElem?_take_of_lt hj'] at h1
  simp only [World.cell?, hb, Nat.zero_add]
  simp only [Option.isSome_none, Bool.false_eq_true, if_false]
  rw [← Array.getElem?_toList, h1]
  simp [hj']
theorem heap_sortedI {enc : Int → Value} {w : World} {g n : Nat} {os : Array Obj} {cur : Array Value} {e : TypeId} {fr : Nat × Nat} (d : Array Int) (hb : w.heap[g]? = some (.cells cur e fr)) :
    (grow (putRow enc (Sort.ahead w n) g 0 d) os).heap[g]? = some (.cells (putCells enc 0 d cur) e fr) := by
  have hg : g < w.heap.size := (Array.getElem?_eq_some_iff.1 hb).1
  rw [heap_grow_old _ _ (by simpa using hg)]
  simp [putRow, mapBlock, Sort.ahead, Array.getElem?_modify, hb, onCells]
theorem grownBy_sortedI {enc : Int → Value} {w : World} {g n : Nat} {os : Array Obj} (d : Array Int) : w.grownBy (grow (putRow enc (Sort.ahead w n) g 0 d) os) (some g) := by
  refine ⟨rfl, rfl, rfl, by simp, fun k hk hne => ?_⟩
  rw [heap_grow_old _ _ (by simpa using hk)]
  have : g ≠ k := fun e => hne (by rw [e])
  simp [putRow, mapBlock, Sort.ahead, Array.getElem?_modify, this]
theorem take_putCellsI {enc : Int → Value} (cur : Array Value) (ts : List Int) (h : ts.length ≤ cur.size) : (putCells enc 0 ts.toArray cur).toList.take ts.length = ts.map enc := by
  apply List.ext_getElem?
  intro j
  by_cases hj : j < ts.length
  · rw [List.getElem?_take_of_lt hj, Array.getElem?_toList]
    simp [putCells, hj, show j < cur.size by omega]
  · rw [List.getElem?_take_eq_none (by omega), List.getElem?_eq_none (by simp; omega)]
theorem ownsRow_sortedI {enc : Int → Value} {w : World} {base g cap n m : Nat} {e : TypeId} {os : Array Obj} {cur : Array Value} {ts : List Int} (hl : ts.length = m) (hbase : base ≤ g) (hb : w.heap[g]? = some (.cells cur e (0, 0)))
    (h1 : m ≤ cap) (h2 : cap ≤ maxLen) (h3 : cur.size = cap * 1) :
    (grow (putRow enc (Sort.ahead w n) g 0 ts.toArray) os).ownsRow base e 1 (.slice (some ⟨g, 0, none⟩) m cap) m (ts.map enc) :=
  ⟨by simp [hl], .inr ⟨g, cap, _, rfl, hbase, heap_sortedI _ hb, h1, h2, by simp [putCells, h3], by rw [Nat.mul_one, ← hl]; exact take_putCellsI cur ts (by omega)⟩⟩
/-- What the comparing closures of the sets compute. -/
def cmpI (x y : Int) : Int := if x < y then -1 else 1
theorem lt_cmpI (x y : Int) : ltOf cmpI x y = decide (x < y) := by
  unfold ltOf cmpI
  by_cases h : x < y <;> simp [h]
theorem swo_cmpI : SWO (ltOf cmpI) where
  irrefl x := by rw [lt_cmpI]; simp
  trans x y z h1 h2 := by rw [lt_cmpI] at *; simp at *; omega
  ntrans x y z h1 h2 := by rw [lt_cmpI] at *; simp at *; omega
theorem perm_of_in {ks : List Int} {d' : Array Int} (h : PermIn 0 ks.toArray.size ks.toArray d') : d'.toList.Perm ks := by
  obtain ⟨h1, _, h3⟩ := h
  rw [← h1] at h3
  have e1 : d'.extract 0 d'.size = d' := by simp
  have e2 : ks.toArray.extract 0 d'.size = ks.toArray := by rw [h1]; simp
  rw [e1, e2] at h3
  simpa using h3
theorem sorted_of_in {d' : Array Int} {n : Nat} (hn : n = d'.size) (h : SortedIn (ltOf cmpI) 0 n d') : d'.toList.Pairwise (· ≤ ·) := by
  rw [List.pairwise_iff_getElem]
  intro i j hi hj hij
  have hi' : i < d'.size := by simpa using hi
  have hj' : j < d'.size := by simpa using hj
  have := h i j (Nat.zero_le _) hij (by omega)
  rw [lt_cmpI] at this
  simp only [decide_eq_false_iff_not] at this
  rw [getElem!_pos d' i hi', getElem!_pos d' j hj'] at this
  simp only [Array.getElem_toList]
  omega
end Go.Proofs.YtlnpiigdjjadiaaDoor
