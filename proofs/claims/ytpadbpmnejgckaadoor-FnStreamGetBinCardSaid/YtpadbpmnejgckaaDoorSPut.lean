/-
  laws.buffers; a walk's answer 'true'. No condition.
-/
import Derived.Test.YtpadbpmnejgckaaDoorWords
import Derived.Test.YtpadbpmnejgckaaDoorOwn
import Derived.Test.YtpadbpmnejgckaaDoorProg
namespace Go.Proofs.YtpadbpmnejgckaaDoor
set_option linter.unusedSimpArgs false
set_option linter.unusedVariables false
set_option linter.unusedVariables false
open Go.RowKit
theorem reads_blkS {w : World} {S : Nat → Prop} {g : Nat} {t : TypeId} {cs : Array Value} (h : Blk w g t cs) (hS : S g) (size n : Nat) (hn : cs.size = n * size) : Reads w S size (some ⟨g, 0, none⟩) n cs.toList := by
  refine ⟨by simpa using hn, fun _ => ⟨_, rfl, hS, fun j u hu => ?_⟩⟩
  have := h.cell j
  rw [Array.getElem?_toList] at hu
  rw [hu] at this
  rcases j with _ | j
  · exact this
  · simpa [Addr.add] using this
theorem Blk.newS {w : World} {t : TypeId} {cs : Array Value} {g : Nat} (h : w.heap.size = g) : Blk (w.alloc (.cells cs t)) g t cs := h ▸ Blk.new _ _ _
/-- The answer of a law that holds. -/
def TrueR (w : World) (e : Ending) (w' : World) : Prop := e = .returned (.bool true) ∧ Below w.heap.size w w'
theorem fives {k n : Int} {t : ByteArray} {e : Int} : ∀ u ∈ [Value.int .i64 k, .int .u64 n, .string t, .int .i64 e, .slice none 0 0], u.oneCell' = true := by
  intro u hu
  simp only [List.mem_cons, List.not_mem_nil, or_false] at hu
  rcases hu with rfl | rfl | rfl | rfl | rfl <;> rfl
theorem buffers_yes (b : Int) (h1 : 18 ≤ b) (h2 : b ≤ 65536) (w : World) : Calls Tryd.prog 28 #[.int .i64 b, .int .i64 1] w fun e w' => e = .returned (.bool true) ∧ w = w' := by
  go_enter Tryd.func28, Tryd.ntmps28
  go_wp2
  go_ret
  exact ⟨rfl, rfl⟩
theorem buffers_no (b : Int) (h : ¬ (18 ≤ b ∧ b ≤ 65536)) (w : World) : Calls Tryd.prog 28 #[.int .i64 b, .int .i64 1] w fun e w' => e = .returned (.bool false) ∧ w = w' := by
  by_cases h1 : 18 ≤ b
  · have h2 : ¬ b ≤ 65536 := by omega
    clear h
    go_enter Tryd.func28, Tryd.ntmps28
    go_wp2
    go_ret
    exact ⟨rfl, rfl⟩
  · clear h
    go_enter Tryd.func28, Tryd.ntmps28
    go_wp2
    go_ret
    exact ⟨rfl, rfl⟩
end Go.Proofs.YtpadbpmnejgckaaDoor
