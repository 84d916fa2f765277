/-
  laws.buffers; a walk's answer 'true'. No condition.
-/
import Derived.Test.YtlnpiigdjjadiaaWords
import Derived.Test.YtlnpiigdjjadiaaOwn
import Derived.Test.YtlnpiigdjjadiaaProg
namespace Go.Proofs.Ytlnpiigdjjadiaa
set_option linter.unusedSimpArgs false
set_option linter.unusedVariables false
set_option linter.unusedVariables false
open Go.RowKit
theorem reads_blkS {w : World} {S : Nat → Prop} {g : Nat} {t : TypeId} {cs : Array Value} (h : Blk w g t cs) (hS : S g) (size n : Nat) (hn : cs.size = n * size) : Reads w S size (some ⟨g, 0, none⟩) n cs.toList := by
  refine ⟨by simpa using hn, fun _ => ⟨_, rfl, hS, fun j u hu => ?_⟩⟩
  have := h.cell j
  rw [Array.getElem?_toList] at hu
  rw [hu] at this
  rcases j with _ | j
  · exact this
  · simpa [Addr.add] using this
theorem Blk.newS {w : World} {t : TypeId} {cs : Array Value} {g : Nat} (h : w.heap.size = g) : Blk (w.alloc (.cells cs t)) g t cs := h ▸ Blk.new _ _ _
/-- The answer of a law that holds. -/
def TrueR (w : World) (e : Ending) (w' : World) : Prop := e = .returned (.bool true) ∧ Below w.heap.size w w'
theorem fives {k n : Int} {t : ByteArray} {e : Int} : ∀ u ∈ [Value.int .i64 k, .int .u64 n, .string t, .int .i64 e, .slice none 0 0], u.oneCell' = true := by
  intro u hu
  simp only [List.mem_cons, List.not_mem_nil, or_false] at hu
  rcases hu with rfl | rfl | rfl | rfl | rfl <;> rfl
end Go.Proofs.Ytlnpiigdjjadiaa
