/-
  A slice of numbers that came in reads as its numbers; a slice of bytes as its bytes. No condition.
-/
import Derived.Test.YtlnpiigdjjadiaaWords
namespace Go.Proofs.Ytlnpiigdjjadiaa
set_option linter.unusedSimpArgs false
set_option linter.unusedVariables false
open Go.RowKit
/-- What the frame says of a slice of integers that came in. -/
abbrev RowIn (k : IntKind) (w : World) (a : Option Addr) (len cap : Nat) (zs : List Int) : Prop :=
  (a = none ∧ len = 0 ∧ cap = 0 ∧ zs = []) ∨ ∃ x, a = some x ∧ len ≤ cap ∧ cap ≤ maxLen ∧ zs.length = cap ∧ (∀ i, i < zs.length → w.cell? (x.add i) = some (.int k (zs.getD i 0))) ∧ ∀ n ∈ zs, (Lit.int k n).wf = true
theorem ints_of_row {k : IntKind} {w : World} {a : Option Addr} {len cap : Nat} {zs : List Int} (h : RowIn k w a len cap zs) :
    Reads w (Lt w.heap.size) 1 a len ((zs.take len).map (Value.int k)) ∧ (zs.take len).length = len ∧ len ≤ cap ∧ cap ≤ maxLen ∧ ∀ n ∈ zs.take len, (Lit.int k n).wf = true := by
  rcases h with ⟨rfl, rfl, rfl, rfl⟩ | ⟨x, rfl, hl, hm, hz, hc, hwf⟩
  · exact ⟨Reads.none_, rfl, Nat.le_refl _, Nat.zero_le _, fun n hn => by simp at hn⟩
  · have hlen : (zs.take len).length = len := by rw [List.length_take]; omega
    refine ⟨⟨by rw [List.length_map, hlen]; omega, fun h => ⟨x, rfl, ?_, ?_⟩⟩, hlen, hl, hm, fun n hn => hwf n (List.mem_of_mem_take hn)⟩
    · have h0 := hc 0 (by omega)
      apply Classical.byContradiction
      intro hn
      have hx : w.heap[x.block]? = none := Array.getElem?_eq_none (by simp [Lt] at hn; omega)
      simp [World.cell?, Addr.add, hx] at h0
    · intro j u hu
      simp only [List.getElem?_map, List.getElem?_take] at hu
      split at hu
      · rename_i hj
        have hjz : j < zs.length := by omega
        rw [List.getElem?_eq_getElem hjz] at hu
        simp only [Option.map_some, Option.some.injEq] at hu
        rw [hc j hjz, ← hu]
        simp only [List.getD_eq_getElem?_getD, List.getElem?_eq_getElem hjz, Option.getD_some]
      · simp at hu
/-- A slice of bytes that came in reads as its bytes. -/
theorem bytes_of_row {w : World} {a : Option Addr} {len cap : Nat} {zs : List Int} (h : RowIn .u8 w a len cap zs) :
    ∃ bs : List UInt8, len = bs.length ∧ RB w (Lt w.heap.size) a bs ∧ len ≤ cap ∧ cap ≤ maxLen := by
  obtain ⟨hr, hl, hc, hm, hwf⟩ := ints_of_row h
  refine ⟨(zs.take len).map fun z => UInt8.ofNat z.toNat, by rw [List.length_map, hl], ?_, hc, hm⟩
  have e : ((zs.take len).map fun z => UInt8.ofNat z.toNat).map u8 = (zs.take len).map (Value.int .u8) := by
    rw [List.map_map]
    refine List.map_congr_left fun z hz => ?_
    have hw := hwf z hz
    have hb : 0 ≤ z ∧ z ≤ 255 := by
      simp [Lit.wf, IntKind.signed, IntKind.bits, IntKind.min, IntKind.max] at hw
      omega
    unfold u8
    simp
    omega
  unfold RB
  rw [e, List.length_map, hl]
  exact hr
end Go.Proofs.Ytlnpiigdjjadiaa
