/-
  A slice of texts that came in; laws.zzFits2. No condition.
-/
import Derived.Test.YtpadbpmnejgckaaDoorWords
import Derived.Test.YtpadbpmnejgckaaDoorOwn
import Derived.Test.YtpadbpmnejgckaaDoorProg
namespace Go.Proofs.YtpadbpmnejgckaaDoor
set_option linter.unusedSimpArgs false
set_option linter.unusedVariables false
set_option linter.unusedVariables false
open Go.RowKit
def strV (x : List UInt8) : Value := .string ⟨x.toArray⟩
def FitsR (w : World) (e : Ending) (w' : World) : Prop := ∃ b : Bool, e = .returned (.bool b) ∧ w = w'
def FitsRel (n : Nat) (i : Value) : Prop := ∃ k : Nat, i = .int .i64 k ∧ k ≤ n
set_option maxRecDepth 100000 in
set_option maxHeartbeats 800000 in
theorem zzFits2_any (S : Nat → Prop) (A : Option Addr) (xs : List (List UInt8)) (n c : Nat) (w : World) (hn : n = xs.length) (hr : Reads w S 1 A n (xs.map strV)) (hc : n ≤ c) (hcm : c ≤ 9223372036854775807) :
    Calls Tryd.prog 32 #[.slice A n c] w (FitsR w) := by
  have HN := hide hn
  have HR := hide hr
  clear hn hr
  by_cases hf : 2147483647 < n
  · have h1 : (2147483647 : Int) < (n : Int) := by omega
    go_enter Tryd.func32, Tryd.ntmps32
    go_wp2
    go_ret
    exact ⟨_, rfl, rfl⟩
  have h1 : ¬ (2147483647 : Int) < (n : Int) := by omega
  go_enter Tryd.func32, Tryd.ntmps32
  go_wp2
  go_loop [10] (fun i => FitsRel n i) (fun i => n - (intOf i).toNat)
  case atStart => exact ⟨0, rfl, Nat.zero_le _⟩
  case round =>
    obtain ⟨k, rfl, hk⟩ := hrel
    by_cases hlt : k < n
    · obtain ⟨ad, u, rfl, hSb, hu, hcell⟩ := (unhide HR).at_ hlt
      have hln : k < xs.length := by have := unhide HN; omega
      have hux : u = strV xs[k] := by
        rw [List.getElem?_map, List.getElem?_eq_getElem hln] at hu
        simpa using hu.symm
      generalize xs[k] = x at *
      subst hux
      replace hcell : w.cell? (ad.add k) = some (.string ⟨x.toArray⟩) := hcell
      have hk0 : (0 : Int) ≤ (k : Int) := by omega
      have hk1 : (k : Int) < (n : Int) := by omega
      have hsz : (⟨x.toArray⟩ : ByteArray).size = x.length := by simp [ByteArray.size]
      clear hu
      by_cases hbig : 2147483647 < x.length
      · have hb : (2147483647 : Int) < (x.length : Int) := by omega
        go_wp2
        go_ret
        exact ⟨_, rfl, rfl⟩
      · have hb : ¬ (2147483647 : Int) < (x.length : Int) := by omega
        go_wp2
        go_round
        case rel => exact ⟨k + 1, by go_num, by omega⟩
        case measure => simp [intOf]; omega
    · have hk1 : ¬ (k : Int) < (n : Int) := by omega
      go_wp2
      go_ret
      exact ⟨_, rfl, rfl⟩
/-- What the frame says of a slice of texts that came in. -/
abbrev RowStr (w : World) (a : Option Addr) (len cap : Nat) (ss : List ByteArray) : Prop :=
  (a = none ∧ len = 0 ∧ cap = 0 ∧ ss = []) ∨ ∃ x, a = some x ∧ len ≤ cap ∧ cap ≤ maxLen ∧ ss.length = cap ∧ (∀ i, i < ss.length → w.cell? (x.add i) = some (.string (ss.getD i ByteArray.empty)))
theorem strs_of_row {w : World} {a : Option Addr} {len cap : Nat} {ss : List ByteArray} (h : RowStr w a len cap ss) :
    ∃ xs : List (List UInt8), len = xs.length ∧ Reads w (Lt w.heap.size) 1 a len (xs.map strV) ∧ len ≤ cap ∧ cap ≤ maxLen := by
  rcases h with ⟨rfl, rfl, rfl, rfl⟩ | ⟨x, rfl, hl, hm, hz, hc⟩
  · exact ⟨[], rfl, Reads.none_, Nat.le_refl _, Nat.zero_le _⟩
  · have hlen : ((ss.take len).map fun s => s.data.toList).length = len := by rw [List.length_map, List.length_take]; omega
    refine ⟨(ss.take len).map fun s => s.data.toList, hlen.symm, ⟨by rw [List.length_map, hlen]; omega, fun h => ⟨x, rfl, ?_, ?_⟩⟩, hl, hm⟩
    · have h0 := hc 0 (by omega)
      apply Classical.byContradiction
      intro hn
      have hx : w.heap[x.block]? = none := Array.getElem?_eq_none (by simp [Lt] at hn; omega)
      simp [World.cell?, Addr.add, hx] at h0
    · intro j u hu
      simp only [List.getElem?_map, List.getElem?_take] at hu
      split at hu
      · rename_i hj
        have hjz : j < ss.length := by omega
        rw [List.getElem?_eq_getElem hjz] at hu
        simp only [Option.map_some, Option.some.injEq] at hu
        rw [hc j hjz, ← hu]
        simp [strV, List.getD_eq_getElem?_getD, List.getElem?_eq_getElem hjz]
      · simp at hu
end Go.Proofs.YtpadbpmnejgckaaDoor
