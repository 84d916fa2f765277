/-
  The plain law of the numbers that msgp's appending functions write: spec.TakePack reads them as the value that was asked. Conditions: numbers of 64 bits. And: a slice of bytes that came in reads as its bytes.
-/
import Derived.Test.YtndhgfjgpkkneaaPutOut
import Derived.Test.YtndhgfjgpkkneaaAppended
namespace Go.Proofs.Ytndhgfjgpkkneaa
open Go.RowKit
theorem be_length : ∀ (s : Nat) (x : Int), (be x s).length = s
  | 0, _ => rfl
  | s + 1, x => by simp [be, be_length s]
theorem bigN_step (x : Int) (s : Nat) : bigN (be x (s + 1)) = bigN (be (x / 256) s) * 256 + (x % 256).toNat := by
  show bigN (be (x / 256) s ++ [_]) = _
  rw [bigN_snoc]
  congr 1
  simp
  omega
theorem bigN_be1 (x : Int) : bigN (be x 1) = (x % 256).toNat := by
  rw [bigN_step]
  simp [be, bigN]
theorem bigN_be2 (x : Int) : bigN (be x 2) = (x % 65536).toNat := by
  rw [bigN_step, bigN_be1]
  omega
theorem bigN_be3 (x : Int) : bigN (be x 3) = (x % 16777216).toNat := by
  rw [bigN_step, bigN_be2]
  omega
theorem bigN_be4 (x : Int) : bigN (be x 4) = (x % 4294967296).toNat := by
  rw [bigN_step, bigN_be3]
  omega
theorem bigN_be5 (x : Int) : bigN (be x 5) = (x % 1099511627776).toNat := by
  rw [bigN_step, bigN_be4]
  omega
theorem bigN_be6 (x : Int) : bigN (be x 6) = (x % 281474976710656).toNat := by
  rw [bigN_step, bigN_be5]
  omega
theorem bigN_be7 (x : Int) : bigN (be x 7) = (x % 72057594037927936).toNat := by
  rw [bigN_step, bigN_be6]
  omega
theorem bigN_be8 (x : Int) : bigN (be x 8) = (x % 18446744073709551616).toNat := by
  rw [bigN_step, bigN_be7]
  omega
theorem take_be (x : Int) (s : Nat) : (be x s).take s = be x s := List.take_of_length_le (by rw [be_length]; exact Nat.le_refl _)
theorem drop_be (x : Int) (s : Nat) : (be x s).drop s = [] := List.drop_eq_nil_of_le (by rw [be_length]; exact Nat.le_refl _)
theorem tPack_coded (lv : Nat) (c : UInt8) (r : List UInt8) (h : 192 ≤ c.toNat) (h' : c.toNat < 224) : tPack (lv + 1) (c :: r) = tCoded (tPack lv) c.toNat r := by
  simp only [tPack]
  rw [if_neg (by omega), if_neg (by omega), if_neg (by omega), if_neg (by omega), if_neg (by omega)]
theorem tCoded_uint (f : List UInt8 → Option (Pack × List UInt8)) (b s : Nat) (x : Int) (hs : codeSize b = s) (h1 : 204 ≤ b) (h2 : b ≤ 207) : tCoded f b (be x s) = some (.mk 3 (bigN (be x s)) [] 0 [], []) := by
  unfold tCoded
  simp only [hs]
  rw [if_neg (by rw [be_length]; omega), if_neg (by omega), if_neg (by omega), if_neg (by omega), if_neg (by omega), if_neg (by omega), if_neg (by omega), if_pos h2, take_be, drop_be]
theorem tCoded_float32 (f : List UInt8 → Option (Pack × List UInt8)) (x : Int) : tCoded f 202 (be x 4) = some (.mk 4 (bigN (be x 4)) [] 0 [], []) := by
  unfold tCoded
  have hs : codeSize 202 = 4 := by decide
  simp only [hs]
  rw [if_neg (by rw [be_length]; omega), if_neg (by omega), if_neg (by omega), if_neg (by omega), if_neg (by omega), if_pos trivial, take_be, drop_be]
theorem tCoded_int (f : List UInt8 → Option (Pack × List UInt8)) (b s : Nat) (x : Int) (hs : codeSize b = s) (h1 : 208 ≤ b) (h2 : b ≤ 211) :
    tCoded f b (be x s) = if 0 ≤ signed s (bigN (be x s)) then some (.mk 3 (bigN (be x s)) [] 0 [], []) else some (.mk 2 (signed s (bigN (be x s)) + 18446744073709551616).toNat [] 0 [], []) := by
  unfold tCoded
  simp only [hs]
  rw [if_neg (by rw [be_length]; omega), if_neg (by omega), if_neg (by omega), if_neg (by omega), if_neg (by omega), if_neg (by omega), if_neg (by omega), if_neg (by omega), if_pos h2, take_be, drop_be]
theorem encU_read (X : Nat) (hX : X < 18446744073709551616) : tPack 1 (encU (X : Int)) = some (.mk 3 X [] 0 [], []) ∧ (encU (X : Int)).length ≤ 9 ∧ 0 < (encU (X : Int)).length := by
  unfold encU
  split
  · rename_i h
    refine ⟨?_, by simp, by simp⟩
    have hc : (UInt8.ofNat ((X : Int).toNat)).toNat = X := by simp; omega
    simp only [tPack]
    rw [hc, if_pos (by omega)]
  split
  · refine ⟨?_, by simp [be_length], by simp⟩
    rw [tPack_coded 0 _ _ (by decide) (by decide), tCoded_uint _ _ 1 _ (by decide) (by decide) (by decide), bigN_be1]
    congr 3
    omega
  split
  · refine ⟨?_, by simp [be_length], by simp⟩
    rw [tPack_coded 0 _ _ (by decide) (by decide), tCoded_uint _ _ 2 _ (by decide) (by decide) (by decide), bigN_be2]
    congr 3
    omega
  split
  · refine ⟨?_, by simp [be_length], by simp⟩
    rw [tPack_coded 0 _ _ (by decide) (by decide), tCoded_uint _ _ 4 _ (by decide) (by decide) (by decide), bigN_be4]
    congr 3
    omega
  · refine ⟨?_, by simp [be_length], by simp⟩
    rw [tPack_coded 0 _ _ (by decide) (by decide), tCoded_uint _ _ 8 _ (by decide) (by decide) (by decide), bigN_be8]
    congr 3
    omega
theorem encI_read (x : Int) (N : Nat) (h1 : -9223372036854775808 ≤ x) (h2 : x ≤ 9223372036854775807) (hN : (N : Int) = x % 18446744073709551616) :
    tPack 1 (encI x) = some (if 0 ≤ x then .mk 3 N [] 0 [] else .mk 2 N [] 0 [], []) ∧ (encI x).length ≤ 9 ∧ 0 < (encI x).length := by
  unfold encI
  split
  · rename_i h0
    split
    · refine ⟨?_, by simp, by simp⟩
      have hc : (UInt8.ofNat (x.toNat)).toNat = N := by simp; omega
      simp only [tPack]
      rw [hc, if_pos (by omega)]
    split
    · refine ⟨?_, by simp [be_length], by simp⟩
      rw [tPack_coded 0 _ _ (by decide) (by decide), tCoded_int _ _ 2 _ (by decide) (by decide) (by decide), bigN_be2, show (x % 65536).toNat = N by omega, if_pos (by unfold signed; simp; omega)]
    split
    · refine ⟨?_, by simp [be_length], by simp⟩
      rw [tPack_coded 0 _ _ (by decide) (by decide), tCoded_int _ _ 4 _ (by decide) (by decide) (by decide), bigN_be4, show (x % 4294967296).toNat = N by omega, if_pos (by unfold signed; simp; omega)]
    · refine ⟨?_, by simp [be_length], by simp⟩
      rw [tPack_coded 0 _ _ (by decide) (by decide), tCoded_int _ _ 8 _ (by decide) (by decide) (by decide), bigN_be8, show (x % 18446744073709551616).toNat = N by omega, if_pos (by unfold signed; simp; omega)]
  · rename_i h0
    split
    · refine ⟨?_, by simp, by simp⟩
      have hc : (UInt8.ofNat ((x + 256).toNat)).toNat = (x + 256).toNat := by simp; omega
      simp only [tPack]
      rw [hc, if_neg (by omega), if_pos (by omega)]
      congr 3
      omega
    split
    · refine ⟨?_, by simp [be_length], by simp⟩
      rw [tPack_coded 0 _ _ (by decide) (by decide), tCoded_int _ _ 1 _ (by decide) (by decide) (by decide), bigN_be1]
      have hs : signed 1 (x % 256).toNat = x := by unfold signed; simp; omega
      rw [hs, if_neg h0]
      congr 3
      omega
    split
    · refine ⟨?_, by simp [be_length], by simp⟩
      rw [tPack_coded 0 _ _ (by decide) (by decide), tCoded_int _ _ 2 _ (by decide) (by decide) (by decide), bigN_be2]
      have hs : signed 2 (x % 65536).toNat = x := by unfold signed; simp; omega
      rw [hs, if_neg h0]
      congr 3
      omega
    split
    · refine ⟨?_, by simp [be_length], by simp⟩
      rw [tPack_coded 0 _ _ (by decide) (by decide), tCoded_int _ _ 4 _ (by decide) (by decide) (by decide), bigN_be4]
      have hs : signed 4 (x % 4294967296).toNat = x := by unfold signed; simp; omega
      rw [hs, if_neg h0]
      congr 3
      omega
    · refine ⟨?_, by simp [be_length], by simp⟩
      rw [tPack_coded 0 _ _ (by decide) (by decide), tCoded_int _ _ 8 _ (by decide) (by decide) (by decide), bigN_be8]
      have hs : signed 8 (x % 18446744073709551616).toNat = x := by unfold signed; simp; omega
      rw [hs, if_neg h0]
      congr 3
      omega
theorem good_flat (k : Int) (n : Nat) (t : List UInt8) (e : Int) (h : n < 18446744073709551616) : GoodP (.mk k n t e []) := by
  unfold GoodP
  exact ⟨h, by simp, by unfold GoodPs; trivial⟩
theorem same_flat (k k' : Int) (n : Nat) (t : List UInt8) (e : Int) (h : nk k n = nk k' n) : samePk (.mk k n t e []) (.mk k' n t e []) = true := by
  unfold samePk
  simp [h, samePs]
/-- A slice of bytes that came in reads as its bytes. -/
theorem rb_of_row {w : World} {a : Option Addr} {len cap : Nat} {zs : List Int}
    (h : (a = none ∧ len = 0 ∧ cap = 0 ∧ zs = []) ∨ ∃ x, a = some x ∧ len ≤ cap ∧ cap ≤ maxLen ∧ zs.length = cap ∧ (∀ i, i < zs.length → w.cell? (x.add i) = some (.int .u8 (zs.getD i 0))) ∧ ∀ n ∈ zs, (Lit.int .u8 n).wf = true) :
    ∃ bs : List UInt8, len = bs.length ∧ RB w (Lt w.heap.size) a bs ∧ len ≤ cap ∧ cap ≤ maxLen := by
  rcases h with ⟨rfl, rfl, rfl, rfl⟩ | ⟨x, rfl, hl, hm, hz, hc, hwf⟩
  · exact ⟨[], rfl, ⟨by simp, fun h => absurd h (by simp)⟩, Nat.le_refl _, Nat.zero_le _⟩
  · refine ⟨(zs.take len).map fun z => UInt8.ofNat z.toNat, by simp; omega, ⟨by simp, fun h => ⟨x, rfl, ?_, ?_⟩⟩, hl, hm⟩
    · have h0 := hc 0 (by simp at h; omega)
      apply Classical.byContradiction
      intro hn
      have hx : w.heap[x.block]? = none := Array.getElem?_eq_none (by simp [Lt] at hn; omega)
      simp [World.cell?, Addr.add, hx] at h0
    · intro j u hu
      simp only [List.map_map, List.getElem?_map, List.getElem?_take] at hu
      split at hu
      · rename_i hj
        have hjz : j < zs.length := by omega
        rw [List.getElem?_eq_getElem hjz] at hu
        simp only [Option.map_some, Option.some.injEq] at hu
        have hw := hwf zs[j] (List.getElem_mem hjz)
        rw [hc j hjz, ← hu]
        simp only [List.getD_eq_getElem?_getD, List.getElem?_eq_getElem hjz, Option.getD_some, Function.comp]
        have hb : 0 ≤ zs[j] ∧ zs[j] ≤ 255 := by
          simp [Lit.wf, IntKind.signed, IntKind.bits, IntKind.min, IntKind.max] at hw
          omega
        unfold u8
        simp
        omega
      · simp at hu
end Go.Proofs.Ytndhgfjgpkkneaa
