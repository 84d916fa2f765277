/-
  Plain: what the readers of integers (int64R, uint64R) answer at the bytes of a written value.
-/
import Derived.Test.YtpmcljjhjjmlfaaDoorLead
import Derived.Test.YtpmcljjhjjmlfaaDoorInt32
import Derived.Test.YtpmcljjhjjmlfaaDoorUint32
namespace Go.Proofs.YtpmcljjhjjmlfaaDoor
set_option linter.unusedSimpArgs false
set_option linter.unusedVariables false
open Go.RowKit
theorem bigU_beL1 (u : Nat) : bigU (beL u 1) = u % 256 := by simp [bigU, beL]
theorem bigU_beL2' (u : Nat) : bigU (beL u 2) = u % 65536 := by simp [bigU, beL]; omega
theorem bigU_beL4' (u : Nat) : bigU (beL u 4) = u % 4294967296 := by simp [bigU, beL]; omega
theorem bigU_beL8 (u : Nat) : bigU (beL u 8) = u % 18446744073709551616 := by simp [bigU, beL]; omega
theorem short_take {α : Type} (l : List α) (q : Nat) (h : q < l.length) : (l.take q).length < l.length := by rw [List.length_take]; omega
theorem int64R_cons (b : UInt8) (r : List UInt8) : int64R (b :: r) = if b.toNat < 128 then some ((b.toNat : Int), r) else if 224 ≤ b.toNat then some ((b.toNat : Int) - 256, r) else int64RC b.toNat r := rfl
theorem int64R_208 (u : Nat) (zs : List UInt8) : int64R (UInt8.ofNat 208 :: (beL u 1 ++ zs)) = some (sgn 1 (u % 256), zs) := by
  have hl : (beL u 1).length = 1 := rfl
  rw [int64R_cons, show (UInt8.ofNat 208).toNat = 208 from rfl, if_neg (by decide), if_neg (by decide)]
  unfold int64RC
  skip
  rw [if_pos rfl, if_neg (by rw [List.length_append, hl]; omega), List.take_left' hl, List.drop_left' hl, bigU_beL1]
theorem int64R_208q (u : Nat) (q : Nat) (hq : q < 2) : int64R ((UInt8.ofNat 208 :: beL u 1).take q) = none := by
  rcases q with _ | q
  · rfl
  have hl : (beL u 1).length = 1 := rfl
  have hs : ((beL u 1).take q).length < 1 := by rw [List.length_take]; omega
  rw [List.take_succ_cons]
  rw [int64R_cons, show (UInt8.ofNat 208).toNat = 208 from rfl, if_neg (by decide), if_neg (by decide)]
  unfold int64RC
  skip
  rw [if_pos rfl, if_pos hs]
theorem int64R_204 (u : Nat) (zs : List UInt8) : int64R (UInt8.ofNat 204 :: (beL u 1 ++ zs)) = some ((((u % 256) : Nat) : Int), zs) := by
  have hl : (beL u 1).length = 1 := rfl
  rw [int64R_cons, show (UInt8.ofNat 204).toNat = 204 from rfl, if_neg (by decide), if_neg (by decide)]
  unfold int64RC
  rw [if_neg (by decide)];
  rw [if_pos rfl, if_neg (by rw [List.length_append, hl]; omega), List.take_left' hl, List.drop_left' hl, bigU_beL1]
theorem int64R_204q (u : Nat) (q : Nat) (hq : q < 2) : int64R ((UInt8.ofNat 204 :: beL u 1).take q) = none := by
  rcases q with _ | q
  · rfl
  have hl : (beL u 1).length = 1 := rfl
  have hs : ((beL u 1).take q).length < 1 := by rw [List.length_take]; omega
  rw [List.take_succ_cons]
  rw [int64R_cons, show (UInt8.ofNat 204).toNat = 204 from rfl, if_neg (by decide), if_neg (by decide)]
  unfold int64RC
  rw [if_neg (by decide)];
  rw [if_pos rfl, if_pos hs]
theorem int64R_209 (u : Nat) (zs : List UInt8) : int64R (UInt8.ofNat 209 :: (beL u 2 ++ zs)) = some (sgn 2 (u % 65536), zs) := by
  have hl : (beL u 2).length = 2 := rfl
  rw [int64R_cons, show (UInt8.ofNat 209).toNat = 209 from rfl, if_neg (by decide), if_neg (by decide)]
  unfold int64RC
  rw [if_neg (by decide)]; rw [if_neg (by decide)];
  rw [if_pos rfl, if_neg (by rw [List.length_append, hl]; omega), List.take_left' hl, List.drop_left' hl, bigU_beL2']
theorem int64R_209q (u : Nat) (q : Nat) (hq : q < 3) : int64R ((UInt8.ofNat 209 :: beL u 2).take q) = none := by
  rcases q with _ | q
  · rfl
  have hl : (beL u 2).length = 2 := rfl
  have hs : ((beL u 2).take q).length < 2 := by rw [List.length_take]; omega
  rw [List.take_succ_cons]
  rw [int64R_cons, show (UInt8.ofNat 209).toNat = 209 from rfl, if_neg (by decide), if_neg (by decide)]
  unfold int64RC
  rw [if_neg (by decide)]; rw [if_neg (by decide)];
  rw [if_pos rfl, if_pos hs]
theorem int64R_205 (u : Nat) (zs : List UInt8) : int64R (UInt8.ofNat 205 :: (beL u 2 ++ zs)) = some ((((u % 65536) : Nat) : Int), zs) := by
  have hl : (beL u 2).length = 2 := rfl
  rw [int64R_cons, show (UInt8.ofNat 205).toNat = 205 from rfl, if_neg (by decide), if_neg (by decide)]
  unfold int64RC
  rw [if_neg (by decide)]; rw [if_neg (by decide)]; rw [if_neg (by decide)];
  rw [if_pos rfl, if_neg (by rw [List.length_append, hl]; omega), List.take_left' hl, List.drop_left' hl, bigU_beL2']
theorem int64R_205q (u : Nat) (q : Nat) (hq : q < 3) : int64R ((UInt8.ofNat 205 :: beL u 2).take q) = none := by
  rcases q with _ | q
  · rfl
  have hl : (beL u 2).length = 2 := rfl
  have hs : ((beL u 2).take q).length < 2 := by rw [List.length_take]; omega
  rw [List.take_succ_cons]
  rw [int64R_cons, show (UInt8.ofNat 205).toNat = 205 from rfl, if_neg (by decide), if_neg (by decide)]
  unfold int64RC
  rw [if_neg (by decide)]; rw [if_neg (by decide)]; rw [if_neg (by decide)];
  rw [if_pos rfl, if_pos hs]
theorem int64R_210 (u : Nat) (zs : List UInt8) : int64R (UInt8.ofNat 210 :: (beL u 4 ++ zs)) = some (sgn 4 (u % 4294967296), zs) := by
  have hl : (beL u 4).length = 4 := rfl
  rw [int64R_cons, show (UInt8.ofNat 210).toNat = 210 from rfl, if_neg (by decide), if_neg (by decide)]
  unfold int64RC
  rw [if_neg (by decide)]; rw [if_neg (by decide)]; rw [if_neg (by decide)]; rw [if_neg (by decide)];
  rw [if_pos rfl, if_neg (by rw [List.length_append, hl]; omega), List.take_left' hl, List.drop_left' hl, bigU_beL4']
theorem int64R_210q (u : Nat) (q : Nat) (hq : q < 5) : int64R ((UInt8.ofNat 210 :: beL u 4).take q) = none := by
  rcases q with _ | q
  · rfl
  have hl : (beL u 4).length = 4 := rfl
  have hs : ((beL u 4).take q).length < 4 := by rw [List.length_take]; omega
  rw [List.take_succ_cons]
  rw [int64R_cons, show (UInt8.ofNat 210).toNat = 210 from rfl, if_neg (by decide), if_neg (by decide)]
  unfold int64RC
  rw [if_neg (by decide)]; rw [if_neg (by decide)]; rw [if_neg (by decide)]; rw [if_neg (by decide)];
  rw [if_pos rfl, if_pos hs]
theorem int64R_206 (u : Nat) (zs : List UInt8) : int64R (UInt8.ofNat 206 :: (beL u 4 ++ zs)) = some ((((u % 4294967296) : Nat) : Int), zs) := by
  have hl : (beL u 4).length = 4 := rfl
  rw [int64R_cons, show (UInt8.ofNat 206).toNat = 206 from rfl, if_neg (by decide), if_neg (by decide)]
  unfold int64RC
  rw [if_neg (by decide)]; rw [if_neg (by decide)]; rw [if_neg (by decide)]; rw [if_neg (by decide)]; rw [if_neg (by decide)];
  rw [if_pos rfl, if_neg (by rw [List.length_append, hl]; omega), List.take_left' hl, List.drop_left' hl, bigU_beL4']
theorem int64R_206q (u : Nat) (q : Nat) (hq : q < 5) : int64R ((UInt8.ofNat 206 :: beL u 4).take q) = none := by
  rcases q with _ | q
  · rfl
  have hl : (beL u 4).length = 4 := rfl
  have hs : ((beL u 4).take q).length < 4 := by rw [List.length_take]; omega
  rw [List.take_succ_cons]
  rw [int64R_cons, show (UInt8.ofNat 206).toNat = 206 from rfl, if_neg (by decide), if_neg (by decide)]
  unfold int64RC
  rw [if_neg (by decide)]; rw [if_neg (by decide)]; rw [if_neg (by decide)]; rw [if_neg (by decide)]; rw [if_neg (by decide)];
  rw [if_pos rfl, if_pos hs]
theorem int64R_211 (u : Nat) (zs : List UInt8) : int64R (UInt8.ofNat 211 :: (beL u 8 ++ zs)) = some (sgn 8 (u % 18446744073709551616), zs) := by
  have hl : (beL u 8).length = 8 := rfl
  rw [int64R_cons, show (UInt8.ofNat 211).toNat = 211 from rfl, if_neg (by decide), if_neg (by decide)]
  unfold int64RC
  rw [if_neg (by decide)]; rw [if_neg (by decide)]; rw [if_neg (by decide)]; rw [if_neg (by decide)]; rw [if_neg (by decide)]; rw [if_neg (by decide)];
  rw [if_pos rfl, if_neg (by rw [List.length_append, hl]; omega), List.take_left' hl, List.drop_left' hl, bigU_beL8]
theorem int64R_211q (u : Nat) (q : Nat) (hq : q < 9) : int64R ((UInt8.ofNat 211 :: beL u 8).take q) = none := by
  rcases q with _ | q
  · rfl
  have hl : (beL u 8).length = 8 := rfl
  have hs : ((beL u 8).take q).length < 8 := by rw [List.length_take]; omega
  rw [List.take_succ_cons]
  rw [int64R_cons, show (UInt8.ofNat 211).toNat = 211 from rfl, if_neg (by decide), if_neg (by decide)]
  unfold int64RC
  rw [if_neg (by decide)]; rw [if_neg (by decide)]; rw [if_neg (by decide)]; rw [if_neg (by decide)]; rw [if_neg (by decide)]; rw [if_neg (by decide)];
  rw [if_pos rfl, if_pos hs]
theorem int64R_207 (u : Nat) (zs : List UInt8) : int64R (UInt8.ofNat 207 :: (beL u 8 ++ zs)) = if 9223372036854775807 < (u % 18446744073709551616) then none else some ((((u % 18446744073709551616) : Nat) : Int), zs) := by
  have hl : (beL u 8).length = 8 := rfl
  rw [int64R_cons, show (UInt8.ofNat 207).toNat = 207 from rfl, if_neg (by decide), if_neg (by decide)]
  unfold int64RC
  rw [if_neg (by decide)]; rw [if_neg (by decide)]; rw [if_neg (by decide)]; rw [if_neg (by decide)]; rw [if_neg (by decide)]; rw [if_neg (by decide)]; rw [if_neg (by decide)];
  rw [if_pos rfl, if_neg (by rw [List.length_append, hl]; omega), List.take_left' hl, List.drop_left' hl, bigU_beL8]
theorem int64R_207q (u : Nat) (q : Nat) (hq : q < 9) : int64R ((UInt8.ofNat 207 :: beL u 8).take q) = none := by
  rcases q with _ | q
  · rfl
  have hl : (beL u 8).length = 8 := rfl
  have hs : ((beL u 8).take q).length < 8 := by rw [List.length_take]; omega
  rw [List.take_succ_cons]
  rw [int64R_cons, show (UInt8.ofNat 207).toNat = 207 from rfl, if_neg (by decide), if_neg (by decide)]
  unfold int64RC
  rw [if_neg (by decide)]; rw [if_neg (by decide)]; rw [if_neg (by decide)]; rw [if_neg (by decide)]; rw [if_neg (by decide)]; rw [if_neg (by decide)]; rw [if_neg (by decide)];
  rw [if_pos rfl, if_pos hs]
theorem int64R_no {h zs : List UInt8} {k : Int} (hh : ∃ b r, h = b :: r ∧ kindB b.toNat = k) (hk : k ≠ 3) : int64R (h ++ zs) = none ∧ ∀ q, int64R (h.take q) = none := by
  obtain ⟨b, r, rfl, hb⟩ := hh
  have key : ∀ x, int64R (b :: x) = none := by
    intro x
    have hlo : ¬ b.toNat < 128 := fun h => hk (by rw [← hb]; unfold kindB; rw [if_pos h])
    have hhi : ¬ 224 ≤ b.toNat := fun h => hk (by
      rw [← hb]
      unfold kindB
      rw [if_neg (by omega), if_neg (by omega), if_neg (by omega), if_neg (by omega), if_neg (by omega), if_neg (by omega), if_neg (by omega), if_neg (by omega), if_neg (by omega), if_neg (by omega), if_neg (by omega), if_neg (by omega), if_neg (by omega), if_neg (by omega), if_neg (by omega), if_neg (by omega)])
    have hn : ∀ c, kindB c = 3 → b.toNat ≠ c := fun c hc h => hk (by rw [← hb, h]; exact hc)
    rw [int64R_cons, if_neg hlo, if_neg hhi]
    unfold int64RC
    rw [if_neg (hn 208 (by decide)), if_neg (hn 204 (by decide)), if_neg (hn 209 (by decide)), if_neg (hn 205 (by decide)), if_neg (hn 210 (by decide)), if_neg (hn 206 (by decide)), if_neg (hn 211 (by decide)), if_neg (hn 207 (by decide))]
  refine ⟨by rw [List.cons_append]; exact key _, fun q => ?_⟩
  rcases q with _ | q
  · rfl
  · rw [List.take_succ_cons]
    exact key _
theorem uint64R_cons (b : UInt8) (r : List UInt8) : uint64R (b :: r) = if b.toNat < 128 then some ((b.toNat : Int), r) else uint64RC b.toNat r := rfl
theorem uint64R_208 (u : Nat) (zs : List UInt8) : uint64R (UInt8.ofNat 208 :: (beL u 1 ++ zs)) = if sgn 1 (u % 256) < 0 then none else some (sgn 1 (u % 256), zs) := by
  have hl : (beL u 1).length = 1 := rfl
  rw [uint64R_cons, show (UInt8.ofNat 208).toNat = 208 from rfl, if_neg (by decide)]
  unfold uint64RC
  skip
  rw [if_pos rfl, if_neg (by rw [List.length_append, hl]; omega), List.take_left' hl, List.drop_left' hl, bigU_beL1]
theorem uint64R_208q (u : Nat) (q : Nat) (hq : q < 2) : uint64R ((UInt8.ofNat 208 :: beL u 1).take q) = none := by
  rcases q with _ | q
  · rfl
  have hl : (beL u 1).length = 1 := rfl
  have hs : ((beL u 1).take q).length < 1 := by rw [List.length_take]; omega
  rw [List.take_succ_cons]
  rw [uint64R_cons, show (UInt8.ofNat 208).toNat = 208 from rfl, if_neg (by decide)]
  unfold uint64RC
  skip
  rw [if_pos rfl, if_pos hs]
theorem uint64R_204 (u : Nat) (zs : List UInt8) : uint64R (UInt8.ofNat 204 :: (beL u 1 ++ zs)) = some ((((u % 256) : Nat) : Int), zs) := by
  have hl : (beL u 1).length = 1 := rfl
  rw [uint64R_cons, show (UInt8.ofNat 204).toNat = 204 from rfl, if_neg (by decide)]
  unfold uint64RC
  rw [if_neg (by decide)];
  rw [if_pos rfl, if_neg (by rw [List.length_append, hl]; omega), List.take_left' hl, List.drop_left' hl, bigU_beL1]
theorem uint64R_204q (u : Nat) (q : Nat) (hq : q < 2) : uint64R ((UInt8.ofNat 204 :: beL u 1).take q) = none := by
  rcases q with _ | q
  · rfl
  have hl : (beL u 1).length = 1 := rfl
  have hs : ((beL u 1).take q).length < 1 := by rw [List.length_take]; omega
  rw [List.take_succ_cons]
  rw [uint64R_cons, show (UInt8.ofNat 204).toNat = 204 from rfl, if_neg (by decide)]
  unfold uint64RC
  rw [if_neg (by decide)];
  rw [if_pos rfl, if_pos hs]
theorem uint64R_209 (u : Nat) (zs : List UInt8) : uint64R (UInt8.ofNat 209 :: (beL u 2 ++ zs)) = if sgn 2 (u % 65536) < 0 then none else some (sgn 2 (u % 65536), zs) := by
  have hl : (beL u 2).length = 2 := rfl
  rw [uint64R_cons, show (UInt8.ofNat 209).toNat = 209 from rfl, if_neg (by decide)]
  unfold uint64RC
  rw [if_neg (by decide)]; rw [if_neg (by decide)];
  rw [if_pos rfl, if_neg (by rw [List.length_append, hl]; omega), List.take_left' hl, List.drop_left' hl, bigU_beL2']
theorem uint64R_209q (u : Nat) (q : Nat) (hq : q < 3) : uint64R ((UInt8.ofNat 209 :: beL u 2).take q) = none := by
  rcases q with _ | q
  · rfl
  have hl : (beL u 2).length = 2 := rfl
  have hs : ((beL u 2).take q).length < 2 := by rw [List.length_take]; omega
  rw [List.take_succ_cons]
  rw [uint64R_cons, show (UInt8.ofNat 209).toNat = 209 from rfl, if_neg (by decide)]
  unfold uint64RC
  rw [if_neg (by decide)]; rw [if_neg (by decide)];
  rw [if_pos rfl, if_pos hs]
theorem uint64R_205 (u : Nat) (zs : List UInt8) : uint64R (UInt8.ofNat 205 :: (beL u 2 ++ zs)) = some ((((u % 65536) : Nat) : Int), zs) := by
  have hl : (beL u 2).length = 2 := rfl
  rw [uint64R_cons, show (UInt8.ofNat 205).toNat = 205 from rfl, if_neg (by decide)]
  unfold uint64RC
  rw [if_neg (by decide)]; rw [if_neg (by decide)]; rw [if_neg (by decide)];
  rw [if_pos rfl, if_neg (by rw [List.length_append, hl]; omega), List.take_left' hl, List.drop_left' hl, bigU_beL2']
theorem uint64R_205q (u : Nat) (q : Nat) (hq : q < 3) : uint64R ((UInt8.ofNat 205 :: beL u 2).take q) = none := by
  rcases q with _ | q
  · rfl
  have hl : (beL u 2).length = 2 := rfl
  have hs : ((beL u 2).take q).length < 2 := by rw [List.length_take]; omega
  rw [List.take_succ_cons]
  rw [uint64R_cons, show (UInt8.ofNat 205).toNat = 205 from rfl, if_neg (by decide)]
  unfold uint64RC
  rw [if_neg (by decide)]; rw [if_neg (by decide)]; rw [if_neg (by decide)];
  rw [if_pos rfl, if_pos hs]
theorem uint64R_210 (u : Nat) (zs : List UInt8) : uint64R (UInt8.ofNat 210 :: (beL u 4 ++ zs)) = if sgn 4 (u % 4294967296) < 0 then none else some (sgn 4 (u % 4294967296), zs) := by
  have hl : (beL u 4).length = 4 := rfl
  rw [uint64R_cons, show (UInt8.ofNat 210).toNat = 210 from rfl, if_neg (by decide)]
  unfold uint64RC
  rw [if_neg (by decide)]; rw [if_neg (by decide)]; rw [if_neg (by decide)]; rw [if_neg (by decide)];
  rw [if_pos rfl, if_neg (by rw [List.length_append, hl]; omega), List.take_left' hl, List.drop_left' hl, bigU_beL4']
theorem uint64R_210q (u : Nat) (q : Nat) (hq : q < 5) : uint64R ((UInt8.ofNat 210 :: beL u 4).take q) = none := by
  rcases q with _ | q
  · rfl
  have hl : (beL u 4).length = 4 := rfl
  have hs : ((beL u 4).take q).length < 4 := by rw [List.length_take]; omega
  rw [List.take_succ_cons]
  rw [uint64R_cons, show (UInt8.ofNat 210).toNat = 210 from rfl, if_neg (by decide)]
  unfold uint64RC
  rw [if_neg (by decide)]; rw [if_neg (by decide)]; rw [if_neg (by decide)]; rw [if_neg (by decide)];
  rw [if_pos rfl, if_pos hs]
theorem uint64R_206 (u : Nat) (zs : List UInt8) : uint64R (UInt8.ofNat 206 :: (beL u 4 ++ zs)) = some ((((u % 4294967296) : Nat) : Int), zs) := by
  have hl : (beL u 4).length = 4 := rfl
  rw [uint64R_cons, show (UInt8.ofNat 206).toNat = 206 from rfl, if_neg (by decide)]
  unfold uint64RC
  rw [if_neg (by decide)]; rw [if_neg (by decide)]; rw [if_neg (by decide)]; rw [if_neg (by decide)]; rw [if_neg (by decide)];
  rw [if_pos rfl, if_neg (by rw [List.length_append, hl]; omega), List.take_left' hl, List.drop_left' hl, bigU_beL4']
theorem uint64R_206q (u : Nat) (q : Nat) (hq : q < 5) : uint64R ((UInt8.ofNat 206 :: beL u 4).take q) = none := by
  rcases q with _ | q
  · rfl
  have hl : (beL u 4).length = 4 := rfl
  have hs : ((beL u 4).take q).length < 4 := by rw [List.length_take]; omega
  rw [List.take_succ_cons]
  rw [uint64R_cons, show (UInt8.ofNat 206).toNat = 206 from rfl, if_neg (by decide)]
  unfold uint64RC
  rw [if_neg (by decide)]; rw [if_neg (by decide)]; rw [if_neg (by decide)]; rw [if_neg (by decide)]; rw [if_neg (by decide)];
  rw [if_pos rfl, if_pos hs]
theorem uint64R_211 (u : Nat) (zs : List UInt8) : uint64R (UInt8.ofNat 211 :: (beL u 8 ++ zs)) = if sgn 8 (u % 18446744073709551616) < 0 then none else some (sgn 8 (u % 18446744073709551616), zs) := by
  have hl : (beL u 8).length = 8 := rfl
  rw [uint64R_cons, show (UInt8.ofNat 211).toNat = 211 from rfl, if_neg (by decide)]
  unfold uint64RC
  rw [if_neg (by decide)]; rw [if_neg (by decide)]; rw [if_neg (by decide)]; rw [if_neg (by decide)]; rw [if_neg (by decide)]; rw [if_neg (by decide)];
  rw [if_pos rfl, if_neg (by rw [List.length_append, hl]; omega), List.take_left' hl, List.drop_left' hl, bigU_beL8]
theorem uint64R_211q (u : Nat) (q : Nat) (hq : q < 9) : uint64R ((UInt8.ofNat 211 :: beL u 8).take q) = none := by
  rcases q with _ | q
  · rfl
  have hl : (beL u 8).length = 8 := rfl
  have hs : ((beL u 8).take q).length < 8 := by rw [List.length_take]; omega
  rw [List.take_succ_cons]
  rw [uint64R_cons, show (UInt8.ofNat 211).toNat = 211 from rfl, if_neg (by decide)]
  unfold uint64RC
  rw [if_neg (by decide)]; rw [if_neg (by decide)]; rw [if_neg (by decide)]; rw [if_neg (by decide)]; rw [if_neg (by decide)]; rw [if_neg (by decide)];
  rw [if_pos rfl, if_pos hs]
theorem uint64R_207 (u : Nat) (zs : List UInt8) : uint64R (UInt8.ofNat 207 :: (beL u 8 ++ zs)) = some ((((u % 18446744073709551616) : Nat) : Int), zs) := by
  have hl : (beL u 8).length = 8 := rfl
  rw [uint64R_cons, show (UInt8.ofNat 207).toNat = 207 from rfl, if_neg (by decide)]
  unfold uint64RC
  rw [if_neg (by decide)]; rw [if_neg (by decide)]; rw [if_neg (by decide)]; rw [if_neg (by decide)]; rw [if_neg (by decide)]; rw [if_neg (by decide)]; rw [if_neg (by decide)];
  rw [if_pos rfl, if_neg (by rw [List.length_append, hl]; omega), List.take_left' hl, List.drop_left' hl, bigU_beL8]
theorem uint64R_207q (u : Nat) (q : Nat) (hq : q < 9) : uint64R ((UInt8.ofNat 207 :: beL u 8).take q) = none := by
  rcases q with _ | q
  · rfl
  have hl : (beL u 8).length = 8 := rfl
  have hs : ((beL u 8).take q).length < 8 := by rw [List.length_take]; omega
  rw [List.take_succ_cons]
  rw [uint64R_cons, show (UInt8.ofNat 207).toNat = 207 from rfl, if_neg (by decide)]
  unfold uint64RC
  rw [if_neg (by decide)]; rw [if_neg (by decide)]; rw [if_neg (by decide)]; rw [if_neg (by decide)]; rw [if_neg (by decide)]; rw [if_neg (by decide)]; rw [if_neg (by decide)];
  rw [if_pos rfl, if_pos hs]
theorem uint64R_no {h zs : List UInt8} {k : Int} (hh : ∃ b r, h = b :: r ∧ kindB b.toNat = k) (hk : k ≠ 3) : uint64R (h ++ zs) = none ∧ ∀ q, uint64R (h.take q) = none := by
  obtain ⟨b, r, rfl, hb⟩ := hh
  have key : ∀ x, uint64R (b :: x) = none := by
    intro x
    have hlo : ¬ b.toNat < 128 := fun h => hk (by rw [← hb]; unfold kindB; rw [if_pos h])
    have hn : ∀ c, kindB c = 3 → b.toNat ≠ c := fun c hc h => hk (by rw [← hb, h]; exact hc)
    rw [uint64R_cons, if_neg hlo]
    unfold uint64RC
    rw [if_neg (hn 208 (by decide)), if_neg (hn 204 (by decide)), if_neg (hn 209 (by decide)), if_neg (hn 205 (by decide)), if_neg (hn 210 (by decide)), if_neg (hn 206 (by decide)), if_neg (hn 211 (by decide)), if_neg (hn 207 (by decide))]
  refine ⟨by rw [List.cons_append]; exact key _, fun q => ?_⟩
  rcases q with _ | q
  · rfl
  · rw [List.take_succ_cons]
    exact key _
theorem sgn_small (s u : Nat) (h : u < 2 ^ (8 * s - 1)) : sgn s u = u := by unfold sgn; rw [if_pos h]
theorem int64R_pos {u : Nat} {h : List UInt8} (hh : posF u h) (hu : u < 9223372036854775808) (zs : List UInt8) : int64R (h ++ zs) = some ((u : Int), zs) ∧ ∀ q, q < h.length → int64R (h.take q) = none := by
  unfold posF at hh
  rcases hh with ⟨h1, rfl⟩ | ⟨h1, rfl⟩ | ⟨h1, rfl⟩ | ⟨h1, rfl⟩ | rfl | ⟨h1, rfl⟩ | ⟨h1, rfl⟩ | ⟨h1, rfl⟩ | ⟨h1, rfl⟩
  · have e : (UInt8.ofNat u).toNat = u := by simp; omega
    refine ⟨by rw [List.singleton_append, int64R_cons, e, if_pos h1], fun q hq => ?_⟩
    have : q = 0 := by simpa using hq
    subst this
    rfl
  · refine ⟨?_, fun q hq => int64R_204q u q (by simpa [beL] using hq)⟩
    rw [List.cons_append, int64R_204, Nat.mod_eq_of_lt (by omega)]
  · refine ⟨?_, fun q hq => int64R_205q u q (by simpa [beL] using hq)⟩
    rw [List.cons_append, int64R_205, Nat.mod_eq_of_lt (by omega)]
  · refine ⟨?_, fun q hq => int64R_206q u q (by simpa [beL] using hq)⟩
    rw [List.cons_append, int64R_206, Nat.mod_eq_of_lt (by omega)]
  · refine ⟨?_, fun q hq => int64R_207q u q (by simpa [beL] using hq)⟩
    rw [List.cons_append, int64R_207, Nat.mod_eq_of_lt (by omega), if_neg (by omega)]
  · refine ⟨?_, fun q hq => int64R_208q u q (by simpa [beL] using hq)⟩
    rw [List.cons_append, int64R_208, Nat.mod_eq_of_lt (by omega), sgn_small 1 u (by omega)]
  · refine ⟨?_, fun q hq => int64R_209q u q (by simpa [beL] using hq)⟩
    rw [List.cons_append, int64R_209, Nat.mod_eq_of_lt (by omega), sgn_small 2 u (by omega)]
  · refine ⟨?_, fun q hq => int64R_210q u q (by simpa [beL] using hq)⟩
    rw [List.cons_append, int64R_210, Nat.mod_eq_of_lt (by omega), sgn_small 4 u (by omega)]
  · refine ⟨?_, fun q hq => int64R_211q u q (by simpa [beL] using hq)⟩
    rw [List.cons_append, int64R_211, Nat.mod_eq_of_lt (by omega), sgn_small 8 u (by omega)]
theorem int64R_big {u : Nat} {h : List UInt8} (hh : posF u h) (hu : 9223372036854775808 ≤ u) (hu2 : u < 18446744073709551616) (zs : List UInt8) : int64R (h ++ zs) = none ∧ ∀ q, q < h.length → int64R (h.take q) = none := by
  unfold posF at hh
  rcases hh with ⟨h1, rfl⟩ | ⟨h1, rfl⟩ | ⟨h1, rfl⟩ | ⟨h1, rfl⟩ | rfl | ⟨h1, rfl⟩ | ⟨h1, rfl⟩ | ⟨h1, rfl⟩ | ⟨h1, rfl⟩
  · omega
  · omega
  · omega
  · omega
  · refine ⟨?_, fun q hq => int64R_207q u q (by simpa [beL] using hq)⟩
    rw [List.cons_append, int64R_207, Nat.mod_eq_of_lt (by omega), if_pos (by omega)]
  · omega
  · omega
  · omega
  · omega
set_option maxRecDepth 100000 in
theorem int64R_neg {u : Nat} {h : List UInt8} (hh : negF u h) (hu : 9223372036854775808 ≤ u) (hu2 : u < 18446744073709551616) (zs : List UInt8) : int64R (h ++ zs) = some ((u : Int) - 18446744073709551616, zs) ∧ ∀ q, q < h.length → int64R (h.take q) = none := by
  unfold negF at hh
  rcases hh with ⟨h1, rfl⟩ | ⟨h1, rfl⟩ | ⟨h1, rfl⟩ | ⟨h1, rfl⟩ | rfl
  · have e : (UInt8.ofNat u).toNat = u - 18446744073709551360 := by simp; omega
    refine ⟨?_, fun q hq => ?_⟩
    · rw [List.singleton_append, int64R_cons, e, if_neg (by omega), if_pos (by omega), show (((u - 18446744073709551360 : Nat) : Int) - 256) = (u : Int) - 18446744073709551616 by omega]
    · have : q = 0 := by simpa using hq
      subst this
      rfl
  · refine ⟨?_, fun q hq => int64R_208q u q (by simpa [beL] using hq)⟩
    rw [List.cons_append, int64R_208, show sgn 1 (u % 256) = (u : Int) - 18446744073709551616 by simp [sgn]; split <;> omega]
  · refine ⟨?_, fun q hq => int64R_209q u q (by simpa [beL] using hq)⟩
    rw [List.cons_append, int64R_209, show sgn 2 (u % 65536) = (u : Int) - 18446744073709551616 by simp [sgn]; split <;> omega]
  · refine ⟨?_, fun q hq => int64R_210q u q (by simpa [beL] using hq)⟩
    rw [List.cons_append, int64R_210, show sgn 4 (u % 4294967296) = (u : Int) - 18446744073709551616 by simp [sgn]; split <;> omega]
  · refine ⟨?_, fun q hq => int64R_211q u q (by simpa [beL] using hq)⟩
    rw [List.cons_append, int64R_211, show sgn 8 (u % 18446744073709551616) = (u : Int) - 18446744073709551616 by simp [sgn]; split <;> omega]
theorem uint64R_pos {u : Nat} {h : List UInt8} (hh : posF u h) (hu : u < 18446744073709551616) (zs : List UInt8) : uint64R (h ++ zs) = some ((u : Int), zs) ∧ ∀ q, q < h.length → uint64R (h.take q) = none := by
  unfold posF at hh
  rcases hh with ⟨h1, rfl⟩ | ⟨h1, rfl⟩ | ⟨h1, rfl⟩ | ⟨h1, rfl⟩ | rfl | ⟨h1, rfl⟩ | ⟨h1, rfl⟩ | ⟨h1, rfl⟩ | ⟨h1, rfl⟩
  · have e : (UInt8.ofNat u).toNat = u := by simp; omega
    refine ⟨by rw [List.singleton_append, uint64R_cons, e, if_pos h1], fun q hq => ?_⟩
    have : q = 0 := by simpa using hq
    subst this
    rfl
  · refine ⟨?_, fun q hq => uint64R_204q u q (by simpa [beL] using hq)⟩
    rw [List.cons_append, uint64R_204, Nat.mod_eq_of_lt (by omega)]
  · refine ⟨?_, fun q hq => uint64R_205q u q (by simpa [beL] using hq)⟩
    rw [List.cons_append, uint64R_205, Nat.mod_eq_of_lt (by omega)]
  · refine ⟨?_, fun q hq => uint64R_206q u q (by simpa [beL] using hq)⟩
    rw [List.cons_append, uint64R_206, Nat.mod_eq_of_lt (by omega)]
  · refine ⟨?_, fun q hq => uint64R_207q u q (by simpa [beL] using hq)⟩
    rw [List.cons_append, uint64R_207, Nat.mod_eq_of_lt (by omega)]
  · refine ⟨?_, fun q hq => uint64R_208q u q (by simpa [beL] using hq)⟩
    rw [List.cons_append, uint64R_208, Nat.mod_eq_of_lt (by omega), sgn_small 1 u (by omega), if_neg (by omega)]
  · refine ⟨?_, fun q hq => uint64R_209q u q (by simpa [beL] using hq)⟩
    rw [List.cons_append, uint64R_209, Nat.mod_eq_of_lt (by omega), sgn_small 2 u (by omega), if_neg (by omega)]
  · refine ⟨?_, fun q hq => uint64R_210q u q (by simpa [beL] using hq)⟩
    rw [List.cons_append, uint64R_210, Nat.mod_eq_of_lt (by omega), sgn_small 4 u (by omega), if_neg (by omega)]
  · refine ⟨?_, fun q hq => uint64R_211q u q (by simpa [beL] using hq)⟩
    rw [List.cons_append, uint64R_211, Nat.mod_eq_of_lt (by omega), sgn_small 8 u (by omega), if_neg (by omega)]
set_option maxRecDepth 100000 in
theorem uint64R_neg {u : Nat} {h : List UInt8} (hh : negF u h) (hu : 9223372036854775808 ≤ u) (hu2 : u < 18446744073709551616) (zs : List UInt8) : uint64R (h ++ zs) = none ∧ ∀ q, q < h.length → uint64R (h.take q) = none := by
  unfold negF at hh
  rcases hh with ⟨h1, rfl⟩ | ⟨h1, rfl⟩ | ⟨h1, rfl⟩ | ⟨h1, rfl⟩ | rfl
  · have e : (UInt8.ofNat u).toNat = u - 18446744073709551360 := by simp; omega
    refine ⟨?_, fun q hq => ?_⟩
    · rw [List.singleton_append, uint64R_cons, e, if_neg (by omega)]
      unfold uint64RC
      rw [if_neg (by omega), if_neg (by omega), if_neg (by omega), if_neg (by omega), if_neg (by omega), if_neg (by omega), if_neg (by omega), if_neg (by omega)]
    · have : q = 0 := by simpa using hq
      subst this
      rfl
  · refine ⟨?_, fun q hq => uint64R_208q u q (by simpa [beL] using hq)⟩
    rw [List.cons_append, uint64R_208, if_pos (by simp [sgn]; split <;> omega)]
  · refine ⟨?_, fun q hq => uint64R_209q u q (by simpa [beL] using hq)⟩
    rw [List.cons_append, uint64R_209, if_pos (by simp [sgn]; split <;> omega)]
  · refine ⟨?_, fun q hq => uint64R_210q u q (by simpa [beL] using hq)⟩
    rw [List.cons_append, uint64R_210, if_pos (by simp [sgn]; split <;> omega)]
  · refine ⟨?_, fun q hq => uint64R_211q u q (by simpa [beL] using hq)⟩
    rw [List.cons_append, uint64R_211, if_pos (by simp [sgn]; split <;> omega)]
end Go.Proofs.YtpmcljjhjjmlfaaDoor
