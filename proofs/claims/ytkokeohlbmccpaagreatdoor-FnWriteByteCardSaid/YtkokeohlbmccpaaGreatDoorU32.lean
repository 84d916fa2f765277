/-
  encoding.writeUint32 into a buffer of one's own; what it writes is read back. Conditions: fewer than 2^40 bytes.
-/
import Derived.Test.YtkokeohlbmccpaaGreatDoorWrote2
namespace Go.Proofs.YtkokeohlbmccpaaGreatDoor
set_option linter.unusedSimpArgs false
set_option linter.unusedVariables false
open Go.RowKit
theorem Buf.alloc {w : World} {p : Nat} {bs : List UInt8} (h : Buf w p bs) (o : Obj) : Buf (w.alloc o) p bs := by
  obtain ⟨v, hb, ho⟩ := h
  exact ⟨v, hb.alloc o, own_below ho ((Below.refl _ _).alloc (Nat.le_refl _) _)⟩
/-- The four bytes of a number, the highest first. -/
def be4 (n : Nat) : List UInt8 := [UInt8.ofNat (n / 16777216), UInt8.ofNat (n / 65536), UInt8.ofNat (n / 256), UInt8.ofNat n]
/-- What encoding.writeUint32 writes. -/
def u32E (n : Nat) : List UInt8 := if n = 0 then [67] else if n < 256 then [82, UInt8.ofNat n] else 112 :: be4 n
theorem u32E_len (n : Nat) : (u32E n).length ≤ 5 := by
  unfold u32E
  split
  · simp
  split <;> simp [be4]
theorem bigA_be4 (n : Nat) (hn : n < 4294967296) : bigA (be4 n) = n := by
  simp [bigA, be4]
  omega
theorem uint_read (n : Nat) (hn : n < 4294967296) : (lvl 8).val (u32E n) = some (some (.mk 4 n [] [] 0 [], [])) := by
  unfold u32E
  split
  · rename_i h
    subst h
    simp [lvl, consW, takeW, kOf, show (67 : UInt8).toNat = 67 from rfl, bigA]
  split
  · rename_i h0 h
    have h1 : n % 256 = n := by omega
    simp [lvl, consW, takeW, kOf, show (82 : UInt8).toNat = 82 from rfl, bigA, h1]
  · have h1 := bigA_be4 n hn
    simp [lvl, consW, takeW, kOf, show (112 : UInt8).toNat = 112 from rfl]
    have h2 : (be4 n).length = 4 := rfl
    have h3 : (be4 n).take 4 = be4 n := rfl
    have h4 : (be4 n).drop 4 = [] := rfl
    simp [h2, h3, h4, h1]
set_option maxHeartbeats 400000 in
theorem writeUint32_any (p : Nat) (bs : List UInt8) (n : Nat) (hn : n < 4294967296) (w : World) (h : Buf w p bs) (hlen : bs.length ≤ 1000000) :
    Calls Tryz.prog 28 #[.pointer (some ⟨p, 0, none⟩), .int .u32 n] w fun e w' => e = .returned (.tuple #[]) ∧ Buf w' p (bs ++ u32E n) ∧ Below p w w' := by
  have hp := h.lt
  unfold u32E
  by_cases h0 : n = 0
  · subst h0
    rw [if_pos rfl]
    go_enter Tryz.func28, Tryz.ntmps28
    go_wp2_with (go_at_call 26; go_loud (refine (appendByte_any p bs 67 _ h (by omega)).mono ?_; rintro e w1 ⟨rfl, hb1, hw1⟩))
    refine bodyPost_ret (v := .tuple #[]) (by simp [results, Tryz.results28, go_sem]) rfl ?_
    exact ⟨rfl, hb1, hw1⟩
  rw [if_neg h0]
  have h1 : ((n : Int) == 0) = false := by simp; omega
  by_cases h2 : n < 256
  · rw [if_pos h2]
    have h3 : (n : Int) < 256 := by omega
    have HR : RB (w.alloc (.cells #[.int .u8 82, .int .u8 n] 5)) (fun _ => True) (some ⟨w.heap.size, 0, none⟩) [82, UInt8.ofNat n] := row5' [.int .u8 82, .int .u8 n] _ (by simp [u8]; omega) rfl
    have HB := hide (h.alloc (.cells #[.int .u8 82, .int .u8 n] 5))
    go_enter Tryz.func28, Tryz.ntmps28
    go_wp2_with (go_at_call 30; go_loud (refine (append_any (fun _ => True) p bs [82, UInt8.ofNat n] _ 2 2 _ rfl HR (by simp) (unhide HB) (by omega)).mono ?_; rintro e w1 ⟨rfl, hb1, hw1⟩))
    refine bodyPost_ret (v := .tuple #[]) (by simp [results, Tryz.results28, go_sem]) rfl ?_
    exact ⟨rfl, hb1, ((by repeat (first | with_reducible exact Below.refl _ _ | with_reducible exact x | with_reducible refine Below.alloc ?_ (by first | omega | (simp; omega) | (simp; done)) _ | with_reducible refine Below.setCell ?_ (by first | omega | (simp; omega) | (simp; done)) _ | with_reducible refine Below.drew ?_ | with_reducible refine below_drewN ?_ _)) : Below p w (w.alloc _)).trans hw1⟩
  · rw [if_neg h2]
    have h3 : ¬ (n : Int) < 256 := by omega
    go_enter Tryz.func28, Tryz.ntmps28
    go_wp2_with (first
      | (go_at_call 26; go_loud (refine (appendByte_any p bs 112 _ h (by omega)).mono ?_; rintro e w1 ⟨rfl, hb1, hw1⟩))
      | (go_at_call 65; go_loud (refine (appendUint32_any p (bs ++ [112]) n _ hb1 (by simp; omega) hn).mono ?_; rintro e w2 ⟨rfl, hb2, hw2⟩)))
    go_end0
    exact ⟨rfl, by simpa [be4] using hb2, hw1.trans hw2⟩
end Go.Proofs.YtkokeohlbmccpaaGreatDoor
