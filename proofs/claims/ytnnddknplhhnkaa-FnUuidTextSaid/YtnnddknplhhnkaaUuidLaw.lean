/-
  impl.UuidText, and the walk of the law FnUuidText: it answers true for every string.
-/
import Derived.Test.YtnnddknplhhnkaaUuid
namespace Go.Proofs.Ytnnddknplhhnkaa
open Go.RowKit
theorem uuidText_any (s : ByteArray) (hl : s.size = 16) (w : World) :
    Calls Try.prog 4 #[.string s] w fun e w' => e = .returned (.tuple #[.string ⟨(uuidTxt s.data.toList).toArray⟩, .bool true]) ∧ Below w.heap.size w w' := by
  have hs : ((s.size : Int) != 16) = false := by simp [hl]
  have HL := hide hl
  clear hl
  go_enter Try.func4, Try.ntmps4
  go_wp2_with (first | (go_at_call 5; refine (uuid_any s (unhide HL) _).mono ?_; rintro e w1 ⟨rfl, hb1⟩; have HB := hide hb1.size) | (go_at_call 6; refine (uuidString_any s.data.toList ?x1 _).mono ?_; (case x1 => have := unhide HL; simpa using this); rintro e w2 ⟨rfl, hb2⟩))
  go_ret2
  exact ⟨rfl, hb1.trans (hb2.mono (unhide HB))⟩
theorem uuidText_const (w : World) :
    Calls Try.prog 4 #[.string ⟨#[97, 98, 99, 100, 101, 102, 103, 104, 105, 106, 107, 108, 109, 110, 111, 112]⟩] w fun e w' => e = .returned (.tuple #[.string ⟨#[54, 49, 54, 50, 54, 51, 54, 52, 45, 54, 53, 54, 54, 45, 54, 55, 54, 56, 45, 54, 57, 54, 97, 45, 54, 98, 54, 99, 54, 100, 54, 101, 54, 102, 55, 48]⟩, .bool true]) ∧ Below w.heap.size w w' := by
  refine (uuidText_any _ rfl w).mono ?_
  rintro e w' ⟨rfl, h⟩
  exact ⟨by rw [show (uuidTxt (⟨#[97, 98, 99, 100, 101, 102, 103, 104, 105, 106, 107, 108, 109, 110, 111, 112]⟩ : ByteArray).data.toList).toArray = #[54, 49, 54, 50, 54, 51, 54, 52, 45, 54, 53, 54, 54, 45, 54, 55, 54, 56, 45, 54, 57, 54, 97, 45, 54, 98, 54, 99, 54, 100, 54, 101, 54, 102, 55, 48] from by decide +kernel], h⟩
/-- The law's own text behind k rounds. -/
def txtTo (bs : List UInt8) : Nat → List UInt8
  | 0 => []
  | k + 1 => txtTo bs k ++ (if k = 4 ∨ k = 6 ∨ k = 8 ∨ k = 10 then [45] else []) ++ [hexU ((bs.getD k 0).toNat / 16), hexU ((bs.getD k 0).toNat % 16)]
theorem txtTo_core (a0 a1 a2 a3 a4 a5 a6 a7 a8 a9 a10 a11 a12 a13 a14 a15 : UInt8) : txtTo [a0, a1, a2, a3, a4, a5, a6, a7, a8, a9, a10, a11, a12, a13, a14, a15] 16 = uuidTxt [a0, a1, a2, a3, a4, a5, a6, a7, a8, a9, a10, a11, a12, a13, a14, a15] := by
  simp [txtTo, uuidTxt]
theorem txtTo_eq (bs : List UInt8) (hl : bs.length = 16) : txtTo bs 16 = uuidTxt bs := by
  match bs, hl with
  | [a0, a1, a2, a3, a4, a5, a6, a7, a8, a9, a10, a11, a12, a13, a14, a15], _ => exact txtTo_core _ _ _ _ _ _ _ _ _ _ _ _ _ _ _ _
theorem txtTo_len (bs : List UInt8) (k : Nat) (h : k ≤ 16) : (txtTo bs k).length ≤ 3 * k := by
  induction k with
  | zero => simp [txtTo]
  | succ k ih =>
    have := ih (by omega)
    simp only [txtTo, List.length_append, List.length_cons, List.length_nil]
    split <;> simp <;> omega
set_option maxRecDepth 100000 in
theorem law_other (s : ByteArray) (h : s.size ≠ 16) (hm : s.size ≤ 9223372036854775807) (w : World) :
    Calls Try.prog 3 #[.string s] w fun e w' => e = .returned (.bool true) ∧ Below w.heap.size w w' := by
  have hs : ((s.size : Int) != 16) = true := by simp; omega
  by_cases hbig : 2147483647 < s.size
  · go_enter Try.func3, Try.ntmps3
    go_wp2
    go_ret
    exact ⟨rfl, Below.refl _ _⟩
  · go_enter Try.func3, Try.ntmps3
    go_wp2_with (go_at_call 4; refine (uuidText_const _).mono ?_; rintro e w1 ⟨rfl, hb1⟩)
    go_ret
    exact ⟨rfl, hb1⟩
set_option maxRecDepth 100000 in
set_option maxHeartbeats 800000 in
theorem law_uuid (s : ByteArray) (h : s.size = 16) (w : World) :
    Calls Try.prog 3 #[.string s] w fun e w' => e = .returned (.bool true) ∧ Below w.heap.size w w' := by
  have hs : ((s.size : Int) != 16) = false := by simp [h]
  have hlt : ¬ (2147483647 : Int) < s.size := by omega
  have HL := hide h
  have h16 : s.size ≤ 16 := by omega
  have h17 : 16 ≤ s.size := by omega
  clear h
  go_enter Try.func3, Try.ntmps3
  go_wp2_with (go_at_call 4; refine (uuidText_const _).mono ?_; rintro e w1 ⟨rfl, hb1⟩)
  go_loopw [6, 7] (fun v i wr => ∃ k : Nat, k ≤ 16 ∧ i = .int .i64 k ∧ v = .string ⟨(txtTo s.data.toList k).toArray⟩ ∧ Below w.heap.size w wr) (fun _ i _ => 16 - (intOf i).toNat)
  case atStart => exact ⟨0, Nat.zero_le _, rfl, rfl, hb1⟩
  case round =>
    obtain ⟨k, hk, rfl, rfl, hbr⟩ := hrel
    by_cases hlt : k < 16
    · have hk2 : k < s.size := by omega
      have hv := UInt8.toNat_lt s[k]
      have hgd : s.data.toList.getD k 0 = s[k] := (by
        rw [List.getD_eq_getElem?_getD, Array.getElem?_toList, Array.getElem?_eq_getElem (show k < s.data.size from hk2)]
        rfl)
      have hlen := txtTo_len s.data.toList k (by omega)
      generalize hT : txtTo s.data.toList k = l at *
      have HT := hide hT
      have HG := hide hgd
      clear hT hgd
      have q1 : 0 ≤ (s[k].toNat : Int) / 16 ∧ (s[k].toNat : Int) / 16 < 16 := by omega
      have q2 : 0 ≤ (s[k].toNat : Int) % 16 ∧ (s[k].toNat : Int) % 16 < 16 := by omega
      have hcv : ∀ X Y : UInt8, (convert 25 9 (.slice (some ⟨wr.heap.size, 0, none⟩) 2 2)).run Try.prog (wr.alloc (Obj.cells #[.int .u8 (X.toNat : Int), .int .u8 (Y.toNat : Int)] 5)).drew = .ok (.string ⟨#[X, Y]⟩) (wr.alloc (Obj.cells #[.int .u8 (X.toNat : Int), .int .u8 (Y.toNat : Int)] 5)).drew :=
          fun X Y => cells_text (P := Try.prog) 25 9 5 Try.underlying25 Try.underlying5 Try.underlying9 (Blk.new wr 5 #[.int .u8 (X.toNat : Int), .int .u8 (Y.toNat : Int)]).drew (l := [X, Y]) rfl 2 rfl 2
      have ha1 : ∀ (X Y : UInt8) (W : World), (Op.stringOp .add ⟨l.toArray⟩ ⟨#[X, Y]⟩).run Try.prog W = .ok (.string ⟨(l ++ [X, Y]).toArray⟩) W := fun X Y W => run_string_add_lists (P := Try.prog) W l [X, Y] (by omega) (by simp)
      have ha2 : ∀ (W : World), (Op.stringOp .add ⟨l.toArray⟩ ⟨#[45]⟩).run Try.prog W = .ok (.string ⟨(l ++ [45]).toArray⟩) W := fun W => run_string_add_lists (P := Try.prog) W l [45] (by omega) (by simp)
      have ha3 : ∀ (X Y : UInt8) (W : World), (Op.stringOp .add ⟨(l ++ [45]).toArray⟩ ⟨#[X, Y]⟩).run Try.prog W = .ok (.string ⟨(l ++ [45] ++ [X, Y]).toArray⟩) W := fun X Y W => run_string_add_lists (P := Try.prog) W (l ++ [45]) [X, Y] (by simp; omega) (by simp)
      by_cases hd : k = 4 ∨ k = 6 ∨ k = 8 ∨ k = 10
      · have hsplit : ((k : Int) == 4) = true ∨ (((k : Int) == 4) = false ∧ ((k : Int) == 6) = true) ∨ (((k : Int) == 4) = false ∧ ((k : Int) == 6) = false ∧ ((k : Int) == 8) = true) ∨ (((k : Int) == 4) = false ∧ ((k : Int) == 6) = false ∧ ((k : Int) == 8) = false ∧ ((k : Int) == 10) = true) := by simp; omega
        have HD := hide hd
        clear hd
        rcases hsplit with t4 | ⟨t4, t6⟩ | ⟨t4, t6, t8⟩ | ⟨t4, t6, t8, t10⟩
        all_goals (
          go_wp2
          go_region
          go_wp2
          rw [hex_at, hex_at]
          refine ⟨⟨k + 1, by omega, by go_num, ?_, ?_⟩, by simp [intOf]; omega⟩
          · rw [txtTo, unhide HG, if_pos (unhide HD), unhide HT]
            simp
          · exact (hbr.alloc hbr.size _).drew)
      · have t4 : ((k : Int) == 4) = false := by simp; omega
        have t6 : ((k : Int) == 6) = false := by simp; omega
        have t8 : ((k : Int) == 8) = false := by simp; omega
        have t10 : ((k : Int) == 10) = false := by simp; omega
        have HD := hide hd
        clear hd
        go_wp2
        go_region
        go_wp2
        rw [hex_at, hex_at]
        refine ⟨⟨k + 1, by omega, by go_num, ?_, ?_⟩, by simp [intOf]; omega⟩
        · rw [txtTo, unhide HG, if_neg (unhide HD), unhide HT]
          simp
        · exact (hbr.alloc hbr.size _).drew
    · obtain rfl : k = 16 := by omega
      have heq := txtTo_eq s.data.toList (by have := unhide HL; simpa using this)
      rw [heq]
      clear heq
      go_wp2_with (go_at_call 4; refine (uuidText_any s (unhide HL) _).mono ?_; rintro e w2 ⟨rfl, hb2⟩)
      go_ret
      exact ⟨by simp, hbr.trans (hb2.mono hbr.size)⟩
end Go.Proofs.Ytnnddknplhhnkaa
