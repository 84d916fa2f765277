/-
  strconv.AppendInt and AppendUint at base 10, on bytes of one's own. Conditions: strconv's table of powers lies as its initialiser lays it.
-/
import Derived.Test.YtlnpiigdjjadiaaDoorLayConv
import Derived.Test.YtlnpiigdjjadiaaDoorGJSONSetInt16a
import Derived.Lib.ItoaLen
import Derived.WalkKit
import Derived.BigCall
namespace Go.Proofs.YtlnpiigdjjadiaaDoor
set_option linter.unusedSimpArgs false
set_option linter.unusedVariables false
set_option linter.unusedVariables false
open Go.RowKit
theorem tabMono {P : Program} {B B' : Nat} {w : World} {name : String} {k : IntKind} {zs : List Int} (h : Lib.TabBelow P B w name k zs) (hB : B ≤ B') : Lib.TabBelow P B' w name k zs := fun w' hb => h w' (hb.mono hB)
theorem itoaLenJ (x : Int) (h0 : -9223372036854775808 ≤ x) (h1 : x ≤ 18446744073709551615) : (Lib.itoa x).length ≤ 21 := by
  unfold Lib.itoa
  split
  · have := Lib.nDigits_le20 x.natAbs (by omega)
    simp only [List.length_cons, Lib.decDigits_length]
    omega
  · have := Lib.nDigits_le20 x.toNat (by omega)
    rw [Lib.decDigits_length]
    omega
/-- What appending a numeral leaves. -/
def JAppd (B n : Nat) (xs : List Value) (enc : List UInt8) (w : World) (e : Ending) (w' : World) : Prop :=
  ∃ A c, e = .returned (.slice A (n + enc.length) c) ∧ w'.ownsRow B 5 1 (.slice A (n + enc.length) c) (n + enc.length) (xs ++ enc.map u8) ∧ Below B w w'
theorem byteCells_u8 (l : List UInt8) : Lib.byteCells l = l.map u8 := rfl
theorem appendIntJ (x : Int) (h0 : -9223372036854775808 ≤ x) (h1 : x ≤ 9223372036854775807) (B n : Nat) (v : Value) (xs : List Value) (w : World) (hown : w.ownsRow B 5 1 v n xs) (hB : B ≤ w.heap.size) (hlim : n ≤ 1000000) (hT : Lib.TabBelow Tryd.prog B w "internal/strconv.uint64pow10" .u64 Lib.pow10Tab) :
    Calls Tryd.prog 58 #[v, .int .i64 x, .int .i64 10] w (JAppd B n xs (Lib.itoa x) w) := by
  refine (Any.strconv_AppendInt_10 Tryd.laysM176 B n x h0 h1 v xs w hown hB (by omega) hT).mono ?_
  rintro e w' ⟨v', rfl, hown', hb', _⟩
  obtain ⟨A, c, rfl, _, _, _⟩ := own_slice hown'
  exact ⟨A, c, rfl, hown', hb'⟩
theorem appendUintJ (x : Int) (h0 : 0 ≤ x) (h1 : x ≤ 18446744073709551615) (B n : Nat) (v : Value) (xs : List Value) (w : World) (hown : w.ownsRow B 5 1 v n xs) (hB : B ≤ w.heap.size) (hlim : n ≤ 1000000) (hT : Lib.TabBelow Tryd.prog B w "internal/strconv.uint64pow10" .u64 Lib.pow10Tab) :
    Calls Tryd.prog 51 #[v, .int .u64 x, .int .i64 10] w (JAppd B n xs (Lib.itoa x) w) := by
  obtain ⟨u, rfl⟩ := Int.eq_ofNat_of_zero_le h0
  have HC := hide (Any.internal_strconv_AppendUint_10 Tryd.laysM288 B n u (by omega) v xs w hown hB (by omega) hT.here)
  rw [Lib.itoa_nonneg]
  clear hown hT
  go_enter Tryd.func51, Tryd.ntmps51
  go_wp2_with (go_at_call 72; go_loud (refine (unhide HC).mono ?_; rintro e w' ⟨v', rfl, hown', hb', _⟩; have HO := hide hown'; have HB := hide hb'; clear hown' hb'))
  go_ret
  obtain ⟨A, c, rfl, _, _, _⟩ := own_slice (unhide HO)
  exact ⟨A, c, rfl, unhide HO, unhide HB⟩
end Go.Proofs.YtlnpiigdjjadiaaDoor
