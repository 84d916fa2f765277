/-
  spec's reader of JSON: words. Conditions: the text is at most 2^40 bytes.
-/
import Derived.Test.YtlnpiigdjjadiaaDoorGJSONSetInt16l
import Derived.Lib.Strings
namespace Go.Proofs.YtlnpiigdjjadiaaDoor
set_option linter.unusedSimpArgs false
set_option linter.unusedVariables false
set_option linter.unusedVariables false
open Go.RowKit
/-- What stands from p on. -/
def At (S : ByteArray) (p : Nat) (bs : List UInt8) : Prop := p ≤ S.size ∧ S.data.toList.drop p = bs
theorem At.cons {S : ByteArray} {p : Nat} {c : UInt8} {r : List UInt8} (h : At S p (c :: r)) : ∃ hp : p < S.size, S[p] = c ∧ At S (p + 1) r := by
  have hl : p < S.data.toList.length := by
    rcases Nat.lt_or_ge p S.data.toList.length with h1 | h1
    · exact h1
    · have := h.2
      rw [List.drop_eq_nil_of_le h1] at this
      cases this
  have hp : p < S.size := by simpa using hl
  have h2 := h.2
  rw [List.drop_eq_getElem_cons hl] at h2
  obtain ⟨h3, h4⟩ := List.cons.inj h2
  exact ⟨hp, by rw [← h3]; rfl, by omega, h4⟩
theorem At.app {S : ByteArray} : ∀ {p : Nat} {a b : List UInt8}, At S p (a ++ b) → At S (p + a.length) b
  | p, [], b, h => h
  | p, c :: a, b, h => by
    obtain ⟨_, _, h2⟩ := At.cons h
    have := At.app h2
    rw [List.length_cons, show p + (a.length + 1) = p + 1 + a.length by omega]
    exact this
theorem At.nil {S : ByteArray} {p : Nat} (h : At S p []) : p = S.size := by
  have h1 := h.1
  have h2 := List.drop_eq_nil_iff.1 h.2
  have h3 : S.data.toList.length = S.size := by simp
  omega
theorem ext_ne (S : ByteArray) (p k : Nat) (a : UInt8) (t : List UInt8) (hp : p < S.size) (hc : S[p] ≠ a) : ((S.extract p (p + k)).toList == a :: t) = false := by
  rw [Lib.extract_toList]
  have hl : p < S.data.toList.length := by simpa using hp
  rw [List.drop_eq_getElem_cons hl, show p + k - p = k by omega]
  rcases k with _ | k
  · rfl
  · rw [List.take_succ_cons]
    simp
    intro h
    exact absurd h hc
theorem ext_one (S : ByteArray) (p : Nat) (a : UInt8) (hp : p < S.size) (hc : S[p] = a) : ((S.extract p (p + 1)).toList == [a]) = true := by
  rw [Lib.extract_toList]
  have hl : p < S.data.toList.length := by simpa using hp
  rw [List.drop_eq_getElem_cons hl, show p + 1 - p = 1 by omega]
  have he : S.data.toList[p] = a := by rw [← hc]; rfl
  simp [he]
set_option maxRecDepth 100000 in
set_option maxHeartbeats 1600000 in
theorem word_no4 (S : ByteArray) (g p : Nat) (a b c d : UInt8) (w : World) (hS : S.size ≤ 1099511627776) (hJ : JT w g S p) (hp : p < S.size) (hc : S[p] ≠ a) :
    Calls Tryd.prog 53 #[.pointer (some ⟨g, 0, none⟩), .string ⟨#[a, b, c, d]⟩] w fun e w' => e = .returned (.bool false) ∧ Quiet w w' := by
  have hp0 : (0 : Int) ≤ (p : Int) := by omega
  obtain ⟨⟨c0, c1, c2⟩, f0, f1, f2⟩ := hJ.cells
  have he := ext_ne S p 4 a [b, c, d] hp hc
  by_cases hl : S.size - p < 4
  · have d1 : decide ((4 : Int) ≤ (S.size : Int) - p) = false := by simp; omega
    go_enter Tryd.func53, Tryd.ntmps53
    go_wp2_with fail
    go_quiet (fail)
    go_wp2
    go_ret
    exact ⟨rfl, Quiet.drewN _ _⟩
  · have d1 : decide ((4 : Int) ≤ (S.size : Int) - p) = true := by simp; omega
    go_enter Tryd.func53, Tryd.ntmps53
    go_wp2_with fail
    go_quiet (fail)
    go_wp2
    go_ret
    exact ⟨rfl, Quiet.drewN _ _⟩
set_option maxRecDepth 100000 in
set_option maxHeartbeats 1600000 in
theorem word_no5 (S : ByteArray) (g p : Nat) (a b c d x : UInt8) (w : World) (hS : S.size ≤ 1099511627776) (hJ : JT w g S p) (hp : p < S.size) (hc : S[p] ≠ a) :
    Calls Tryd.prog 53 #[.pointer (some ⟨g, 0, none⟩), .string ⟨#[a, b, c, d, x]⟩] w fun e w' => e = .returned (.bool false) ∧ Quiet w w' := by
  have hp0 : (0 : Int) ≤ (p : Int) := by omega
  obtain ⟨⟨c0, c1, c2⟩, f0, f1, f2⟩ := hJ.cells
  have he := ext_ne S p 5 a [b, c, d, x] hp hc
  by_cases hl : S.size - p < 5
  · have d1 : decide ((5 : Int) ≤ (S.size : Int) - p) = false := by simp; omega
    go_enter Tryd.func53, Tryd.ntmps53
    go_wp2_with fail
    go_quiet (fail)
    go_wp2
    go_ret
    exact ⟨rfl, Quiet.drewN _ _⟩
  · have d1 : decide ((5 : Int) ≤ (S.size : Int) - p) = true := by simp; omega
    go_enter Tryd.func53, Tryd.ntmps53
    go_wp2_with fail
    go_quiet (fail)
    go_wp2
    go_ret
    exact ⟨rfl, Quiet.drewN _ _⟩
set_option maxRecDepth 100000 in
set_option maxHeartbeats 1600000 in
theorem word_no1 (S : ByteArray) (g p : Nat) (a : UInt8) (w : World) (hS : S.size ≤ 1099511627776) (hJ : JT w g S p) (hp : p < S.size) (hc : S[p] ≠ a) :
    Calls Tryd.prog 53 #[.pointer (some ⟨g, 0, none⟩), .string ⟨#[a]⟩] w fun e w' => e = .returned (.bool false) ∧ Quiet w w' := by
  have hp0 : (0 : Int) ≤ (p : Int) := by omega
  obtain ⟨⟨c0, c1, c2⟩, f0, f1, f2⟩ := hJ.cells
  have he := ext_ne S p 1 a [] hp hc
  have d1 : decide ((1 : Int) ≤ (S.size : Int) - p) = true := by simp; omega
  go_enter Tryd.func53, Tryd.ntmps53
  go_wp2_with fail
  go_quiet (fail)
  go_wp2
  go_ret
  exact ⟨rfl, Quiet.drewN _ _⟩
set_option maxRecDepth 100000 in
set_option maxHeartbeats 1600000 in
theorem word_yes1 (S : ByteArray) (g p : Nat) (a : UInt8) (w : World) (hS : S.size ≤ 1099511627776) (hJ : JT w g S p) (hp : p < S.size) (hc : S[p] = a) :
    Calls Tryd.prog 53 #[.pointer (some ⟨g, 0, none⟩), .string ⟨#[a]⟩] w fun e w' => e = .returned (.bool true) ∧ JOn S g (p + 1) w w' := by
  have hp0 : (0 : Int) ≤ (p : Int) := by omega
  obtain ⟨⟨c0, c1, c2⟩, f0, f1, f2⟩ := hJ.cells
  have he := ext_one S p a hp hc
  have d1 : decide ((1 : Int) ≤ (S.size : Int) - p) = true := by simp; omega
  go_enter Tryd.func53, Tryd.ntmps53
  go_wp2_with fail
  go_quiet (fail)
  go_wp2
  go_ret
  exact ⟨rfl, JOn.step (JOn.quiet hJ (Quiet.refl w)) _ (p + 1) _ (by first | rfl | simp)⟩
end Go.Proofs.YtlnpiigdjjadiaaDoor
