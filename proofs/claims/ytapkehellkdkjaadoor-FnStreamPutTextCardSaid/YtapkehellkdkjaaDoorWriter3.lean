/-
  msgp.Writer's WriteUint64, WriteInt64, WriteStringHeader and what hands them on. Conditions: at most 2^40 bytes are written.
-/
import Derived.Test.YtapkehellkdkjaaDoorWriter2
import Derived.Test.YtapkehellkdkjaaDoorEncs
namespace Go.Proofs.YtapkehellkdkjaaDoor
set_option linter.unusedSimpArgs false
set_option linter.unusedVariables false
set_option linter.unusedVariables false
open Go.RowKit
def WrAny (w : World) (t b m z : Nat) (bs : List UInt8) : Prop := ∃ done pend v, done ++ pend = bs ∧ WrSt w t b m z done pend v
theorem WrPost.any {t b m z : Nat} {bs : List UInt8} {w w' : World} {e : Ending} (h : WrPost t b m z bs w e w') : e = .returned .nilIface ∧ WrAny w' t b m z bs ∧ Below t w w' := by
  obtain ⟨d, p, v, he, hb, hs, hw⟩ := h
  exact ⟨he, ⟨d, p, v, hb, hs⟩, hw⟩
def WrP (t b m z : Nat) (bs : List UInt8) (w : World) (e : Ending) (w' : World) : Prop := e = .returned .nilIface ∧ WrAny w' t b m z bs ∧ Below t w w'
theorem push_any (t b m z : Nat) (bs : List UInt8) (x : UInt8) (x' : Int) (hx : x' = x.toNat) (w : World) (h : WrAny w t b m z bs) (hl : bs.length ≤ 1099511627776) :
    Calls Tryd.prog 15 #[.pointer (some ⟨m, 0, none⟩), .int .u8 x'] w (WrP t b m z (bs ++ [x]) w) := by
  subst hx
  obtain ⟨done, pend, v, rfl, h⟩ := h
  rw [List.length_append] at hl
  by_cases hp : pend.length + 1 ≤ z
  · exact (push_room t b m z done pend v x w h hl hp).mono fun _ _ h => h.any
  · exact (push_full t b m z done pend v x w h hl (by omega)).mono fun _ _ h => h.any
theorem prefix8_any (t b m z : Nat) (bs : List UInt8) (p : UInt8) (p' : Int) (hp' : p' = p.toNat) (x : Int) (h1 : 0 ≤ x) (h2 : x ≤ 255) (w : World) (h : WrAny w t b m z bs) (hl : bs.length ≤ 1099511627776) :
    Calls Tryd.prog 17 #[.pointer (some ⟨m, 0, none⟩), .int .u8 p', .int .u8 x] w (WrP t b m z (bs ++ (p :: be x 1)) w) := by
  subst hp'
  obtain ⟨done, pend, v, rfl, h⟩ := h
  rw [List.length_append] at hl
  by_cases hp : pend.length + 2 ≤ z
  · exact (prefix8_room t b m z done pend v p x h1 h2 w h hl hp).mono fun _ _ h => h.any
  · exact (prefix8_full t b m z done pend v p x h1 h2 w h hl (by omega)).mono fun _ _ h => h.any
theorem prefix16_any (t b m z : Nat) (bs : List UInt8) (p : UInt8) (p' : Int) (hp' : p' = p.toNat) (x : Int) (h1 : 0 ≤ x) (h2 : x ≤ 65535) (w : World) (h : WrAny w t b m z bs) (hl : bs.length ≤ 1099511627776) :
    Calls Tryd.prog 18 #[.pointer (some ⟨m, 0, none⟩), .int .u8 p', .int .u16 x] w (WrP t b m z (bs ++ (p :: be x 2)) w) := by
  subst hp'
  obtain ⟨done, pend, v, rfl, h⟩ := h
  rw [List.length_append] at hl
  by_cases hp : pend.length + 3 ≤ z
  · exact (prefix16_room t b m z done pend v p x h1 h2 w h hl hp).mono fun _ _ h => h.any
  · exact (prefix16_full t b m z done pend v p x h1 h2 w h hl (by omega)).mono fun _ _ h => h.any
theorem prefix32_any (t b m z : Nat) (bs : List UInt8) (p : UInt8) (p' : Int) (hp' : p' = p.toNat) (x : Int) (h1 : 0 ≤ x) (h2 : x ≤ 4294967295) (w : World) (h : WrAny w t b m z bs) (hl : bs.length ≤ 1099511627776) :
    Calls Tryd.prog 19 #[.pointer (some ⟨m, 0, none⟩), .int .u8 p', .int .u32 x] w (WrP t b m z (bs ++ (p :: be x 4)) w) := by
  subst hp'
  obtain ⟨done, pend, v, rfl, h⟩ := h
  rw [List.length_append] at hl
  by_cases hp : pend.length + 5 ≤ z
  · exact (prefix32_room t b m z done pend v p x h1 h2 w h hl hp).mono fun _ _ h => h.any
  · exact (prefix32_full t b m z done pend v p x h1 h2 w h hl (by omega)).mono fun _ _ h => h.any
theorem wfixstr_w (u : Int) (w : World) (h0 : 0 ≤ u) (h1 : u ≤ 31) : Calls Tryd.prog 16 #[.int .u8 u] w fun e w' => e = .returned (.int .u8 (160 + u)) ∧ w = w' := by
  have hb : bits BinOp.and IntKind.u8 u 31 = u := by
    obtain ⟨n, rfl⟩ := Int.eq_ofNat_of_zero_le h0
    have : ∀ n : Nat, n < 32 → bits BinOp.and IntKind.u8 (n : Int) 31 = n := by decide +kernel
    exact this n (by omega)
  have hc : bits BinOp.or IntKind.u8 u 160 = 160 + u := by
    obtain ⟨n, rfl⟩ := Int.eq_ofNat_of_zero_le h0
    have : ∀ n : Nat, n < 32 → bits BinOp.or IntKind.u8 (n : Int) 160 = 160 + n := by decide +kernel
    exact this n (by omega)
  go_enter Tryd.func16, Tryd.ntmps16
  go_wp2
  go_ret
  exact ⟨rfl, rfl⟩
end Go.Proofs.YtapkehellkdkjaaDoor
