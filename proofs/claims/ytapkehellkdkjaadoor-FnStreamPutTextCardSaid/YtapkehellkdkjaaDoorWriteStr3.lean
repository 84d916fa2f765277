/-
  msgp.Writer's WriteString, the closure of impl.StreamPutText, impl.written over texts. Conditions: at most 2^40 bytes are written, texts of at most 65536 bytes.
-/
import Derived.Test.YtapkehellkdkjaaDoorWriteStr2
import Derived.Test.YtapkehellkdkjaaDoorNewWriter
namespace Go.Proofs.YtapkehellkdkjaaDoor
set_option linter.unusedSimpArgs false
set_option linter.unusedVariables false
set_option linter.unusedVariables false
open Go.RowKit
theorem writeStr_any (t b m z : Nat) (bs s : List UInt8) (w : World) (h : WrAny w t b m z bs) (hl : bs.length + s.length ≤ 1099511627776) :
    Calls Tryd.prog 20 #[.pointer (some ⟨m, 0, none⟩), .string ⟨s.toArray⟩] w (WrP t b m z (bs ++ s) w) := by
  obtain ⟨done, pend, v, rfl, h⟩ := h
  rw [List.length_append] at hl
  have hpl := h.ple
  by_cases h1 : pend.length + s.length ≤ z
  · by_cases h2 : pend.length < z
    · exact (writeStr_room t b m z done pend v s w h hl h1 h2).mono fun _ _ h => h.any
    · have hs : s = [] := List.eq_nil_of_length_eq_zero (by omega)
      subst hs
      exact (writeStr_none t b m z done pend v w h (by simpa using hl) (by have := h.ple; omega)).mono fun _ _ h => h.any
  · by_cases h2 : s.length ≤ z
    · exact (writeStr_fit t b m z done pend v s w h hl (by omega) h2).mono fun _ _ h => h.any
    · exact (writeStr_big t b m z done pend v s w h hl (by omega) (by omega)).mono fun _ _ h => h.any
set_option maxRecDepth 100000 in
set_option maxHeartbeats 1600000 in
theorem WriteString_1 (t b m z : Nat) (bs s : List UInt8) (h1 : 0 ≤ s.length) (h2 : s.length ≤ 31) (w : World) (h : WrAny w t b m z bs) (hl : bs.length + s.length ≤ 1099511000000) :
    Calls Tryd.prog 10 #[.pointer (some ⟨m, 0, none⟩), .string ⟨s.toArray⟩] w (WrP t b m z (bs ++ ([UInt8.ofNat (160 + ((s.length : Nat) : Int)).toNat] ++ s)) w) := by
  have H := hide h
  have hsz : (⟨s.toArray⟩ : ByteArray).size = s.length := by simp [ByteArray.size]
  have hW := fun (w : World) (h : WrAny w t b m z (bs ++ [UInt8.ofNat (160 + ((s.length : Nat) : Int)).toNat])) => writeStr_any t b m z (bs ++ [UInt8.ofNat (160 + ((s.length : Nat) : Int)).toNat]) s w h (by simp [be_length]; omega)
  rw [List.append_assoc] at hW
  have HW := hide hW
  have hb1 : 0 ≤ ((s.length : Nat) : Int) := by omega
  have hb2 : ((s.length : Nat) : Int) ≤ 31 := by omega
  clear h hW
  go_enter Tryd.func10, Tryd.ntmps10
  go_wp2_with (first
    | (go_at_call 16; go_loud (refine (wfixstr_w (s.length : Nat) w (by omega) (by omega)).mono ?_; rintro e w0 ⟨rfl, rfl⟩))
    | (go_at_call 15; go_loud (refine (push_any t b m z bs (UInt8.ofNat (160 + ((s.length : Nat) : Int)).toNat) (160 + ((s.length : Nat) : Int)) (by simp; omega) w (unhide H) (by omega)).mono ?_; rintro e w1 ⟨rfl, h1', h2'⟩; have H1 := hide h1'; have H2 := hide h2'; clear h1' h2'))
    | (go_at_call 20; go_loud (refine (unhide HW _ (unhide H1)).mono ?_; rintro e w2 ⟨rfl, h3', h4'⟩; have H3 := hide h3'; have H4 := hide ((unhide H2).trans h4'); clear h3' h4')))
  go_ret
  exact ⟨rfl, unhide H3, unhide H4⟩
set_option maxRecDepth 100000 in
set_option maxHeartbeats 1600000 in
theorem WriteString_2 (t b m z : Nat) (bs s : List UInt8) (h1 : 32 ≤ s.length) (h2 : s.length ≤ 255) (w : World) (h : WrAny w t b m z bs) (hl : bs.length + s.length ≤ 1099511000000) :
    Calls Tryd.prog 10 #[.pointer (some ⟨m, 0, none⟩), .string ⟨s.toArray⟩] w (WrP t b m z (bs ++ ((217 :: be ((s.length : Nat) : Int) 1) ++ s)) w) := by
  have H := hide h
  have hsz : (⟨s.toArray⟩ : ByteArray).size = s.length := by simp [ByteArray.size]
  have hW := fun (w : World) (h : WrAny w t b m z (bs ++ (217 :: be ((s.length : Nat) : Int) 1))) => writeStr_any t b m z (bs ++ (217 :: be ((s.length : Nat) : Int) 1)) s w h (by simp [be_length]; omega)
  rw [List.append_assoc] at hW
  have HW := hide hW
  have hb1 : 32 ≤ ((s.length : Nat) : Int) := by omega
  have hb2 : ((s.length : Nat) : Int) ≤ 255 := by omega
  clear h hW
  go_enter Tryd.func10, Tryd.ntmps10
  go_wp2_with (first
    | (go_at_call 17; go_loud (refine (prefix8_any t b m z bs 217 217 rfl (s.length : Nat) (by omega) (by omega) w (unhide H) (by omega)).mono ?_; rintro e w1 ⟨rfl, h1', h2'⟩; have H1 := hide h1'; have H2 := hide h2'; clear h1' h2'))
    | (go_at_call 20; go_loud (refine (unhide HW _ (unhide H1)).mono ?_; rintro e w2 ⟨rfl, h3', h4'⟩; have H3 := hide h3'; have H4 := hide ((unhide H2).trans h4'); clear h3' h4')))
  go_ret
  exact ⟨rfl, unhide H3, unhide H4⟩
set_option maxRecDepth 100000 in
set_option maxHeartbeats 1600000 in
theorem WriteString_3 (t b m z : Nat) (bs s : List UInt8) (h1 : 256 ≤ s.length) (h2 : s.length ≤ 65535) (w : World) (h : WrAny w t b m z bs) (hl : bs.length + s.length ≤ 1099511000000) :
    Calls Tryd.prog 10 #[.pointer (some ⟨m, 0, none⟩), .string ⟨s.toArray⟩] w (WrP t b m z (bs ++ ((218 :: be ((s.length : Nat) : Int) 2) ++ s)) w) := by
  have H := hide h
  have hsz : (⟨s.toArray⟩ : ByteArray).size = s.length := by simp [ByteArray.size]
  have hW := fun (w : World) (h : WrAny w t b m z (bs ++ (218 :: be ((s.length : Nat) : Int) 2))) => writeStr_any t b m z (bs ++ (218 :: be ((s.length : Nat) : Int) 2)) s w h (by simp [be_length]; omega)
  rw [List.append_assoc] at hW
  have HW := hide hW
  have hb1 : 256 ≤ ((s.length : Nat) : Int) := by omega
  have hb2 : ((s.length : Nat) : Int) ≤ 65535 := by omega
  clear h hW
  go_enter Tryd.func10, Tryd.ntmps10
  go_wp2_with (first
    | (go_at_call 18; go_loud (refine (prefix16_any t b m z bs 218 218 rfl (s.length : Nat) (by omega) (by omega) w (unhide H) (by omega)).mono ?_; rintro e w1 ⟨rfl, h1', h2'⟩; have H1 := hide h1'; have H2 := hide h2'; clear h1' h2'))
    | (go_at_call 20; go_loud (refine (unhide HW _ (unhide H1)).mono ?_; rintro e w2 ⟨rfl, h3', h4'⟩; have H3 := hide h3'; have H4 := hide ((unhide H2).trans h4'); clear h3' h4')))
  go_ret
  exact ⟨rfl, unhide H3, unhide H4⟩
set_option maxRecDepth 100000 in
set_option maxHeartbeats 1600000 in
theorem WriteString_5 (t b m z : Nat) (bs s : List UInt8) (h1 : 65536 ≤ s.length) (h2 : s.length ≤ 65536) (w : World) (h : WrAny w t b m z bs) (hl : bs.length + s.length ≤ 1099511000000) :
    Calls Tryd.prog 10 #[.pointer (some ⟨m, 0, none⟩), .string ⟨s.toArray⟩] w (WrP t b m z (bs ++ ((219 :: be ((s.length : Nat) : Int) 4) ++ s)) w) := by
  have H := hide h
  have hsz : (⟨s.toArray⟩ : ByteArray).size = s.length := by simp [ByteArray.size]
  have hW := fun (w : World) (h : WrAny w t b m z (bs ++ (219 :: be ((s.length : Nat) : Int) 4))) => writeStr_any t b m z (bs ++ (219 :: be ((s.length : Nat) : Int) 4)) s w h (by simp [be_length]; omega)
  rw [List.append_assoc] at hW
  have HW := hide hW
  have hb1 : 65536 ≤ ((s.length : Nat) : Int) := by omega
  have hb2 : ((s.length : Nat) : Int) ≤ 65536 := by omega
  clear h hW
  go_enter Tryd.func10, Tryd.ntmps10
  go_wp2_with (first
    | (go_at_call 19; go_loud (refine (prefix32_any t b m z bs 219 219 rfl (s.length : Nat) (by omega) (by omega) w (unhide H) (by omega)).mono ?_; rintro e w1 ⟨rfl, h1', h2'⟩; have H1 := hide h1'; have H2 := hide h2'; clear h1' h2'))
    | (go_at_call 20; go_loud (refine (unhide HW _ (unhide H1)).mono ?_; rintro e w2 ⟨rfl, h3', h4'⟩; have H3 := hide h3'; have H4 := hide ((unhide H2).trans h4'); clear h3' h4')))
  go_ret
  exact ⟨rfl, unhide H3, unhide H4⟩
end Go.Proofs.YtapkehellkdkjaaDoor
