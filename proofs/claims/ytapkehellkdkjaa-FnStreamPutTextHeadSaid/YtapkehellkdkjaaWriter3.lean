/-
  msgp.Writer's WriteUint64, WriteInt64, WriteStringHeader and what hands them on. Conditions: at most 2^40 bytes are written.
-/
import Derived.Test.YtapkehellkdkjaaWriter2
import Derived.Test.YtapkehellkdkjaaEncs
namespace Go.Proofs.Ytapkehellkdkjaa
set_option linter.unusedSimpArgs false
set_option linter.unusedVariables false
set_option linter.unusedVariables false
open Go.RowKit
def WrAny (w : World) (t b m z : Nat) (bs : List UInt8) : Prop := ∃ done pend v, done ++ pend = bs ∧ WrSt w t b m z done pend v
theorem WrPost.any {t b m z : Nat} {bs : List UInt8} {w w' : World} {e : Ending} (h : WrPost t b m z bs w e w') : e = .returned .nilIface ∧ WrAny w' t b m z bs ∧ Below t w w' := by
  obtain ⟨d, p, v, he, hb, hs, hw⟩ := h
  exact ⟨he, ⟨d, p, v, hb, hs⟩, hw⟩
def WrP (t b m z : Nat) (bs : List UInt8) (w : World) (e : Ending) (w' : World) : Prop := e = .returned .nilIface ∧ WrAny w' t b m z bs ∧ Below t w w'
theorem push_any (t b m z : Nat) (bs : List UInt8) (x : UInt8) (x' : Int) (hx : x' = x.toNat) (w : World) (h : WrAny w t b m z bs) (hl : bs.length ≤ 1099511627776) :
    Calls Try.prog 25 #[.pointer (some ⟨m, 0, none⟩), .int .u8 x'] w (WrP t b m z (bs ++ [x]) w) := by
  subst hx
  obtain ⟨done, pend, v, rfl, h⟩ := h
  rw [List.length_append] at hl
  by_cases hp : pend.length + 1 ≤ z
  · exact (push_room t b m z done pend v x w h hl hp).mono fun _ _ h => h.any
  · exact (push_full t b m z done pend v x w h hl (by omega)).mono fun _ _ h => h.any
theorem prefix8_any (t b m z : Nat) (bs : List UInt8) (p : UInt8) (p' : Int) (hp' : p' = p.toNat) (x : Int) (h1 : 0 ≤ x) (h2 : x ≤ 255) (w : World) (h : WrAny w t b m z bs) (hl : bs.length ≤ 1099511627776) :
    Calls Try.prog 27 #[.pointer (some ⟨m, 0, none⟩), .int .u8 p', .int .u8 x] w (WrP t b m z (bs ++ (p :: be x 1)) w) := by
  subst hp'
  obtain ⟨done, pend, v, rfl, h⟩ := h
  rw [List.length_append] at hl
  by_cases hp : pend.length + 2 ≤ z
  · exact (prefix8_room t b m z done pend v p x h1 h2 w h hl hp).mono fun _ _ h => h.any
  · exact (prefix8_full t b m z done pend v p x h1 h2 w h hl (by omega)).mono fun _ _ h => h.any
theorem prefix16_any (t b m z : Nat) (bs : List UInt8) (p : UInt8) (p' : Int) (hp' : p' = p.toNat) (x : Int) (h1 : 0 ≤ x) (h2 : x ≤ 65535) (w : World) (h : WrAny w t b m z bs) (hl : bs.length ≤ 1099511627776) :
    Calls Try.prog 28 #[.pointer (some ⟨m, 0, none⟩), .int .u8 p', .int .u16 x] w (WrP t b m z (bs ++ (p :: be x 2)) w) := by
  subst hp'
  obtain ⟨done, pend, v, rfl, h⟩ := h
  rw [List.length_append] at hl
  by_cases hp : pend.length + 3 ≤ z
  · exact (prefix16_room t b m z done pend v p x h1 h2 w h hl hp).mono fun _ _ h => h.any
  · exact (prefix16_full t b m z done pend v p x h1 h2 w h hl (by omega)).mono fun _ _ h => h.any
theorem prefix32_any (t b m z : Nat) (bs : List UInt8) (p : UInt8) (p' : Int) (hp' : p' = p.toNat) (x : Int) (h1 : 0 ≤ x) (h2 : x ≤ 4294967295) (w : World) (h : WrAny w t b m z bs) (hl : bs.length ≤ 1099511627776) :
    Calls Try.prog 29 #[.pointer (some ⟨m, 0, none⟩), .int .u8 p', .int .u32 x] w (WrP t b m z (bs ++ (p :: be x 4)) w) := by
  subst hp'
  obtain ⟨done, pend, v, rfl, h⟩ := h
  rw [List.length_append] at hl
  by_cases hp : pend.length + 5 ≤ z
  · exact (prefix32_room t b m z done pend v p x h1 h2 w h hl hp).mono fun _ _ h => h.any
  · exact (prefix32_full t b m z done pend v p x h1 h2 w h hl (by omega)).mono fun _ _ h => h.any
theorem prefix64_any (t b m z : Nat) (bs : List UInt8) (p : UInt8) (p' : Int) (hp' : p' = p.toNat) (x : Int) (h1 : 0 ≤ x) (h2 : x ≤ 18446744073709551615) (w : World) (h : WrAny w t b m z bs) (hl : bs.length ≤ 1099511627776) :
    Calls Try.prog 42 #[.pointer (some ⟨m, 0, none⟩), .int .u8 p', .int .u64 x] w (WrP t b m z (bs ++ (p :: be x 8)) w) := by
  subst hp'
  obtain ⟨done, pend, v, rfl, h⟩ := h
  rw [List.length_append] at hl
  by_cases hp : pend.length + 9 ≤ z
  · exact (prefix64_room t b m z done pend v p x h1 h2 w h hl hp).mono fun _ _ h => h.any
  · exact (prefix64_full t b m z done pend v p x h1 h2 w h hl (by omega)).mono fun _ _ h => h.any
theorem wfixint_w (u : Int) (w : World) (h0 : 0 ≤ u) (h1 : u ≤ 127) : Calls Try.prog 41 #[.int .u8 u] w fun e w' => e = .returned (.int .u8 u) ∧ w = w' := by
  have hb : bits BinOp.and IntKind.u8 u 127 = u := by
    obtain ⟨n, rfl⟩ := Int.eq_ofNat_of_zero_le h0
    have : ∀ n : Nat, n < 128 → bits BinOp.and IntKind.u8 (n : Int) 127 = n := by decide +kernel
    exact this n (by omega)
  go_enter Try.func41, Try.ntmps41
  go_wp2
  go_ret
  exact ⟨rfl, rfl⟩
theorem wnfixint_w (i : Int) (w : World) (h0 : -32 ≤ i) (h1 : i < 0) : Calls Try.prog 44 #[.int .i8 i] w fun e w' => e = .returned (.int .u8 (i + 256)) ∧ w = w' := by
  have hb : bits BinOp.or IntKind.u8 (i + 256) 224 = i + 256 := by
    obtain ⟨n, hn⟩ := Int.eq_ofNat_of_zero_le (show 0 ≤ i + 256 by omega)
    rw [hn]
    have : ∀ n : Nat, n < 256 → 224 ≤ n → bits BinOp.or IntKind.u8 (n : Int) 224 = n := by decide +kernel
    exact this n (by omega) (by omega)
  have hw : IntKind.u8.wrap i = i + 256 := by
    have e : IntKind.u8.wrap i = i % 256 := by simp [IntKind.wrap, IntKind.bits, IntKind.signed]
    rw [e]
    omega
  go_enter Try.func44, Try.ntmps44
  go_wp2
  go_ret
  exact ⟨rfl, rfl⟩
theorem wfixstr_w (u : Int) (w : World) (h0 : 0 ≤ u) (h1 : u ≤ 31) : Calls Try.prog 26 #[.int .u8 u] w fun e w' => e = .returned (.int .u8 (160 + u)) ∧ w = w' := by
  have hb : bits BinOp.and IntKind.u8 u 31 = u := by
    obtain ⟨n, rfl⟩ := Int.eq_ofNat_of_zero_le h0
    have : ∀ n : Nat, n < 32 → bits BinOp.and IntKind.u8 (n : Int) 31 = n := by decide +kernel
    exact this n (by omega)
  have hc : bits BinOp.or IntKind.u8 u 160 = 160 + u := by
    obtain ⟨n, rfl⟩ := Int.eq_ofNat_of_zero_le h0
    have : ∀ n : Nat, n < 32 → bits BinOp.or IntKind.u8 (n : Int) 160 = 160 + n := by decide +kernel
    exact this n (by omega)
  go_enter Try.func26, Try.ntmps26
  go_wp2
  go_ret
  exact ⟨rfl, rfl⟩
set_option maxHeartbeats 800000 in
theorem WriteUint64_1 (t b m z : Nat) (bs : List UInt8) (x : Int) (h1 : 0 ≤ x) (h2 : x ≤ 127) (w : World) (h : WrAny w t b m z bs) (hl : bs.length ≤ 1099511627776) :
    Calls Try.prog 31 #[.pointer (some ⟨m, 0, none⟩), .int .u64 x] w (WrP t b m z (bs ++ [UInt8.ofNat x.toNat]) w) := by
  have H := hide h
  clear h
  go_enter Try.func31, Try.ntmps31
  go_wp2_with (first
    | (go_at_call 41; refine (wfixint_w x w (by omega) (by omega)).mono ?_; rintro e w0 ⟨rfl, rfl⟩)
    | (go_at_call 25; refine (push_any t b m z bs (UInt8.ofNat (x).toNat) (x) (by simp; omega) w (unhide H) hl).mono ?_; rintro e w1 ⟨rfl, h1', h2'⟩; have H1 := hide h1'; have H2 := hide h2'; clear h1' h2'))
  go_ret
  exact ⟨rfl, unhide H1, unhide H2⟩
set_option maxHeartbeats 800000 in
theorem WriteUint64_2 (t b m z : Nat) (bs : List UInt8) (x : Int) (h1 : 128 ≤ x) (h2 : x ≤ 255) (w : World) (h : WrAny w t b m z bs) (hl : bs.length ≤ 1099511627776) :
    Calls Try.prog 31 #[.pointer (some ⟨m, 0, none⟩), .int .u64 x] w (WrP t b m z (bs ++ (204 :: be x 1)) w) := by
  have H := hide h
  clear h
  go_enter Try.func31, Try.ntmps31
  go_wp2_with (go_at_call 27; refine (prefix8_any t b m z bs 204 204 rfl (x) (by omega) (by omega) w (unhide H) hl).mono ?_; rintro e w1 ⟨rfl, h1', h2'⟩; have H1 := hide h1'; have H2 := hide h2'; clear h1' h2')
  go_ret
  exact ⟨rfl, unhide H1, unhide H2⟩
set_option maxHeartbeats 800000 in
theorem WriteUint64_3 (t b m z : Nat) (bs : List UInt8) (x : Int) (h1 : 256 ≤ x) (h2 : x ≤ 65535) (w : World) (h : WrAny w t b m z bs) (hl : bs.length ≤ 1099511627776) :
    Calls Try.prog 31 #[.pointer (some ⟨m, 0, none⟩), .int .u64 x] w (WrP t b m z (bs ++ (205 :: be x 2)) w) := by
  have H := hide h
  clear h
  go_enter Try.func31, Try.ntmps31
  go_wp2_with (go_at_call 28; refine (prefix16_any t b m z bs 205 205 rfl (x) (by omega) (by omega) w (unhide H) hl).mono ?_; rintro e w1 ⟨rfl, h1', h2'⟩; have H1 := hide h1'; have H2 := hide h2'; clear h1' h2')
  go_ret
  exact ⟨rfl, unhide H1, unhide H2⟩
set_option maxHeartbeats 800000 in
theorem WriteUint64_5 (t b m z : Nat) (bs : List UInt8) (x : Int) (h1 : 65536 ≤ x) (h2 : x ≤ 4294967295) (w : World) (h : WrAny w t b m z bs) (hl : bs.length ≤ 1099511627776) :
    Calls Try.prog 31 #[.pointer (some ⟨m, 0, none⟩), .int .u64 x] w (WrP t b m z (bs ++ (206 :: be x 4)) w) := by
  have H := hide h
  clear h
  go_enter Try.func31, Try.ntmps31
  go_wp2_with (go_at_call 29; refine (prefix32_any t b m z bs 206 206 rfl (x) (by omega) (by omega) w (unhide H) hl).mono ?_; rintro e w1 ⟨rfl, h1', h2'⟩; have H1 := hide h1'; have H2 := hide h2'; clear h1' h2')
  go_ret
  exact ⟨rfl, unhide H1, unhide H2⟩
set_option maxHeartbeats 800000 in
theorem WriteUint64_9 (t b m z : Nat) (bs : List UInt8) (x : Int) (h1 : 4294967296 ≤ x) (h2 : x ≤ 18446744073709551615) (w : World) (h : WrAny w t b m z bs) (hl : bs.length ≤ 1099511627776) :
    Calls Try.prog 31 #[.pointer (some ⟨m, 0, none⟩), .int .u64 x] w (WrP t b m z (bs ++ (207 :: be x 8)) w) := by
  have H := hide h
  clear h
  go_enter Try.func31, Try.ntmps31
  go_wp2_with (go_at_call 42; refine (prefix64_any t b m z bs 207 207 rfl (x) (by omega) (by omega) w (unhide H) hl).mono ?_; rintro e w1 ⟨rfl, h1', h2'⟩; have H1 := hide h1'; have H2 := hide h2'; clear h1' h2')
  go_ret
  exact ⟨rfl, unhide H1, unhide H2⟩
theorem WriteUint64_any (t b m z : Nat) (bs : List UInt8) (x : Int) (h1 : 0 ≤ x) (h2 : x ≤ 18446744073709551615) (w : World) (h : WrAny w t b m z bs) (hl : bs.length ≤ 1099511627776) :
    Calls Try.prog 31 #[.pointer (some ⟨m, 0, none⟩), .int .u64 x] w (WrP t b m z (bs ++ encU x) w) := by
  unfold encU
  repeat' split
  · exact WriteUint64_1 t b m z bs x (by omega) (by omega) w h hl
  · exact WriteUint64_2 t b m z bs x (by omega) (by omega) w h hl
  · exact WriteUint64_3 t b m z bs x (by omega) (by omega) w h hl
  · exact WriteUint64_5 t b m z bs x (by omega) (by omega) w h hl
  · exact WriteUint64_9 t b m z bs x (by omega) (by omega) w h hl
set_option maxHeartbeats 800000 in
theorem WriteStringHeader_1 (t b m z : Nat) (bs : List UInt8) (x : Int) (h1 : 0 ≤ x) (h2 : x ≤ 31) (w : World) (h : WrAny w t b m z bs) (hl : bs.length ≤ 1099511627776) :
    Calls Try.prog 14 #[.pointer (some ⟨m, 0, none⟩), .int .u32 x] w (WrP t b m z (bs ++ [UInt8.ofNat (160 + x).toNat]) w) := by
  have H := hide h
  clear h
  go_enter Try.func14, Try.ntmps14
  go_wp2_with (first
    | (go_at_call 26; refine (wfixstr_w x w (by omega) (by omega)).mono ?_; rintro e w0 ⟨rfl, rfl⟩)
    | (go_at_call 25; refine (push_any t b m z bs (UInt8.ofNat (160 + x).toNat) (160 + x) (by simp; omega) w (unhide H) hl).mono ?_; rintro e w1 ⟨rfl, h1', h2'⟩; have H1 := hide h1'; have H2 := hide h2'; clear h1' h2'))
  go_ret
  exact ⟨rfl, unhide H1, unhide H2⟩
set_option maxHeartbeats 800000 in
theorem WriteStringHeader_2 (t b m z : Nat) (bs : List UInt8) (x : Int) (h1 : 32 ≤ x) (h2 : x ≤ 255) (w : World) (h : WrAny w t b m z bs) (hl : bs.length ≤ 1099511627776) :
    Calls Try.prog 14 #[.pointer (some ⟨m, 0, none⟩), .int .u32 x] w (WrP t b m z (bs ++ (217 :: be x 1)) w) := by
  have H := hide h
  clear h
  go_enter Try.func14, Try.ntmps14
  go_wp2_with (go_at_call 27; refine (prefix8_any t b m z bs 217 217 rfl (x) (by omega) (by omega) w (unhide H) hl).mono ?_; rintro e w1 ⟨rfl, h1', h2'⟩; have H1 := hide h1'; have H2 := hide h2'; clear h1' h2')
  go_ret
  exact ⟨rfl, unhide H1, unhide H2⟩
set_option maxHeartbeats 800000 in
theorem WriteStringHeader_3 (t b m z : Nat) (bs : List UInt8) (x : Int) (h1 : 256 ≤ x) (h2 : x ≤ 65535) (w : World) (h : WrAny w t b m z bs) (hl : bs.length ≤ 1099511627776) :
    Calls Try.prog 14 #[.pointer (some ⟨m, 0, none⟩), .int .u32 x] w (WrP t b m z (bs ++ (218 :: be x 2)) w) := by
  have H := hide h
  clear h
  go_enter Try.func14, Try.ntmps14
  go_wp2_with (go_at_call 28; refine (prefix16_any t b m z bs 218 218 rfl (x) (by omega) (by omega) w (unhide H) hl).mono ?_; rintro e w1 ⟨rfl, h1', h2'⟩; have H1 := hide h1'; have H2 := hide h2'; clear h1' h2')
  go_ret
  exact ⟨rfl, unhide H1, unhide H2⟩
set_option maxHeartbeats 800000 in
theorem WriteStringHeader_5 (t b m z : Nat) (bs : List UInt8) (x : Int) (h1 : 65536 ≤ x) (h2 : x ≤ 4294967295) (w : World) (h : WrAny w t b m z bs) (hl : bs.length ≤ 1099511627776) :
    Calls Try.prog 14 #[.pointer (some ⟨m, 0, none⟩), .int .u32 x] w (WrP t b m z (bs ++ (219 :: be x 4)) w) := by
  have H := hide h
  clear h
  go_enter Try.func14, Try.ntmps14
  go_wp2_with (go_at_call 29; refine (prefix32_any t b m z bs 219 219 rfl (x) (by omega) (by omega) w (unhide H) hl).mono ?_; rintro e w1 ⟨rfl, h1', h2'⟩; have H1 := hide h1'; have H2 := hide h2'; clear h1' h2')
  go_ret
  exact ⟨rfl, unhide H1, unhide H2⟩
theorem WriteStringHeader_any (t b m z : Nat) (bs : List UInt8) (x : Int) (h1 : 0 ≤ x) (h2 : x ≤ 4294967295) (w : World) (h : WrAny w t b m z bs) (hl : bs.length ≤ 1099511627776) :
    Calls Try.prog 14 #[.pointer (some ⟨m, 0, none⟩), .int .u32 x] w (WrP t b m z (bs ++ encT x) w) := by
  unfold encT
  repeat' split
  · exact WriteStringHeader_1 t b m z bs x (by omega) (by omega) w h hl
  · exact WriteStringHeader_2 t b m z bs x (by omega) (by omega) w h hl
  · exact WriteStringHeader_3 t b m z bs x (by omega) (by omega) w h hl
  · exact WriteStringHeader_5 t b m z bs x (by omega) (by omega) w h hl
set_option maxHeartbeats 800000 in
theorem WriteInt64_1 (t b m z : Nat) (bs : List UInt8) (x : Int) (h1 : 0 ≤ x) (h2 : x ≤ 127) (w : World) (h : WrAny w t b m z bs) (hl : bs.length ≤ 1099511627776) :
    Calls Try.prog 35 #[.pointer (some ⟨m, 0, none⟩), .int .i64 x] w (WrP t b m z (bs ++ [UInt8.ofNat x.toNat]) w) := by
  have H := hide h
  clear h
  go_enter Try.func35, Try.ntmps35
  go_wp2_with (first
    | (go_at_call 41; refine (wfixint_w x w (by omega) (by omega)).mono ?_; rintro e w0 ⟨rfl, rfl⟩)
    | (go_at_call 25; refine (push_any t b m z bs (UInt8.ofNat (x).toNat) (x) (by simp; omega) w (unhide H) hl).mono ?_; rintro e w1 ⟨rfl, h1', h2'⟩; have H1 := hide h1'; have H2 := hide h2'; clear h1' h2'))
  go_ret
  exact ⟨rfl, unhide H1, unhide H2⟩
set_option maxHeartbeats 800000 in
theorem WriteInt64_3 (t b m z : Nat) (bs : List UInt8) (x : Int) (h1 : 128 ≤ x) (h2 : x ≤ 32767) (w : World) (h : WrAny w t b m z bs) (hl : bs.length ≤ 1099511627776) :
    Calls Try.prog 35 #[.pointer (some ⟨m, 0, none⟩), .int .i64 x] w (WrP t b m z (bs ++ (209 :: be x 2)) w) := by
  have H := hide h
  clear h
  go_enter Try.func35, Try.ntmps35
  go_wp2_with (go_at_call 28; refine (prefix16_any t b m z bs 209 209 rfl (x) (by omega) (by omega) w (unhide H) hl).mono ?_; rintro e w1 ⟨rfl, h1', h2'⟩; have H1 := hide h1'; have H2 := hide h2'; clear h1' h2')
  go_ret
  exact ⟨rfl, unhide H1, unhide H2⟩
set_option maxHeartbeats 800000 in
theorem WriteInt64_5 (t b m z : Nat) (bs : List UInt8) (x : Int) (h1 : 32768 ≤ x) (h2 : x ≤ 2147483647) (w : World) (h : WrAny w t b m z bs) (hl : bs.length ≤ 1099511627776) :
    Calls Try.prog 35 #[.pointer (some ⟨m, 0, none⟩), .int .i64 x] w (WrP t b m z (bs ++ (210 :: be x 4)) w) := by
  have H := hide h
  clear h
  go_enter Try.func35, Try.ntmps35
  go_wp2_with (go_at_call 29; refine (prefix32_any t b m z bs 210 210 rfl (x) (by omega) (by omega) w (unhide H) hl).mono ?_; rintro e w1 ⟨rfl, h1', h2'⟩; have H1 := hide h1'; have H2 := hide h2'; clear h1' h2')
  go_ret
  exact ⟨rfl, unhide H1, unhide H2⟩
set_option maxHeartbeats 800000 in
theorem WriteInt64_9 (t b m z : Nat) (bs : List UInt8) (x : Int) (h1 : 2147483648 ≤ x) (h2 : x ≤ 9223372036854775807) (w : World) (h : WrAny w t b m z bs) (hl : bs.length ≤ 1099511627776) :
    Calls Try.prog 35 #[.pointer (some ⟨m, 0, none⟩), .int .i64 x] w (WrP t b m z (bs ++ (211 :: be x 8)) w) := by
  have H := hide h
  clear h
  go_enter Try.func35, Try.ntmps35
  go_wp2_with (go_at_call 42; refine (prefix64_any t b m z bs 211 211 rfl (x) (by omega) (by omega) w (unhide H) hl).mono ?_; rintro e w1 ⟨rfl, h1', h2'⟩; have H1 := hide h1'; have H2 := hide h2'; clear h1' h2')
  go_ret
  exact ⟨rfl, unhide H1, unhide H2⟩
set_option maxHeartbeats 800000 in
theorem WriteInt64_n1 (t b m z : Nat) (bs : List UInt8) (x : Int) (h1 : -32 ≤ x) (h2 : x ≤ -1) (w : World) (h : WrAny w t b m z bs) (hl : bs.length ≤ 1099511627776) :
    Calls Try.prog 35 #[.pointer (some ⟨m, 0, none⟩), .int .i64 x] w (WrP t b m z (bs ++ [UInt8.ofNat (x + 256).toNat]) w) := by
  have H := hide h
  clear h
  go_enter Try.func35, Try.ntmps35
  go_wp2_with (first
    | (go_at_call 44; refine (wnfixint_w x w (by omega) (by omega)).mono ?_; rintro e w0 ⟨rfl, rfl⟩)
    | (go_at_call 25; refine (push_any t b m z bs (UInt8.ofNat (x + 256).toNat) (x + 256) (by simp; omega) w (unhide H) hl).mono ?_; rintro e w1 ⟨rfl, h1', h2'⟩; have H1 := hide h1'; have H2 := hide h2'; clear h1' h2'))
  go_ret
  exact ⟨rfl, unhide H1, unhide H2⟩
set_option maxHeartbeats 800000 in
theorem WriteInt64_n2 (t b m z : Nat) (bs : List UInt8) (x : Int) (h1 : -128 ≤ x) (h2 : x ≤ -33) (w : World) (h : WrAny w t b m z bs) (hl : bs.length ≤ 1099511627776) :
    Calls Try.prog 35 #[.pointer (some ⟨m, 0, none⟩), .int .i64 x] w (WrP t b m z (bs ++ (208 :: be x 1)) w) := by
  have hw : IntKind.u8.wrap x = x + 256 := by
    have e : IntKind.u8.wrap x = x % 256 := by simp [IntKind.wrap, IntKind.bits, IntKind.signed]
    rw [e]
    omega
  have H := hide h
  clear h
  go_enter Try.func35, Try.ntmps35
  go_wp2_with (go_at_call 27; refine (prefix8_any t b m z bs 208 208 rfl (x + 256) (by omega) (by omega) w (unhide H) hl).mono ?_; rintro e w1 ⟨rfl, h1', h2'⟩; have H1 := hide h1'; have H2 := hide h2'; clear h1' h2')
  go_ret
  have h3 := unhide H1
  rw [be_mod1 (x + 256) x (by omega)] at h3
  exact ⟨rfl, h3, unhide H2⟩
set_option maxHeartbeats 800000 in
theorem WriteInt64_n3 (t b m z : Nat) (bs : List UInt8) (x : Int) (h1 : -32768 ≤ x) (h2 : x ≤ -129) (w : World) (h : WrAny w t b m z bs) (hl : bs.length ≤ 1099511627776) :
    Calls Try.prog 35 #[.pointer (some ⟨m, 0, none⟩), .int .i64 x] w (WrP t b m z (bs ++ (209 :: be x 2)) w) := by
  have hw : IntKind.u16.wrap x = x + 65536 := by
    have e : IntKind.u16.wrap x = x % 65536 := by simp [IntKind.wrap, IntKind.bits, IntKind.signed]
    rw [e]
    omega
  have H := hide h
  clear h
  go_enter Try.func35, Try.ntmps35
  go_wp2_with (go_at_call 28; refine (prefix16_any t b m z bs 209 209 rfl (x + 65536) (by omega) (by omega) w (unhide H) hl).mono ?_; rintro e w1 ⟨rfl, h1', h2'⟩; have H1 := hide h1'; have H2 := hide h2'; clear h1' h2')
  go_ret
  have h3 := unhide H1
  rw [be_mod2 (x + 65536) x (by omega)] at h3
  exact ⟨rfl, h3, unhide H2⟩
set_option maxHeartbeats 800000 in
theorem WriteInt64_n5 (t b m z : Nat) (bs : List UInt8) (x : Int) (h1 : -2147483648 ≤ x) (h2 : x ≤ -32769) (w : World) (h : WrAny w t b m z bs) (hl : bs.length ≤ 1099511627776) :
    Calls Try.prog 35 #[.pointer (some ⟨m, 0, none⟩), .int .i64 x] w (WrP t b m z (bs ++ (210 :: be x 4)) w) := by
  have hw : IntKind.u32.wrap x = x + 4294967296 := by
    have e : IntKind.u32.wrap x = x % 4294967296 := by simp [IntKind.wrap, IntKind.bits, IntKind.signed]
    rw [e]
    omega
  have H := hide h
  clear h
  go_enter Try.func35, Try.ntmps35
  go_wp2_with (go_at_call 29; refine (prefix32_any t b m z bs 210 210 rfl (x + 4294967296) (by omega) (by omega) w (unhide H) hl).mono ?_; rintro e w1 ⟨rfl, h1', h2'⟩; have H1 := hide h1'; have H2 := hide h2'; clear h1' h2')
  go_ret
  have h3 := unhide H1
  rw [be_mod4 (x + 4294967296) x (by omega)] at h3
  exact ⟨rfl, h3, unhide H2⟩
set_option maxHeartbeats 800000 in
theorem WriteInt64_n9 (t b m z : Nat) (bs : List UInt8) (x : Int) (h1 : -9223372036854775808 ≤ x) (h2 : x ≤ -2147483649) (w : World) (h : WrAny w t b m z bs) (hl : bs.length ≤ 1099511627776) :
    Calls Try.prog 35 #[.pointer (some ⟨m, 0, none⟩), .int .i64 x] w (WrP t b m z (bs ++ (211 :: be x 8)) w) := by
  have hw : IntKind.u64.wrap x = x + 18446744073709551616 := by
    have e : IntKind.u64.wrap x = x % 18446744073709551616 := by simp [IntKind.wrap, IntKind.bits, IntKind.signed]
    rw [e]
    omega
  have H := hide h
  clear h
  go_enter Try.func35, Try.ntmps35
  go_wp2_with (go_at_call 42; refine (prefix64_any t b m z bs 211 211 rfl (x + 18446744073709551616) (by omega) (by omega) w (unhide H) hl).mono ?_; rintro e w1 ⟨rfl, h1', h2'⟩; have H1 := hide h1'; have H2 := hide h2'; clear h1' h2')
  go_ret
  have h3 := unhide H1
  rw [be_mod8 (x + 18446744073709551616) x (by omega)] at h3
  exact ⟨rfl, h3, unhide H2⟩
theorem WriteInt64_any (t b m z : Nat) (bs : List UInt8) (x : Int) (h1 : -9223372036854775808 ≤ x) (h2 : x ≤ 9223372036854775807) (w : World) (h : WrAny w t b m z bs) (hl : bs.length ≤ 1099511627776) :
    Calls Try.prog 35 #[.pointer (some ⟨m, 0, none⟩), .int .i64 x] w (WrP t b m z (bs ++ encI x) w) := by
  unfold encI
  repeat' split
  · exact WriteInt64_1 t b m z bs x (by omega) (by omega) w h hl
  · exact WriteInt64_3 t b m z bs x (by omega) (by omega) w h hl
  · exact WriteInt64_5 t b m z bs x (by omega) (by omega) w h hl
  · exact WriteInt64_9 t b m z bs x (by omega) (by omega) w h hl
  · exact WriteInt64_n1 t b m z bs x (by omega) (by omega) w h hl
  · exact WriteInt64_n2 t b m z bs x (by omega) (by omega) w h hl
  · exact WriteInt64_n3 t b m z bs x (by omega) (by omega) w h hl
  · exact WriteInt64_n5 t b m z bs x (by omega) (by omega) w h hl
  · exact WriteInt64_n9 t b m z bs x (by omega) (by omega) w h hl
theorem WriteUint32_any (t b m z : Nat) (bs : List UInt8) (x : Int) (h1 : 0 ≤ x) (h2 : x ≤ 4294967295) (w : World) (h : WrAny w t b m z bs) (hl : bs.length ≤ 1099511627776) :
    Calls Try.prog 17 #[.pointer (some ⟨m, 0, none⟩), .int .u32 x] w (WrP t b m z (bs ++ encU x) w) := by
  have H := hide h
  clear h
  go_enter Try.func17, Try.ntmps17
  go_wp2_with (go_at_call 31; refine (WriteUint64_any t b m z bs x (by omega) (by omega) w (unhide H) hl).mono ?_; rintro e w1 ⟨rfl, h1', h2'⟩; have H1 := hide h1'; have H2 := hide h2'; clear h1' h2')
  go_ret
  exact ⟨rfl, unhide H1, unhide H2⟩
theorem WriteInt32_any (t b m z : Nat) (bs : List UInt8) (x : Int) (h1 : -2147483648 ≤ x) (h2 : x ≤ 2147483647) (w : World) (h : WrAny w t b m z bs) (hl : bs.length ≤ 1099511627776) :
    Calls Try.prog 22 #[.pointer (some ⟨m, 0, none⟩), .int .i32 x] w (WrP t b m z (bs ++ encI x) w) := by
  have H := hide h
  clear h
  go_enter Try.func22, Try.ntmps22
  go_wp2_with (go_at_call 35; refine (WriteInt64_any t b m z bs x (by omega) (by omega) w (unhide H) hl).mono ?_; rintro e w1 ⟨rfl, h1', h2'⟩; have H1 := hide h1'; have H2 := hide h2'; clear h1' h2')
  go_ret
  exact ⟨rfl, unhide H1, unhide H2⟩
theorem closTextHead_any (t b m z : Nat) (bs : List UInt8) (x : Int) (h1 : 0 ≤ x) (h2 : x ≤ 4294967295) (w : World) (h : WrAny w t b m z bs) (hl : bs.length ≤ 1099511627776) :
    Calls Try.prog 13 #[.pointer (some ⟨m, 0, none⟩), .int .u32 x] w (WrP t b m z (bs ++ encT x) w) := by
  have H := hide h
  clear h
  go_enter Try.func13, Try.ntmps13
  go_wp2_with (go_at_call 14; refine (WriteStringHeader_any t b m z bs x (by omega) (by omega) w (unhide H) hl).mono ?_; rintro e w1 ⟨rfl, h1', h2'⟩; have H1 := hide h1'; have H2 := hide h2'; clear h1' h2')
  go_ret
  exact ⟨rfl, unhide H1, unhide H2⟩
theorem closUint32_any (t b m z : Nat) (bs : List UInt8) (x : Int) (h1 : 0 ≤ x) (h2 : x ≤ 4294967295) (w : World) (h : WrAny w t b m z bs) (hl : bs.length ≤ 1099511627776) :
    Calls Try.prog 16 #[.pointer (some ⟨m, 0, none⟩), .int .u32 x] w (WrP t b m z (bs ++ encU x) w) := by
  have H := hide h
  clear h
  go_enter Try.func16, Try.ntmps16
  go_wp2_with (go_at_call 17; refine (WriteUint32_any t b m z bs x (by omega) (by omega) w (unhide H) hl).mono ?_; rintro e w1 ⟨rfl, h1', h2'⟩; have H1 := hide h1'; have H2 := hide h2'; clear h1' h2')
  go_ret
  exact ⟨rfl, unhide H1, unhide H2⟩
theorem closInt32_any (t b m z : Nat) (bs : List UInt8) (x : Int) (h1 : -2147483648 ≤ x) (h2 : x ≤ 2147483647) (w : World) (h : WrAny w t b m z bs) (hl : bs.length ≤ 1099511627776) :
    Calls Try.prog 21 #[.pointer (some ⟨m, 0, none⟩), .int .i32 x] w (WrP t b m z (bs ++ encI x) w) := by
  have H := hide h
  clear h
  go_enter Try.func21, Try.ntmps21
  go_wp2_with (go_at_call 22; refine (WriteInt32_any t b m z bs x (by omega) (by omega) w (unhide H) hl).mono ?_; rintro e w1 ⟨rfl, h1', h2'⟩; have H1 := hide h1'; have H2 := hide h2'; clear h1' h2')
  go_ret
  exact ⟨rfl, unhide H1, unhide H2⟩
end Go.Proofs.Ytapkehellkdkjaa
