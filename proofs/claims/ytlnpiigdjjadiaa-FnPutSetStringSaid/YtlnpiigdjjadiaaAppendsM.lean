/-
  The appending functions of msgp: what they put behind a byte slice of the call's own, and where the new slice lies. Conditions: the slice is at most 2^40 bytes long.
-/
import Derived.Test.YtlnpiigdjjadiaaPuts
namespace Go.Proofs.Ytlnpiigdjjadiaa
set_option linter.unusedSimpArgs false
set_option linter.unusedVariables false
open Go.RowKit
theorem wpList_append_at {P : Program} {w : World} {ops : Array Oper} {rest : List Oper} {o : Oper} {a : Act} {Q : Exit → Act → World → Prop} (hgd : o.guard = none) (s x : Operand) (t : TypeId)
    (ho : o.op = .call { callee := .builtin .append, args := #[s, x], argTypes := #[t, t] })
    (base : Nat) (e : TypeId) (i : TypeInfo) (z : Value) (size bytes : Nat) (ht : P.underlying t = some (.slice e)) (hi : P.info? e = some i) (hz : i.zero = some z)
    (hsize : i.size = size) (hby : i.bytes = bytes) (hzs : z.cells.size = size) (hsz : 0 < size)
    (v : Value) (n : Nat) (xs : List Value) (hs : a.eval s = v) (hown : w.ownsRow base e size v n xs)
    (ad : Addr) (m c : Nat) (news : List Value) (hx : a.eval x = .slice (some ad) m c) (hl : news.length = m * size) (hnews : ∀ j u, news[j]? = some u → w.cell? (ad.add j) = some u) (h1 : ∀ u ∈ news, u.oneCell' = true)
    (h63 : n + m ≤ maxLen) (hbytes : (n + m) * bytes ≤ 140737488355328) (hbase : base ≤ w.heap.size)
    (h : ∀ v' w', w'.ownsRow base e size v' (n + m) (xs ++ news) → w.grownBy w' v.ownBlock → (v'.ownBlock = v.ownBlock ∨ v'.ownBlock = some w.heap.size) → wpList P ops Q rest (a.put o.dst v') w') : wpList P ops Q (o :: rest) a w :=
  wpList_append_any (S := fun _ => True) w hgd s x t ho base e i z size bytes ht hi hz hsize hby hzs hsz v n xs hs hown (some ad) m c news hx ⟨hl, fun _ => ⟨ad, rfl, trivial, hnews⟩⟩ h1 h63 hbytes hbase h
/-- Behind 'append': the bytes enc stand behind what v held; of what was there v's own row alone may have turned. -/
def Appd (B n : Nat) (xs : List Value) (w : World) (v : Value) (enc : List UInt8) (e : Ending) (w' : World) : Prop :=
  ∃ A c, e = .returned (.slice A (n + enc.length) c) ∧ w'.ownsRow B 5 1 (.slice A (n + enc.length) c) (n + enc.length) (xs ++ enc.map u8) ∧ w.grownBy w' v.ownBlock ∧ n + enc.length ≤ c ∧ c ≤ maxLen ∧ ∀ j, (Value.slice A (n + enc.length) c).ownBlock = some j → v.ownBlock = some j ∨ w.heap.size ≤ j
theorem ensure_any (B : Nat) (A : Option Addr) (n cap sz : Nat) (sz' : Int) (xs : List Value) (w : World) (hsz : sz' = sz) (hsz0 : 0 < sz) (hown : w.ownsRow B 5 1 (.slice A n cap) n xs) (hone : ∀ u ∈ xs, u.oneCell' = true) (hB : B ≤ w.heap.size) (hlen : n + sz ≤ 35184372088832) :
    Calls Try.prog 39 #[.slice A n cap, .int .i64 sz'] w fun e w' => ∃ g c', e = .returned (.tuple #[.slice (some ⟨g, 0, none⟩) (n + sz) c', .int .i64 n]) ∧ n + sz ≤ c' ∧ c' ≤ maxLen ∧ B ≤ g ∧ xs.length = n ∧ Row w' 5 g c' xs ∧ Below w.heap.size w w' ∧ ((Value.slice A n cap).ownBlock = some g ∨ w.heap.size ≤ g) := by
  subst hsz
  have hl : xs.length = n := by simpa using hown.1
  rcases own_row hown with ⟨hv, h0, h1⟩ | ⟨g, c, hv, hBg, hcm, hnc, _, hrow⟩
  · injection hv with hA _ hc
    subst hA h0 hc
    refine (ensure_grow (fun _ => False) none 0 0 sz xs w hl.symm ⟨by simp [h1], fun h => absurd h (by omega)⟩ (fun _ h => h.elim) hone (by omega) (by omega) hlen).mono ?_
    rintro e w' ⟨c', rfl, h2, h3, h4, h5⟩
    exact ⟨w.heap.size, c', rfl, h2, h3, hB, hl, h4, h5, .inr (Nat.le_refl _)⟩
  · injection hv with hA _ hc
    subst hA hc
    by_cases hroom : n + sz ≤ cap
    · refine (ensure_room g n cap sz w hcm hroom).mono ?_
      rintro e w' ⟨rfl, rfl⟩
      exact ⟨g, cap, rfl, hroom, hcm, hBg, hl, hrow, Below.refl _ _, .inl rfl⟩
    · refine (ensure_grow _ (some ⟨g, 0, none⟩) n cap sz xs w hl.symm (Reads.of_own hown) (fun b hb => hb.2.1) hone hnc (by omega) hlen).mono ?_
      rintro e w' ⟨c', rfl, h2, h3, h4, h5⟩
      exact ⟨w.heap.size, c', rfl, h2, h3, hB, hl, h4, h5, .inr (Nat.le_refl _)⟩
theorem append_done {B n g c' s : Nat} {v : Value} {xs : List Value} {enc : List UInt8} {w w1 w2 : World} (hxl : xs.length = n) (hbel : Below w.heap.size w w1) (hat : v.ownBlock = some g ∨ w.heap.size ≤ g) (hBg : B ≤ g) (hcm : c' ≤ maxLen)
    (hrow2 : Row w2 5 g c' (xs ++ enc.map u8)) (hg2 : w1.grownBy w2 (some g)) (hs : s = enc.length) : Appd B n xs w v enc (.returned (.slice (some ⟨g, 0, none⟩) (n + s) c')) w2 := by
  subst hs
  have hle := hrow2.le_
  rw [List.length_append, List.length_map, hxl] at hle
  refine ⟨some ⟨g, 0, none⟩, c', rfl, hrow2.own (by simp [hxl]) hBg hcm, ?_, hle, hcm, fun j hj => by
    obtain rfl : g = j := by simpa [Value.ownBlock] using hj
    exact hat⟩
  exact grown_trans' (only_of_below hbel v.ownBlock) hg2 (fun k hk => by
    injection hk with hk
    subst hk
    exact hat)
theorem append_one {B n : Nat} {A : Option Addr} {cap : Nat} {xs : List Value} {b : UInt8} {w w1 : World} {v' : Value} {o : Obj} (_hown : w.ownsRow B 5 1 (.slice A n cap) n xs) (h : w1.ownsRow B 5 1 v' (n + 1) (xs ++ [u8 b])) (hg : (w.alloc o).grownBy w1 (Value.slice A n cap).ownBlock) (hmv : v'.ownBlock = (Value.slice A n cap).ownBlock ∨ v'.ownBlock = some (w.alloc o).heap.size) :
    Appd B n xs w (.slice A n cap) [b] (.returned v') w1 := by
  obtain ⟨A', c', rfl, h1, h2, _⟩ := own_slice h
  refine ⟨A', c', rfl, h, ?_, h1, h2, fun j hj => ?_⟩
  rotate_left
  · have hj' : (Value.slice A' (n + 1) c').ownBlock = some j := hj
    rcases hmv with e | e
    · exact .inl (e.symm.trans hj')
    · have := hj'.symm.trans e
      injection this with this
      right
      rw [this]
      simp
  exact ⟨hg.os, hg.tape, hg.output, by have := hg.size; simp at this; omega, fun k hk hne => (hg.block k (by simp; omega) hne).trans (Below.heap_alloc w o k hk)⟩
theorem wfixint_any (u : Int) (w : World) (h0 : 0 ≤ u) (h1 : u ≤ 127) : Calls Try.prog 51 #[.int .u8 u] w fun e w' => e = .returned (.int .u8 u) ∧ w = w' := by
  have hb : bits BinOp.and IntKind.u8 u 127 = u := by
    obtain ⟨n, rfl⟩ := Int.eq_ofNat_of_zero_le h0
    have : ∀ n : Nat, n < 128 → bits BinOp.and IntKind.u8 (n : Int) 127 = n := by decide +kernel
    exact this n (by omega)
  go_enter Try.func51, Try.ntmps51
  go_wp2
  go_ret
  exact ⟨rfl, rfl⟩
theorem wnfixint_any (i : Int) (w : World) (h0 : -32 ≤ i) (h1 : i < 0) : Calls Try.prog 55 #[.int .i8 i] w fun e w' => e = .returned (.int .u8 (i + 256)) ∧ w = w' := by
  have hb : bits BinOp.or IntKind.u8 (i + 256) 224 = i + 256 := by
    obtain ⟨n, hn⟩ := Int.eq_ofNat_of_zero_le (show 0 ≤ i + 256 by omega)
    rw [hn]
    have : ∀ n : Nat, n < 256 → 224 ≤ n → bits BinOp.or IntKind.u8 (n : Int) 224 = n := by decide +kernel
    exact this n (by omega) (by omega)
  have hw : IntKind.u8.wrap i = i + 256 := by
    have e : IntKind.u8.wrap i = i % 256 := by simp [IntKind.wrap, IntKind.bits, IntKind.signed]
    rw [e]
    omega
  go_enter Try.func55, Try.ntmps55
  go_wp2
  go_ret
  exact ⟨rfl, rfl⟩
theorem one_at (w : World) (t : TypeId) (b : UInt8) (x : Value) (h : x = u8 b) : ∀ j u, [u8 b][j]? = some u → (w.alloc (.cells #[x] t)).cell? ((⟨w.heap.size, 0, none⟩ : Addr).add j) = some u := by
  subst h
  exact World.news_of_block (B := w.heap.size) (cs := #[u8 b]) (t := t) (fr := (0, 0)) (heap_alloc_new w _)
set_option maxHeartbeats 400000 in
theorem AppendUint64_1 (x : Int) (h1 : 0 ≤ x) (h2 : x ≤ 127) (B : Nat) (A : Option Addr) (n cap : Nat) (xs : List Value) (w : World) (hown : w.ownsRow B 5 1 (.slice A n cap) n xs) (_hone : ∀ u ∈ xs, u.oneCell' = true) (hB : B ≤ w.heap.size) (hlen : n ≤ 1099511627776) :
    Calls Try.prog 49 #[.slice A n cap, .int .u64 x] w (Appd B n xs w (.slice A n cap) [UInt8.ofNat x.toNat]) := by
  have hbyte0 : Value.int .u8 x = u8 (UInt8.ofNat x.toNat) := by
    unfold u8
    simp
    omega
  have hbyte := hide hbyte0
  clear hbyte0
  have hw : IntKind.u8.wrap x = x := by
    have e : IntKind.u8.wrap x = x % 256 := by simp [IntKind.wrap, IntKind.bits, IntKind.signed]
    rw [e]
    omega
  go_enter Try.func49, Try.ntmps49
  go_wp2_with (first
    | (go_at_call 51; refine (wfixint_any _ _ (by omega) (by omega)).mono ?_; rintro e w' ⟨rfl, rfl⟩)
    | (at_builtin; obtain ⟨i0, hi0, hz0, hz1', hz2⟩ := info_parts info5; refine wpList_append_at rfl _ _ _ rfl B 5 i0 _ 1 1 Try.underlying22 hi0 hz0 hz1' hz2 ?x1 ?x2 (.slice A n cap) n xs ?x3 (hown.alloc _) ⟨w.heap.size, 0, none⟩ 1 1 [u8 (UInt8.ofNat x.toNat)] ?x4 ?x5 ?c1 ?c2 ?c3 ?x7 ?c4 ?_; (case x1 => rfl); (case x2 => omega); (case x3 => rfl); (case x4 => rfl); (case x5 => rfl); (case x7 => omega); (case c1 => exact one_at _ _ _ _ (unhide hbyte)); (case c2 => intro u hu; simp at hu; subst hu; rfl); (case c3 => unfold maxLen; omega); (case c4 => simp; omega); clear hi0 hz0 hz1' hz2; intro v1 w1 hown1 hgrow1 hnil1))
  go_ret
  exact append_one hown hown1 hgrow1 hnil1
set_option maxHeartbeats 400000 in
theorem AppendUint64_2 (x : Int) (h1 : 128 ≤ x) (h2 : x ≤ 255) (B : Nat) (A : Option Addr) (n cap : Nat) (xs : List Value) (w : World) (hown : w.ownsRow B 5 1 (.slice A n cap) n xs) (hone : ∀ u ∈ xs, u.oneCell' = true) (hB : B ≤ w.heap.size) (hlen : n ≤ 1099511627776) :
    Calls Try.prog 49 #[.slice A n cap, .int .u64 x] w (Appd B n xs w (.slice A n cap) (204 :: be x 1)) := by
  go_enter Try.func49, Try.ntmps49
  go_wp2_with (first
    | (go_at_call 39; refine (ensure_any B A n cap 2 _ xs _ (by simp) (by omega) hown hone hB (by omega)).mono ?_; rintro e w1 ⟨g, c', rfl, hgc, hcm, hBg, hxl, hrow, hbel, hat⟩; have HX := hide hxl; have HA := hide hat; clear hxl hat; unfold maxLen at hcm; have hcut := cutA_at g c' n (by omega))
    | (go_at_call 68; refine (w_putMuint8 g n c' _ _ _ (by omega) (by omega) xs _ hrow (unhide HX) (by omega) (by omega) (by omega)).mono ?_; rintro e w2 ⟨rfl, hrow2, hg2, hz2⟩))
  go_ret
  exact append_done (unhide HX) hbel (unhide HA) hBg (by unfold maxLen; omega) hrow2 hg2 (by simp [be])
set_option maxHeartbeats 400000 in
theorem AppendUint64_3 (x : Int) (h1 : 256 ≤ x) (h2 : x ≤ 65535) (B : Nat) (A : Option Addr) (n cap : Nat) (xs : List Value) (w : World) (hown : w.ownsRow B 5 1 (.slice A n cap) n xs) (hone : ∀ u ∈ xs, u.oneCell' = true) (hB : B ≤ w.heap.size) (hlen : n ≤ 1099511627776) :
    Calls Try.prog 49 #[.slice A n cap, .int .u64 x] w (Appd B n xs w (.slice A n cap) (205 :: be x 2)) := by
  go_enter Try.func49, Try.ntmps49
  go_wp2_with (first
    | (go_at_call 39; refine (ensure_any B A n cap 3 _ xs _ (by simp) (by omega) hown hone hB (by omega)).mono ?_; rintro e w1 ⟨g, c', rfl, hgc, hcm, hBg, hxl, hrow, hbel, hat⟩; have HX := hide hxl; have HA := hide hat; clear hxl hat; unfold maxLen at hcm; have hcut := cutA_at g c' n (by omega))
    | (go_at_call 69; refine (w_putMuint16 g n c' _ _ _ (by omega) (by omega) xs _ hrow (unhide HX) (by omega) (by omega) (by omega)).mono ?_; rintro e w2 ⟨rfl, hrow2, hg2, hz2⟩))
  go_ret
  exact append_done (unhide HX) hbel (unhide HA) hBg (by unfold maxLen; omega) hrow2 hg2 (by simp [be])
set_option maxHeartbeats 400000 in
theorem AppendUint64_5 (x : Int) (h1 : 65536 ≤ x) (h2 : x ≤ 4294967295) (B : Nat) (A : Option Addr) (n cap : Nat) (xs : List Value) (w : World) (hown : w.ownsRow B 5 1 (.slice A n cap) n xs) (hone : ∀ u ∈ xs, u.oneCell' = true) (hB : B ≤ w.heap.size) (hlen : n ≤ 1099511627776) :
    Calls Try.prog 49 #[.slice A n cap, .int .u64 x] w (Appd B n xs w (.slice A n cap) (206 :: be x 4)) := by
  go_enter Try.func49, Try.ntmps49
  go_wp2_with (first
    | (go_at_call 39; refine (ensure_any B A n cap 5 _ xs _ (by simp) (by omega) hown hone hB (by omega)).mono ?_; rintro e w1 ⟨g, c', rfl, hgc, hcm, hBg, hxl, hrow, hbel, hat⟩; have HX := hide hxl; have HA := hide hat; clear hxl hat; unfold maxLen at hcm; have hcut := cutA_at g c' n (by omega))
    | (go_at_call 70; refine (w_putMuint32 g n c' _ _ _ (by omega) (by omega) xs _ hrow (unhide HX) (by omega) (by omega) (by omega)).mono ?_; rintro e w2 ⟨rfl, hrow2, hg2, hz2⟩))
  go_ret
  exact append_done (unhide HX) hbel (unhide HA) hBg (by unfold maxLen; omega) hrow2 hg2 (by simp [be])
set_option maxHeartbeats 400000 in
theorem AppendUint64_9 (x : Int) (h1 : 4294967296 ≤ x) (h2 : x ≤ 18446744073709551615) (B : Nat) (A : Option Addr) (n cap : Nat) (xs : List Value) (w : World) (hown : w.ownsRow B 5 1 (.slice A n cap) n xs) (hone : ∀ u ∈ xs, u.oneCell' = true) (hB : B ≤ w.heap.size) (hlen : n ≤ 1099511627776) :
    Calls Try.prog 49 #[.slice A n cap, .int .u64 x] w (Appd B n xs w (.slice A n cap) (207 :: be x 8)) := by
  go_enter Try.func49, Try.ntmps49
  go_wp2_with (first
    | (go_at_call 39; refine (ensure_any B A n cap 9 _ xs _ (by simp) (by omega) hown hone hB (by omega)).mono ?_; rintro e w1 ⟨g, c', rfl, hgc, hcm, hBg, hxl, hrow, hbel, hat⟩; have HX := hide hxl; have HA := hide hat; clear hxl hat; unfold maxLen at hcm; have hcut := cutA_at g c' n (by omega))
    | (go_at_call 71; refine (w_putMuint64 g n c' _ _ _ (by omega) (by omega) xs _ hrow (unhide HX) (by omega) (by omega) (by omega)).mono ?_; rintro e w2 ⟨rfl, hrow2, hg2, hz2⟩))
  go_ret
  exact append_done (unhide HX) hbel (unhide HA) hBg (by unfold maxLen; omega) hrow2 hg2 (by simp [be])
/-- How AppendUint64 writes a number. -/
def encU (x : Int) : List UInt8 :=
  if x ≤ 127 then [UInt8.ofNat x.toNat] else if x ≤ 255 then 204 :: be x 1 else if x ≤ 65535 then 205 :: be x 2 else if x ≤ 4294967295 then 206 :: be x 4 else 207 :: be x 8
theorem AppendUint64_any (x : Int) (h1 : 0 ≤ x) (h2 : x ≤ 18446744073709551615) (B : Nat) (A : Option Addr) (n cap : Nat) (xs : List Value) (w : World) (hown : w.ownsRow B 5 1 (.slice A n cap) n xs) (hone : ∀ u ∈ xs, u.oneCell' = true) (hB : B ≤ w.heap.size) (hlen : n ≤ 1099511627776) :
    Calls Try.prog 49 #[.slice A n cap, .int .u64 x] w (Appd B n xs w (.slice A n cap) (encU x)) := by
  unfold encU
  split
  · exact AppendUint64_1 x h1 (by omega) B A n cap xs w hown hone hB hlen
  split
  · exact AppendUint64_2 x (by omega) (by omega) B A n cap xs w hown hone hB hlen
  split
  · exact AppendUint64_3 x (by omega) (by omega) B A n cap xs w hown hone hB hlen
  split
  · exact AppendUint64_5 x (by omega) (by omega) B A n cap xs w hown hone hB hlen
  · exact AppendUint64_9 x (by omega) h2 B A n cap xs w hown hone hB hlen
theorem wrap_i8 (x : Int) (h0 : -128 ≤ x) (h1 : x ≤ 127) : IntKind.i8.wrap x = x := by
  have e : IntKind.i8.wrap x = (if 128 ≤ x % 256 then x % 256 - 256 else x % 256) := by simp [IntKind.wrap, IntKind.bits, IntKind.signed]
  rw [e]
  split <;> omega
theorem wrap_i16 (x : Int) (h0 : -32768 ≤ x) (h1 : x ≤ 32767) : IntKind.i16.wrap x = x := by
  have e : IntKind.i16.wrap x = (if 32768 ≤ x % 65536 then x % 65536 - 65536 else x % 65536) := by simp [IntKind.wrap, IntKind.bits, IntKind.signed]
  rw [e]
  split <;> omega
theorem wrap_i32 (x : Int) (h0 : -2147483648 ≤ x) (h1 : x ≤ 2147483647) : IntKind.i32.wrap x = x := by
  have e : IntKind.i32.wrap x = (if 2147483648 ≤ x % 4294967296 then x % 4294967296 - 4294967296 else x % 4294967296) := by simp [IntKind.wrap, IntKind.bits, IntKind.signed]
  rw [e]
  split <;> omega
set_option maxHeartbeats 400000 in
theorem AppendInt64_1 (x : Int) (h1 : 0 ≤ x) (h2 : x ≤ 127) (B : Nat) (A : Option Addr) (n cap : Nat) (xs : List Value) (w : World) (hown : w.ownsRow B 5 1 (.slice A n cap) n xs) (_hone : ∀ u ∈ xs, u.oneCell' = true) (hB : B ≤ w.heap.size) (hlen : n ≤ 1099511627776) :
    Calls Try.prog 37 #[.slice A n cap, .int .i64 x] w (Appd B n xs w (.slice A n cap) [UInt8.ofNat x.toNat]) := by
  have hbyte0 : Value.int .u8 x = u8 (UInt8.ofNat x.toNat) := by
    unfold u8
    simp
    omega
  have hbyte := hide hbyte0
  clear hbyte0
  have hw : IntKind.u8.wrap x = x := by
    have e : IntKind.u8.wrap x = x % 256 := by simp [IntKind.wrap, IntKind.bits, IntKind.signed]
    rw [e]
    omega
  go_enter Try.func37, Try.ntmps37
  go_wp2_with (first
    | (go_at_call 51; refine (wfixint_any _ _ (by omega) (by omega)).mono ?_; rintro e w' ⟨rfl, rfl⟩)
    | (at_builtin; obtain ⟨i0, hi0, hz0, hz1', hz2⟩ := info_parts info5; refine wpList_append_at rfl _ _ _ rfl B 5 i0 _ 1 1 Try.underlying22 hi0 hz0 hz1' hz2 ?x1 ?x2 (.slice A n cap) n xs ?x3 (hown.alloc _) ⟨w.heap.size, 0, none⟩ 1 1 [u8 (UInt8.ofNat x.toNat)] ?x4 ?x5 ?c1 ?c2 ?c3 ?x7 ?c4 ?_; (case x1 => rfl); (case x2 => omega); (case x3 => rfl); (case x4 => rfl); (case x5 => rfl); (case x7 => omega); (case c1 => exact one_at _ _ _ _ (unhide hbyte)); (case c2 => intro u hu; simp at hu; subst hu; rfl); (case c3 => unfold maxLen; omega); (case c4 => simp; omega); clear hi0 hz0 hz1' hz2; intro v1 w1 hown1 hgrow1 hnil1))
  go_ret
  exact append_one hown hown1 hgrow1 hnil1
set_option maxHeartbeats 400000 in
theorem AppendInt64_n1 (x : Int) (h1 : -32 ≤ x) (h2 : x ≤ -1) (B : Nat) (A : Option Addr) (n cap : Nat) (xs : List Value) (w : World) (hown : w.ownsRow B 5 1 (.slice A n cap) n xs) (_hone : ∀ u ∈ xs, u.oneCell' = true) (hB : B ≤ w.heap.size) (hlen : n ≤ 1099511627776) :
    Calls Try.prog 37 #[.slice A n cap, .int .i64 x] w (Appd B n xs w (.slice A n cap) [UInt8.ofNat (x + 256).toNat]) := by
  have hbyte0 : Value.int .u8 (x + 256) = u8 (UInt8.ofNat (x + 256).toNat) := by
    unfold u8
    simp
    omega
  have hbyte := hide hbyte0
  clear hbyte0
  have hw := wrap_i8 x (by omega) (by omega)
  go_enter Try.func37, Try.ntmps37
  go_wp2_with (first
    | (go_at_call 55; refine (wnfixint_any _ _ (by omega) (by omega)).mono ?_; rintro e w' ⟨rfl, rfl⟩)
    | (at_builtin; obtain ⟨i0, hi0, hz0, hz1', hz2⟩ := info_parts info5; refine wpList_append_at rfl _ _ _ rfl B 5 i0 _ 1 1 Try.underlying22 hi0 hz0 hz1' hz2 ?x1 ?x2 (.slice A n cap) n xs ?x3 (hown.alloc _) ⟨w.heap.size, 0, none⟩ 1 1 [u8 (UInt8.ofNat (x + 256).toNat)] ?x4 ?x5 ?c1 ?c2 ?c3 ?x7 ?c4 ?_; (case x1 => rfl); (case x2 => omega); (case x3 => rfl); (case x4 => rfl); (case x5 => rfl); (case x7 => omega); (case c1 => exact one_at _ _ _ _ (unhide hbyte)); (case c2 => intro u hu; simp at hu; subst hu; rfl); (case c3 => unfold maxLen; omega); (case c4 => simp; omega); clear hi0 hz0 hz1' hz2; intro v1 w1 hown1 hgrow1 hnil1))
  go_ret
  exact append_one hown hown1 hgrow1 hnil1
set_option maxHeartbeats 400000 in
theorem AppendInt64_3 (x : Int) (h1 : 128 ≤ x) (h2 : x ≤ 32767) (B : Nat) (A : Option Addr) (n cap : Nat) (xs : List Value) (w : World) (hown : w.ownsRow B 5 1 (.slice A n cap) n xs) (hone : ∀ u ∈ xs, u.oneCell' = true) (hB : B ≤ w.heap.size) (hlen : n ≤ 1099511627776) :
    Calls Try.prog 37 #[.slice A n cap, .int .i64 x] w (Appd B n xs w (.slice A n cap) (209 :: be x 2)) := by
  have hw := wrap_i16 x (by omega) (by omega)
  go_enter Try.func37, Try.ntmps37
  go_wp2_with (first
    | (go_at_call 39; refine (ensure_any B A n cap 3 _ xs _ (by simp) (by omega) hown hone hB (by omega)).mono ?_; rintro e w1 ⟨g, c', rfl, hgc, hcm, hBg, hxl, hrow, hbel, hat⟩; have HX := hide hxl; have HA := hide hat; clear hxl hat; unfold maxLen at hcm; have hcut := cutA_at g c' n (by omega))
    | (go_at_call 52; refine (w_putMint16 g n c' _ _ _ (by omega) (by omega) xs _ hrow (unhide HX) (by omega) (by omega) (by omega)).mono ?_; rintro e w2 ⟨rfl, hrow2, hg2, hz2⟩))
  go_ret
  exact append_done (unhide HX) hbel (unhide HA) hBg (by unfold maxLen; omega) hrow2 hg2 (by simp [be])
set_option maxHeartbeats 400000 in
theorem AppendInt64_5 (x : Int) (h1 : 32768 ≤ x) (h2 : x ≤ 2147483647) (B : Nat) (A : Option Addr) (n cap : Nat) (xs : List Value) (w : World) (hown : w.ownsRow B 5 1 (.slice A n cap) n xs) (hone : ∀ u ∈ xs, u.oneCell' = true) (hB : B ≤ w.heap.size) (hlen : n ≤ 1099511627776) :
    Calls Try.prog 37 #[.slice A n cap, .int .i64 x] w (Appd B n xs w (.slice A n cap) (210 :: be x 4)) := by
  have hw := wrap_i32 x (by omega) (by omega)
  go_enter Try.func37, Try.ntmps37
  go_wp2_with (first
    | (go_at_call 39; refine (ensure_any B A n cap 5 _ xs _ (by simp) (by omega) hown hone hB (by omega)).mono ?_; rintro e w1 ⟨g, c', rfl, hgc, hcm, hBg, hxl, hrow, hbel, hat⟩; have HX := hide hxl; have HA := hide hat; clear hxl hat; unfold maxLen at hcm; have hcut := cutA_at g c' n (by omega))
    | (go_at_call 53; refine (w_putMint32 g n c' _ _ _ (by omega) (by omega) xs _ hrow (unhide HX) (by omega) (by omega) (by omega)).mono ?_; rintro e w2 ⟨rfl, hrow2, hg2, hz2⟩))
  go_ret
  exact append_done (unhide HX) hbel (unhide HA) hBg (by unfold maxLen; omega) hrow2 hg2 (by simp [be])
set_option maxHeartbeats 400000 in
theorem AppendInt64_9 (x : Int) (h1 : 2147483648 ≤ x) (h2 : x ≤ 9223372036854775807) (B : Nat) (A : Option Addr) (n cap : Nat) (xs : List Value) (w : World) (hown : w.ownsRow B 5 1 (.slice A n cap) n xs) (hone : ∀ u ∈ xs, u.oneCell' = true) (hB : B ≤ w.heap.size) (hlen : n ≤ 1099511627776) :
    Calls Try.prog 37 #[.slice A n cap, .int .i64 x] w (Appd B n xs w (.slice A n cap) (211 :: be x 8)) := by
  go_enter Try.func37, Try.ntmps37
  go_wp2_with (first
    | (go_at_call 39; refine (ensure_any B A n cap 9 _ xs _ (by simp) (by omega) hown hone hB (by omega)).mono ?_; rintro e w1 ⟨g, c', rfl, hgc, hcm, hBg, hxl, hrow, hbel, hat⟩; have HX := hide hxl; have HA := hide hat; clear hxl hat; unfold maxLen at hcm; have hcut := cutA_at g c' n (by omega))
    | (go_at_call 54; refine (w_putMint64 g n c' _ _ _ (by omega) (by omega) xs _ hrow (unhide HX) (by omega) (by omega) (by omega)).mono ?_; rintro e w2 ⟨rfl, hrow2, hg2, hz2⟩))
  go_ret
  exact append_done (unhide HX) hbel (unhide HA) hBg (by unfold maxLen; omega) hrow2 hg2 (by simp [be])
set_option maxHeartbeats 400000 in
theorem AppendInt64_n2 (x : Int) (h1 : -128 ≤ x) (h2 : x ≤ -33) (B : Nat) (A : Option Addr) (n cap : Nat) (xs : List Value) (w : World) (hown : w.ownsRow B 5 1 (.slice A n cap) n xs) (hone : ∀ u ∈ xs, u.oneCell' = true) (hB : B ≤ w.heap.size) (hlen : n ≤ 1099511627776) :
    Calls Try.prog 37 #[.slice A n cap, .int .i64 x] w (Appd B n xs w (.slice A n cap) (208 :: be x 1)) := by
  have hw := wrap_i8 x (by omega) (by omega)
  go_enter Try.func37, Try.ntmps37
  go_wp2_with (first
    | (go_at_call 39; refine (ensure_any B A n cap 2 _ xs _ (by simp) (by omega) hown hone hB (by omega)).mono ?_; rintro e w1 ⟨g, c', rfl, hgc, hcm, hBg, hxl, hrow, hbel, hat⟩; have HX := hide hxl; have HA := hide hat; clear hxl hat; unfold maxLen at hcm; have hcut := cutA_at g c' n (by omega))
    | (go_at_call 56; refine (w_putMint8 g n c' _ _ _ (by omega) (by omega) xs _ hrow (unhide HX) (by omega) (by omega) (by omega)).mono ?_; rintro e w2 ⟨rfl, hrow2, hg2, hz2⟩))
  go_ret
  exact append_done (unhide HX) hbel (unhide HA) hBg (by unfold maxLen; omega) hrow2 hg2 (by simp [be])
set_option maxHeartbeats 400000 in
theorem AppendInt64_n3 (x : Int) (h1 : -32768 ≤ x) (h2 : x ≤ -129) (B : Nat) (A : Option Addr) (n cap : Nat) (xs : List Value) (w : World) (hown : w.ownsRow B 5 1 (.slice A n cap) n xs) (hone : ∀ u ∈ xs, u.oneCell' = true) (hB : B ≤ w.heap.size) (hlen : n ≤ 1099511627776) :
    Calls Try.prog 37 #[.slice A n cap, .int .i64 x] w (Appd B n xs w (.slice A n cap) (209 :: be x 2)) := by
  have hw := wrap_i16 x (by omega) (by omega)
  go_enter Try.func37, Try.ntmps37
  go_wp2_with (first
    | (go_at_call 39; refine (ensure_any B A n cap 3 _ xs _ (by simp) (by omega) hown hone hB (by omega)).mono ?_; rintro e w1 ⟨g, c', rfl, hgc, hcm, hBg, hxl, hrow, hbel, hat⟩; have HX := hide hxl; have HA := hide hat; clear hxl hat; unfold maxLen at hcm; have hcut := cutA_at g c' n (by omega))
    | (go_at_call 52; refine (w_putMint16 g n c' _ _ _ (by omega) (by omega) xs _ hrow (unhide HX) (by omega) (by omega) (by omega)).mono ?_; rintro e w2 ⟨rfl, hrow2, hg2, hz2⟩))
  go_ret
  exact append_done (unhide HX) hbel (unhide HA) hBg (by unfold maxLen; omega) hrow2 hg2 (by simp [be])
set_option maxHeartbeats 400000 in
theorem AppendInt64_n5 (x : Int) (h1 : -2147483648 ≤ x) (h2 : x ≤ -32769) (B : Nat) (A : Option Addr) (n cap : Nat) (xs : List Value) (w : World) (hown : w.ownsRow B 5 1 (.slice A n cap) n xs) (hone : ∀ u ∈ xs, u.oneCell' = true) (hB : B ≤ w.heap.size) (hlen : n ≤ 1099511627776) :
    Calls Try.prog 37 #[.slice A n cap, .int .i64 x] w (Appd B n xs w (.slice A n cap) (210 :: be x 4)) := by
  have hw := wrap_i32 x (by omega) (by omega)
  go_enter Try.func37, Try.ntmps37
  go_wp2_with (first
    | (go_at_call 39; refine (ensure_any B A n cap 5 _ xs _ (by simp) (by omega) hown hone hB (by omega)).mono ?_; rintro e w1 ⟨g, c', rfl, hgc, hcm, hBg, hxl, hrow, hbel, hat⟩; have HX := hide hxl; have HA := hide hat; clear hxl hat; unfold maxLen at hcm; have hcut := cutA_at g c' n (by omega))
    | (go_at_call 53; refine (w_putMint32 g n c' _ _ _ (by omega) (by omega) xs _ hrow (unhide HX) (by omega) (by omega) (by omega)).mono ?_; rintro e w2 ⟨rfl, hrow2, hg2, hz2⟩))
  go_ret
  exact append_done (unhide HX) hbel (unhide HA) hBg (by unfold maxLen; omega) hrow2 hg2 (by simp [be])
set_option maxHeartbeats 400000 in
theorem AppendInt64_n9 (x : Int) (h1 : -9223372036854775808 ≤ x) (h2 : x ≤ -2147483649) (B : Nat) (A : Option Addr) (n cap : Nat) (xs : List Value) (w : World) (hown : w.ownsRow B 5 1 (.slice A n cap) n xs) (hone : ∀ u ∈ xs, u.oneCell' = true) (hB : B ≤ w.heap.size) (hlen : n ≤ 1099511627776) :
    Calls Try.prog 37 #[.slice A n cap, .int .i64 x] w (Appd B n xs w (.slice A n cap) (211 :: be x 8)) := by
  go_enter Try.func37, Try.ntmps37
  go_wp2_with (first
    | (go_at_call 39; refine (ensure_any B A n cap 9 _ xs _ (by simp) (by omega) hown hone hB (by omega)).mono ?_; rintro e w1 ⟨g, c', rfl, hgc, hcm, hBg, hxl, hrow, hbel, hat⟩; have HX := hide hxl; have HA := hide hat; clear hxl hat; unfold maxLen at hcm; have hcut := cutA_at g c' n (by omega))
    | (go_at_call 54; refine (w_putMint64 g n c' _ _ _ (by omega) (by omega) xs _ hrow (unhide HX) (by omega) (by omega) (by omega)).mono ?_; rintro e w2 ⟨rfl, hrow2, hg2, hz2⟩))
  go_ret
  exact append_done (unhide HX) hbel (unhide HA) hBg (by unfold maxLen; omega) hrow2 hg2 (by simp [be])
/-- How AppendInt64 writes a number. -/
def encI (x : Int) : List UInt8 :=
  if 0 ≤ x then (if x ≤ 127 then [UInt8.ofNat x.toNat] else if x ≤ 32767 then 209 :: be x 2 else if x ≤ 2147483647 then 210 :: be x 4 else 211 :: be x 8)
  else (if -32 ≤ x then [UInt8.ofNat (x + 256).toNat] else if -128 ≤ x then 208 :: be x 1 else if -32768 ≤ x then 209 :: be x 2 else if -2147483648 ≤ x then 210 :: be x 4 else 211 :: be x 8)
theorem AppendInt64_any (x : Int) (h1 : -9223372036854775808 ≤ x) (h2 : x ≤ 9223372036854775807) (B : Nat) (A : Option Addr) (n cap : Nat) (xs : List Value) (w : World) (hown : w.ownsRow B 5 1 (.slice A n cap) n xs) (hone : ∀ u ∈ xs, u.oneCell' = true) (hB : B ≤ w.heap.size) (hlen : n ≤ 1099511627776) :
    Calls Try.prog 37 #[.slice A n cap, .int .i64 x] w (Appd B n xs w (.slice A n cap) (encI x)) := by
  unfold encI
  split
  · split
    · exact AppendInt64_1 x (by omega) (by omega) B A n cap xs w hown hone hB hlen
    split
    · exact AppendInt64_3 x (by omega) (by omega) B A n cap xs w hown hone hB hlen
    split
    · exact AppendInt64_5 x (by omega) (by omega) B A n cap xs w hown hone hB hlen
    · exact AppendInt64_9 x (by omega) (by omega) B A n cap xs w hown hone hB hlen
  · split
    · exact AppendInt64_n1 x (by omega) (by omega) B A n cap xs w hown hone hB hlen
    split
    · exact AppendInt64_n2 x (by omega) (by omega) B A n cap xs w hown hone hB hlen
    split
    · exact AppendInt64_n3 x (by omega) (by omega) B A n cap xs w hown hone hB hlen
    split
    · exact AppendInt64_n5 x (by omega) (by omega) B A n cap xs w hown hone hB hlen
    · exact AppendInt64_n9 x (by omega) (by omega) B A n cap xs w hown hone hB hlen
end Go.Proofs.Ytlnpiigdjjadiaa
