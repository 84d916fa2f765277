/-
  msgp.AppendString. Conditions: a text of at most 1000 bytes; at most 2^40 bytes ahead.
-/
import Derived.Test.YtlnpiigdjjadiaaSetParts
import Derived.Lib.AppendStr
import Derived.Lib.BufferWrite
namespace Go.Proofs.Ytlnpiigdjjadiaa
set_option linter.unusedSimpArgs false
set_option linter.unusedVariables false
set_option linter.unusedVariables false
open Go.RowKit
theorem size5A : (Try.prog.info? 5).map (·.size) = some 1 := by kernel_rfl
theorem wpList_copy_str {ops : Array Oper} {rest : List Oper} {o : Oper} {a : Act} {w : World} {Q : Exit → Act → World → Prop} (hgd : o.guard = none) (d x : Operand) (dT sT : TypeId)
    (ho : o.op = .call { callee := .builtin .copy, args := #[d, x], argTypes := #[dT, sT] }) (hu : Try.prog.underlying dT = some (.slice 5)) (g off dLen dCap : Nat) (s : List UInt8) (dp : Option Addr)
    (hd : a.eval d = .slice dp dLen dCap) (hx : a.eval x = .string ⟨s.toArray⟩) (xs : List Value) (cap : Nat) (hrow : Row w 5 g cap xs) (hoff : xs.length = off) (hle : s.length ≤ dLen) (hdp : 0 < s.length → dp = some ⟨g, off, none⟩) (hfit : off + s.length ≤ cap)
    (h : ∀ w', Hid (Row w' 5 g cap (xs ++ s.map u8)) → Hid (w.grownBy w' (some g)) → wpList Try.prog ops Q rest (a.put o.dst (.int .i64 (s.length : Nat))) w') : wpList Try.prog ops Q (o :: rest) a w := by
  refine wpList_plain hgd fun K hK => ?_
  have hs : (⟨s.toArray⟩ : ByteArray).size = s.length := by simp [ByteArray.size]
  by_cases h0 : s.length = 0
  · have hrun := Lib.run_copy_empty_string (P := Try.prog) w dT sT o.type 5 dp dLen dCap ⟨s.toArray⟩ hu (by rw [size5A]; rfl) (by rw [hs]; exact h0)
    obtain rfl := List.eq_nil_of_length_eq_zero h0
    unfold Oper.wp
    simp [execOp, ho, resolve, invoke, builtin, hd, hx, hrun, Result.andThen]
    exact hK _ _ (h w (by simpa using hide hrow) (hide (World.grownBy.refl _ _)))
  · obtain rfl := hdp (by omega)
    obtain ⟨cur, hb, hcs, hxl, htk⟩ := hrow
    have hrun := Lib.run_copy_row_string (P := Try.prog) w dT sT o.type 5 g off dLen dCap ⟨s.toArray⟩ cur 5 hu size5A hb (by rw [hs]; exact hle) (by rw [hs]; omega)
    unfold Oper.wp
    simp [execOp, ho, resolve, invoke, builtin, hd, hx, hrun, Result.andThen]
    rw [hs]
    refine hK _ _ (h _ ⟨_, setRow_heap w g cur _ 5 _ hb, ?_, ?_, ?_⟩ ⟨rfl, rfl, rfl, by simp, fun i _ hne => setRow_other w g i _ (fun e => hne (by rw [e]))⟩)
    · simp [Lib.byteCells]
      omega
    · simp
      omega
    · have hb2 : Lib.byteCells (s.toArray.toList) = s.map u8 := by simp [Lib.byteCells, Go.Proofs.Ytlnpiigdjjadiaa.u8]
      subst hoff
      rw [htk]
      simp only [List.length_append, List.length_map]
      rw [show Lib.byteCells (⟨s.toArray⟩ : ByteArray).data.toList = s.map u8 from hb2]
      rw [List.take_append, List.take_of_length_le (by omega), Nat.add_sub_cancel_left, List.take_append_of_le_length (by simp)]
      simp
      exact List.take_of_length_le (by simp)
theorem at_copy {ops : Array Oper} {rest : List Oper} {o : Oper} {a : Act} {w : World} {Q : Exit → Act → World → Prop} (d x : Operand) (dT sT : TypeId) (_ho : o.op = .call { callee := .builtin .copy, args := #[d, x], argTypes := #[dT, sT] }) (h : wpList Try.prog ops Q (o :: rest) a w) : wpList Try.prog ops Q (o :: rest) a w := h
theorem wfixstr_a (u : Int) (w : World) (h0 : 0 ≤ u) (h1 : u ≤ 31) : Calls Try.prog 43 #[.int .u8 u] w fun e w' => e = .returned (.int .u8 (160 + u)) ∧ w = w' := by
  have hb : bits BinOp.and IntKind.u8 u 31 = u := by
    obtain ⟨n, rfl⟩ := Int.eq_ofNat_of_zero_le h0
    have : ∀ n : Nat, n < 32 → bits BinOp.and IntKind.u8 (n : Int) 31 = n := by decide +kernel
    exact this n (by omega)
  have hc : bits BinOp.or IntKind.u8 u 160 = 160 + u := by
    obtain ⟨n, rfl⟩ := Int.eq_ofNat_of_zero_le h0
    have : ∀ n : Nat, n < 32 → bits BinOp.or IntKind.u8 (n : Int) 160 = 160 + n := by decide +kernel
    exact this n (by omega)
  go_enter Try.func43, Try.ntmps43
  go_wp2
  go_ret
  exact ⟨rfl, rfl⟩
theorem cutA_from (g c n : Nat) (k : Nat) (h : 0 < k) (hf : n + k ≤ c) : cutA (some ⟨g, 0, none⟩) c n 1 = some ⟨g, n, none⟩ := cutA_at g c n (by omega)
/-- The head of a text of n bytes. -/
def strHead (n : Nat) : List UInt8 := if n ≤ 31 then [UInt8.ofNat (160 + n)] else if n ≤ 255 then 217 :: be (n : Int) 1 else 218 :: be (n : Int) 2
/-- A text's bytes. -/
def encT (s : List UInt8) : List UInt8 := strHead s.length ++ s
theorem encT_len (s : List UInt8) : (encT s).length ≤ 3 + s.length := by
  unfold encT strHead
  repeat' split
  all_goals simp [be]
  all_goals omega
set_option maxRecDepth 100000 in
set_option maxHeartbeats 1600000 in
theorem AppendString_1 (s : List UInt8) (h1 : 0 ≤ s.length) (h2 : s.length ≤ 31) (B : Nat) (A : Option Addr) (n cap : Nat) (xs : List Value) (w : World) (hown : w.ownsRow B 5 1 (.slice A n cap) n xs) (hone : ∀ u ∈ xs, u.oneCell' = true) (hB : B ≤ w.heap.size) (hlen : n ≤ 1099511627776) :
    Calls Try.prog 26 #[.slice A n cap, .string ⟨s.toArray⟩] w (Appd B n xs w (.slice A n cap) ([UInt8.ofNat (160 + s.length)] ++ s)) := by
  have hsz : (⟨s.toArray⟩ : ByteArray).size = s.length := by simp [ByteArray.size]
  have hb1 : 0 ≤ ((s.length : Nat) : Int) := by omega
  have hb2 : ((s.length : Nat) : Int) ≤ 31 := by omega
  have hbyte : Value.int .u8 (160 + ((s.length : Nat) : Int)) = u8 (UInt8.ofNat (160 + s.length)) := by
    unfold u8
    simp
    omega
  have HBYTE := hide hbyte
  have hw8 : IntKind.u8.wrap ((s.length : Nat) : Int) = s.length := by
    simp [IntKind.wrap, IntKind.bits, IntKind.signed]
    omega
  clear hbyte
  go_enter Try.func26, Try.ntmps26
  go_wp2_with (first
    | (go_at_call 39; go_loud (refine (ensure_any B A n cap (1 + s.length) _ xs _ (by simp) (by omega) hown hone hB (by omega)).mono ?_; rintro e w1 ⟨g, c', rfl, hgc, hcm, hBg, hxl, hrow, hbel, hat⟩; have HX := hide hxl; have HA := hide hat; have HBEL := hide hbel; have HROW := hide hrow; clear hxl hat hbel; unfold maxLen at hcm; obtain ⟨y0, hy0⟩ := hrow.cell (n := n) (by omega); have hf0 := hrow.frozen n; clear hrow))
    | (go_at_call 43; go_loud (refine (wfixstr_a (s.length : Nat) _ (by omega) (by omega)).mono ?_; rintro e w0 ⟨rfl, rfl⟩))
    | (refine at_copy (.tmp 83) (.tmp 84) 22 9 rfl ?_; go_loud (have HR2 : Hid (Row (w1.setCell ⟨g, n, none⟩ (.int .u8 (160 + ((s.length : Nat) : Int)))) 5 g c' (xs ++ [UInt8.ofNat (160 + s.length)].map u8)) := hide (by have hp := (unhide HROW).push (n := n) (by have := unhide HX; omega) (by omega) (.int .u8 (160 + ((s.length : Nat) : Int))); rw [unhide HBYTE] at hp ⊢; simpa using hp); refine wpList_copy_str rfl (.tmp 83) (.tmp 84) 22 9 rfl Try.underlying22 g (n + 1) (n + (1 + s.length) - (n + 1)) (c' - (n + 1)) s (cutA (some ⟨g, 0, none⟩) c' (n + 1) 1) ?x1 ?x2 (xs ++ ([UInt8.ofNat (160 + s.length)]).map u8) c' (unhide HR2) ?x3 (by omega) (fun h => cutA_from g c' (n + 1) s.length h (by omega)) (by omega) ?_; (case x1 => rfl); (case x2 => rfl); (case x3 => simp [unhide HX, be]); intro w3 HR3 HG3; go_frame)))
  go_ret
  have hr3 : Row w3 5 g c' (xs ++ (([UInt8.ofNat (160 + s.length)]) ++ s).map u8) := by
    have h := unhide HR3
    rwa [List.append_assoc, ← List.map_append] at h
  have hd := append_done (s := 1 + s.length) (unhide HX) (unhide HBEL) (unhide HA) hBg (by unfold maxLen; omega) hr3 (grown_trans' (grown_setCell (World.grownBy.refl w1 (some g)) _ _) (unhide HG3) (fun k hk => .inl hk)) (by simp [be]; omega)
  rw [← Nat.add_assoc] at hd
  exact hd
set_option maxRecDepth 100000 in
set_option maxHeartbeats 1600000 in
theorem AppendString_2 (s : List UInt8) (h1 : 32 ≤ s.length) (h2 : s.length ≤ 255) (B : Nat) (A : Option Addr) (n cap : Nat) (xs : List Value) (w : World) (hown : w.ownsRow B 5 1 (.slice A n cap) n xs) (hone : ∀ u ∈ xs, u.oneCell' = true) (hB : B ≤ w.heap.size) (hlen : n ≤ 1099511627776) :
    Calls Try.prog 26 #[.slice A n cap, .string ⟨s.toArray⟩] w (Appd B n xs w (.slice A n cap) (217 :: be (s.length : Int) 1 ++ s)) := by
  have hsz : (⟨s.toArray⟩ : ByteArray).size = s.length := by simp [ByteArray.size]
  have hb1 : 32 ≤ ((s.length : Nat) : Int) := by omega
  have hb2 : ((s.length : Nat) : Int) ≤ 255 := by omega
  have hwk : IntKind.u8.wrap ((s.length : Nat) : Int) = s.length := by
    simp [IntKind.wrap, IntKind.bits, IntKind.signed]
    omega
  go_enter Try.func26, Try.ntmps26
  go_wp2_with (first
    | (go_at_call 39; go_loud (refine (ensure_any B A n cap (2 + s.length) _ xs _ (by simp) (by omega) hown hone hB (by omega)).mono ?_; rintro e w1 ⟨g, c', rfl, hgc, hcm, hBg, hxl, hrow, hbel, hat⟩; have HX := hide hxl; have HA := hide hat; have HBEL := hide hbel; have HROW := hide hrow; clear hxl hat hbel; unfold maxLen at hcm; clear hrow; have hcut := cutA_at g c' n (by omega)))
    | (go_at_call 44; go_loud (refine (w_prefixu8 217 217 rfl g n c' (2 + s.length) _ ((s.length : Nat) : Int) (by omega) (by omega) xs _ (unhide HROW) (unhide HX) (by omega) (by omega) (by omega)).mono ?_; rintro e w2 ⟨rfl, hrow2, hg2, hz2⟩; have HR2 := hide hrow2; have HG2 := hide hg2; clear hrow2 hg2))
    | (refine at_copy (.tmp 83) (.tmp 84) 22 9 rfl ?_; go_loud (refine wpList_copy_str rfl (.tmp 83) (.tmp 84) 22 9 rfl Try.underlying22 g (n + 2) (n + (2 + s.length) - (n + 2)) (c' - (n + 2)) s (cutA (some ⟨g, 0, none⟩) c' (n + 2) 1) ?x1 ?x2 (xs ++ (217 :: be (s.length : Int) 1).map u8) c' (unhide HR2) ?x3 (by omega) (fun h => cutA_from g c' (n + 2) s.length h (by omega)) (by omega) ?_; (case x1 => rfl); (case x2 => rfl); (case x3 => simp [unhide HX, be]); intro w3 HR3 HG3; go_frame)))
  go_ret
  have hr3 : Row w3 5 g c' (xs ++ ((217 :: be (s.length : Int) 1) ++ s).map u8) := by
    have h := unhide HR3
    rwa [List.append_assoc, ← List.map_append] at h
  have hd := append_done (s := 2 + s.length) (unhide HX) (unhide HBEL) (unhide HA) hBg (by unfold maxLen; omega) hr3 (grown_trans' (unhide HG2) (unhide HG3) (fun k hk => .inl hk)) (by simp [be]; omega)
  rw [← Nat.add_assoc] at hd
  exact hd
set_option maxRecDepth 100000 in
set_option maxHeartbeats 1600000 in
theorem AppendString_3 (s : List UInt8) (h1 : 256 ≤ s.length) (h2 : s.length ≤ 1000) (B : Nat) (A : Option Addr) (n cap : Nat) (xs : List Value) (w : World) (hown : w.ownsRow B 5 1 (.slice A n cap) n xs) (hone : ∀ u ∈ xs, u.oneCell' = true) (hB : B ≤ w.heap.size) (hlen : n ≤ 1099511627776) :
    Calls Try.prog 26 #[.slice A n cap, .string ⟨s.toArray⟩] w (Appd B n xs w (.slice A n cap) (218 :: be (s.length : Int) 2 ++ s)) := by
  have hsz : (⟨s.toArray⟩ : ByteArray).size = s.length := by simp [ByteArray.size]
  have hb1 : 256 ≤ ((s.length : Nat) : Int) := by omega
  have hb2 : ((s.length : Nat) : Int) ≤ 1000 := by omega
  have hwk : IntKind.u16.wrap ((s.length : Nat) : Int) = s.length := by
    simp [IntKind.wrap, IntKind.bits, IntKind.signed]
    omega
  go_enter Try.func26, Try.ntmps26
  go_wp2_with (first
    | (go_at_call 39; go_loud (refine (ensure_any B A n cap (3 + s.length) _ xs _ (by simp) (by omega) hown hone hB (by omega)).mono ?_; rintro e w1 ⟨g, c', rfl, hgc, hcm, hBg, hxl, hrow, hbel, hat⟩; have HX := hide hxl; have HA := hide hat; have HBEL := hide hbel; have HROW := hide hrow; clear hxl hat hbel; unfold maxLen at hcm; clear hrow; have hcut := cutA_at g c' n (by omega)))
    | (go_at_call 40; go_loud (refine (w_prefixu16 218 218 rfl g n c' (3 + s.length) _ ((s.length : Nat) : Int) (by omega) (by omega) xs _ (unhide HROW) (unhide HX) (by omega) (by omega) (by omega)).mono ?_; rintro e w2 ⟨rfl, hrow2, hg2, hz2⟩; have HR2 := hide hrow2; have HG2 := hide hg2; clear hrow2 hg2))
    | (refine at_copy (.tmp 83) (.tmp 84) 22 9 rfl ?_; go_loud (refine wpList_copy_str rfl (.tmp 83) (.tmp 84) 22 9 rfl Try.underlying22 g (n + 3) (n + (3 + s.length) - (n + 3)) (c' - (n + 3)) s (cutA (some ⟨g, 0, none⟩) c' (n + 3) 1) ?x1 ?x2 (xs ++ (218 :: be (s.length : Int) 2).map u8) c' (unhide HR2) ?x3 (by omega) (fun h => cutA_from g c' (n + 3) s.length h (by omega)) (by omega) ?_; (case x1 => rfl); (case x2 => rfl); (case x3 => simp [unhide HX, be]); intro w3 HR3 HG3; go_frame)))
  go_ret
  have hr3 : Row w3 5 g c' (xs ++ ((218 :: be (s.length : Int) 2) ++ s).map u8) := by
    have h := unhide HR3
    rwa [List.append_assoc, ← List.map_append] at h
  have hd := append_done (s := 3 + s.length) (unhide HX) (unhide HBEL) (unhide HA) hBg (by unfold maxLen; omega) hr3 (grown_trans' (unhide HG2) (unhide HG3) (fun k hk => .inl hk)) (by simp [be]; omega)
  rw [← Nat.add_assoc] at hd
  exact hd
theorem AppendString_any (s : List UInt8) (h2 : s.length ≤ 1000) (B : Nat) (A : Option Addr) (n cap : Nat) (xs : List Value) (w : World) (hown : w.ownsRow B 5 1 (.slice A n cap) n xs) (hone : ∀ u ∈ xs, u.oneCell' = true) (hB : B ≤ w.heap.size) (hlen : n ≤ 1099511627776) :
    Calls Try.prog 26 #[.slice A n cap, .string ⟨s.toArray⟩] w (Appd B n xs w (.slice A n cap) (encT s)) := by
  unfold encT strHead
  split
  · exact AppendString_1 s (by omega) (by omega) B A n cap xs w hown hone hB hlen
  · split
    · exact AppendString_2 s (by omega) (by omega) B A n cap xs w hown hone hB hlen
    · exact AppendString_3 s (by omega) (by omega) B A n cap xs w hown hone hB hlen
end Go.Proofs.Ytlnpiigdjjadiaa
