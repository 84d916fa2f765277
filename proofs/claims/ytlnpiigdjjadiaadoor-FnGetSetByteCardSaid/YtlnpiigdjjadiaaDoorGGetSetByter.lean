/-
  Lemmas, 5 texts in one: Wr, SetGot, Enough, PutPack1, PutPack2. Each says its conditions.
-/
import Derived.Test.YtlnpiigdjjadiaaDoorGGetSetByten
import Derived.Test.YtlnpiigdjjadiaaDoorGGetSetBytee
import Derived.Test.YtlnpiigdjjadiaaDoorGGetSetByteq
import Derived.Test.YtlnpiigdjjadiaaDoorGGetSetByteh
import Derived.BigGuardPart
import Derived.Test.YtlnpiigdjjadiaaDoorGGetSetByteg

/-
  Which bytes are a value of MessagePack, in one of its forms (what spec.PutPack writes). Plain but for the names.
-/
namespace Go.Proofs.YtlnpiigdjjadiaaDoor
set_option linter.unusedSimpArgs false
set_option linter.unusedVariables false
open Go.RowKit
mutual
def WrP : Pack → List UInt8 → Prop
  | .mk k n t e ks, bs =>
    (k = 0 ∧ bs = [UInt8.ofNat 192]) ∨ (k = 1 ∧ bs = [UInt8.ofNat (194 + n)]) ∨ (k = 2 ∧ 9223372036854775808 ≤ n ∧ negF n bs) ∨ (((k = 2 ∧ n < 9223372036854775808) ∨ k = 3) ∧ posF n bs) ∨
    (k = 4 ∧ bs = UInt8.ofNat 202 :: beL n 4) ∨ (k = 5 ∧ bs = UInt8.ofNat 203 :: beL n 8) ∨
    (k = 6 ∧ ∃ h, HeadIs 6 t.length h ∧ bs = h ++ t) ∨ (k = 7 ∧ ∃ h, HeadIs 7 t.length h ∧ bs = h ++ t) ∨ (k = 10 ∧ ∃ h, extF t.length (UInt8.ofNat (e % 256).toNat) h ∧ bs = h ++ t) ∨
    (k = 8 ∧ ∃ h r, HeadIs 8 ks.length h ∧ WrPs ks r ∧ bs = h ++ r) ∨ (k = 9 ∧ ∃ h r, HeadIs 9 (ks.length / 2) h ∧ WrPs ks r ∧ bs = h ++ r)
def WrPs : List Pack → List UInt8 → Prop
  | [], bs => bs = []
  | p :: ps, bs => ∃ a b, WrP p a ∧ WrPs ps b ∧ bs = a ++ b
end
theorem WrPs_snoc : ∀ (ps : List Pack) (p : Pack) (a b : List UInt8), WrPs ps a → WrP p b → WrPs (ps ++ [p]) (a ++ b)
  | [], p, a, b, ha, hb => by
    unfold WrPs at ha
    subst ha
    simp only [List.nil_append]
    unfold WrPs
    exact ⟨b, [], hb, by unfold WrPs; rfl, by simp⟩
  | q :: ps, p, a, b, ha, hb => by
    unfold WrPs at ha
    obtain ⟨x, y, hx, hy, rfl⟩ := ha
    simp only [List.cons_append]
    unfold WrPs
    exact ⟨x, y ++ b, hx, WrPs_snoc ps p y b hy hb, by simp⟩
theorem HeadOK_len {fixed : Int} {under n : Nat} {fs : List (Nat × Nat)} {h : List UInt8} (hh : HeadOK fixed under n fs h) : 1 ≤ h.length ∧ h.length ≤ 9 := by
  rcases hh with ⟨_, _, rfl⟩ | ⟨f, _, hg, _, rfl⟩
  · simp
  · rw [List.length_cons, beL_len _ _ hg.1]
    have := hg.1
    omega
theorem HeadIs_len {k n : Nat} {h : List UInt8} (hh : HeadIs k n h) : 1 ≤ h.length ∧ h.length ≤ 9 := by
  rcases hh with ⟨_, h⟩ | ⟨_, h⟩ | ⟨_, h⟩ | ⟨_, h⟩ <;> exact HeadOK_len h
theorem negF_len {u : Nat} {h : List UInt8} (hh : negF u h) : 1 ≤ h.length ∧ h.length ≤ 9 := by
  unfold negF at hh
  rcases hh with ⟨_, rfl⟩ | ⟨_, rfl⟩ | ⟨_, rfl⟩ | ⟨_, rfl⟩ | rfl <;> simp [beL]
theorem posF_len {u : Nat} {h : List UInt8} (hh : posF u h) : 1 ≤ h.length ∧ h.length ≤ 9 := by
  unfold posF at hh
  rcases hh with ⟨_, rfl⟩ | ⟨_, rfl⟩ | ⟨_, rfl⟩ | ⟨_, rfl⟩ | rfl | ⟨_, rfl⟩ | ⟨_, rfl⟩ | ⟨_, rfl⟩ | ⟨_, rfl⟩ <;> simp [beL]
theorem extF_len {u : Nat} {b : UInt8} {h : List UInt8} (hh : extF u b h) : 1 ≤ h.length ∧ h.length ≤ 9 := by
  unfold extF at hh
  rcases hh with ⟨_, rfl⟩ | ⟨_, rfl⟩ | ⟨_, rfl⟩ | ⟨_, rfl⟩ | ⟨_, rfl⟩ | ⟨_, rfl⟩ | ⟨_, rfl⟩ | ⟨_, rfl⟩ <;> simp [beL]
mutual
theorem WrP_len : ∀ (p : Pack) (bs : List UInt8), WrP p bs → FitsP p → 1 ≤ bs.length ∧ bs.length ≤ 200000 * cnt p
  | .mk k n t e ks, bs, h, hf => by
    unfold FitsP FitHd at hf
    unfold WrP at h
    unfold cnt
    have ht : t.length ≤ 131072 := hf.1.2.2.2.2.2.2.2.2.2.2.2.2
    have hk := WrPs_len ks
    rcases h with ⟨_, rfl⟩ | ⟨_, rfl⟩ | ⟨_, _, h⟩ | ⟨_, h⟩ | ⟨_, rfl⟩ | ⟨_, rfl⟩ | ⟨_, h, hh, rfl⟩ | ⟨_, h, hh, rfl⟩ | ⟨_, h, hh, rfl⟩ | ⟨_, h, r, hh, hr, rfl⟩ | ⟨_, h, r, hh, hr, rfl⟩
    · simp; omega
    · simp; omega
    · have := negF_len h; omega
    · have := posF_len h; omega
    · simp [beL]; omega
    · simp [beL]; omega
    · have := HeadIs_len hh; simp; omega
    · have := HeadIs_len hh; simp; omega
    · have := extF_len hh; simp; omega
    · have := HeadIs_len hh; have := hk r hr hf.2; simp; omega
    · have := HeadIs_len hh; have := hk r hr hf.2; simp; omega
theorem WrPs_len : ∀ (ps : List Pack) (bs : List UInt8), WrPs ps bs → FitsPs ps → bs.length ≤ 200000 * cnts ps
  | [], bs, h, _ => by
    unfold WrPs at h
    subst h
    simp
  | p :: ps, bs, h, hf => by
    unfold WrPs at h
    unfold FitsPs at hf
    obtain ⟨a, b, ha, hb, rfl⟩ := h
    have h1 := WrP_len p a ha hf.1
    have h2 := WrPs_len ps b hb hf.2
    unfold cnts
    simp
    omega
end
theorem FitsPs_take : ∀ (ps : List Pack) (k : Nat), FitsPs ps → FitsPs (ps.take k)
  | [], k, h => by simp; exact h
  | p :: ps, 0, h => by simp; trivial
  | p :: ps, k + 1, h => by
    unfold FitsPs at h
    simp only [List.take_succ_cons]
    unfold FitsPs
    exact ⟨h.1, FitsPs_take ps k h.2⟩
/-- putHead of texts, bytes, arrays and maps, whatever the length. -/
theorem or_lt16 (f : Int) : True := trivial
theorem mayF_ne {n : Nat} {fs : List (Nat × Nat)} {c : Nat} (hn : n < 4294967296) (h : (c, 4) ∈ fs) : 0 < (mayF n fs).length := by
  refine List.length_pos_of_mem (a := (c, 4)) ?_
  unfold mayF
  rw [List.mem_filter]
  refine ⟨h, ?_⟩
  simp [fitsF]
  omega
theorem goodF_all {fs : List (Nat × Nat)} (h : (fs.all fun f => (f.2 == 1 || f.2 == 2 || f.2 == 4 || f.2 == 8) && decide (f.1 < 256)) = true) : ∀ f ∈ fs, goodF f := by
  intro f hf
  have := List.all_eq_true.1 h f hf
  simp only [Bool.and_eq_true, Bool.or_eq_true, beq_iff_eq, decide_eq_true_eq] at this
  unfold goodF
  exact ⟨by omega, this.2⟩
theorem putHead_6b (g n : Nat) (w : World) (A : Option Addr) (S : Nat → Prop) (hF : FormsAt w g) (hn : n < 4294967296) (hr : Reads w S 2 A 3 (formC [(217, 1), (218, 2), (219, 4)])) (hS : Old w S) :
    Calls Tryd.prog 30 #[.pointer (some ⟨g, 0, none⟩), .int .i64 n, .int .i64 160, .int .i64 32, .slice A 3 3] w (PutH (HeadIs 6 n) g w) := by
  have h : Calls Tryd.prog 30 #[.pointer (some ⟨g, 0, none⟩), .int .i64 n, .int .i64 160, .int .i64 32, .slice A 3 3] w (PutH (HeadOK 160 32 n [(217, 1), (218, 2), (219, 4)]) g w) := by
    by_cases hnu : n < 32
    · exact putHead_fixed g n 32 160 _ A 3 3 S w hF (by omega) (by omega) hnu (by omega) (or160 n hnu) (by omega) rfl hr hS (goodF_all rfl) (by omega)
    · exact putHead_coded g n 32 160 _ A 3 3 S w hF (by omega) (.inr ⟨by omega, by omega⟩) (by omega) rfl hr hS (goodF_all rfl) (by omega) (mayF_ne (c := 219) hn (by simp))
  exact h.mono fun e w' hp => PutH.more hp (Below.refl _ _) fun bs hb => .inr (.inr (.inr ⟨rfl, hb⟩))
theorem putHead_7b (g n : Nat) (w : World) (A : Option Addr) (S : Nat → Prop) (hF : FormsAt w g) (hn : n < 4294967296) (hr : Reads w S 2 A 3 (formC [(196, 1), (197, 2), (198, 4)])) (hS : Old w S) :
    Calls Tryd.prog 30 #[.pointer (some ⟨g, 0, none⟩), .int .i64 n, .int .i64 (-1), .int .i64 0, .slice A 3 3] w (PutH (HeadIs 7 n) g w) := by
  have h : Calls Tryd.prog 30 #[.pointer (some ⟨g, 0, none⟩), .int .i64 n, .int .i64 (-1), .int .i64 0, .slice A 3 3] w (PutH (HeadOK (-1) 0 n [(196, 1), (197, 2), (198, 4)]) g w) :=
    putHead_coded g n 0 (-1) _ A 3 3 S w hF (by omega) (.inl (by omega)) (by omega) rfl hr hS (goodF_all rfl) (by omega) (mayF_ne (c := 198) hn (by simp))
  exact h.mono fun e w' hp => PutH.more hp (Below.refl _ _) fun bs hb => .inr (.inr (.inl ⟨rfl, hb⟩))
theorem putHead_8b (g n : Nat) (w : World) (A : Option Addr) (S : Nat → Prop) (hF : FormsAt w g) (hn : n < 4294967296) (hr : Reads w S 2 A 2 (formC [(220, 2), (221, 4)])) (hS : Old w S) :
    Calls Tryd.prog 30 #[.pointer (some ⟨g, 0, none⟩), .int .i64 n, .int .i64 144, .int .i64 16, .slice A 2 2] w (PutH (HeadIs 8 n) g w) := by
  have h : Calls Tryd.prog 30 #[.pointer (some ⟨g, 0, none⟩), .int .i64 n, .int .i64 144, .int .i64 16, .slice A 2 2] w (PutH (HeadOK 144 16 n [(220, 2), (221, 4)]) g w) := by
    by_cases hnu : n < 16
    · exact putHead_fixed g n 16 144 _ A 2 2 S w hF (by omega) (by omega) hnu (by omega) (or144 n hnu) (by omega) rfl hr hS (goodF_all rfl) (by omega)
    · exact putHead_coded g n 16 144 _ A 2 2 S w hF (by omega) (.inr ⟨by omega, by omega⟩) (by omega) rfl hr hS (goodF_all rfl) (by omega) (mayF_ne (c := 221) hn (by simp))
  exact h.mono fun e w' hp => PutH.more hp (Below.refl _ _) fun bs hb => .inl ⟨rfl, hb⟩
theorem putHead_9b (g n : Nat) (w : World) (A : Option Addr) (S : Nat → Prop) (hF : FormsAt w g) (hn : n < 4294967296) (hr : Reads w S 2 A 2 (formC [(222, 2), (223, 4)])) (hS : Old w S) :
    Calls Tryd.prog 30 #[.pointer (some ⟨g, 0, none⟩), .int .i64 n, .int .i64 128, .int .i64 16, .slice A 2 2] w (PutH (HeadIs 9 n) g w) := by
  have h : Calls Tryd.prog 30 #[.pointer (some ⟨g, 0, none⟩), .int .i64 n, .int .i64 128, .int .i64 16, .slice A 2 2] w (PutH (HeadOK 128 16 n [(222, 2), (223, 4)]) g w) := by
    by_cases hnu : n < 16
    · exact putHead_fixed g n 16 128 _ A 2 2 S w hF (by omega) (by omega) hnu (by omega) (or128 n hnu) (by omega) rfl hr hS (goodF_all rfl) (by omega)
    · exact putHead_coded g n 16 128 _ A 2 2 S w hF (by omega) (.inr ⟨by omega, by omega⟩) (by omega) rfl hr hS (goodF_all rfl) (by omega) (mayF_ne (c := 223) hn (by simp))
  exact h.mono fun e w' hp => PutH.more hp (Below.refl _ _) fun bs hb => .inr (.inl ⟨rfl, hb⟩)
end Go.Proofs.YtlnpiigdjjadiaaDoor

/-
  What the sets' readers call, and what stands behind the first values of an array. No condition.
-/
namespace Go.Proofs.YtlnpiigdjjadiaaDoor
set_option linter.unusedSimpArgs false
set_option linter.unusedVariables false
set_option linter.unusedVariables false
open Go.RowKit
theorem isNil_no (S : Nat → Prop) (A : Option Addr) (bs : List UInt8) (n c : Nat) (w : World) (hn : n = bs.length) (hr : RB w S A bs) (hc : n ≤ c) (hb0 : ∃ b r, bs = b :: r ∧ b.toNat ≠ 192) :
    Calls Tryd.prog 39 #[.slice A n c] w fun e w' => e = .returned (.bool false) ∧ w = w' := by
  obtain ⟨b, r, rfl, hb⟩ := hb0
  subst hn
  obtain ⟨ad, rfl, hSb, hcell⟩ := hr.at_ (k := 0) (by simp)
  simp only [List.getElem_cons_zero] at hcell
  unfold u8 at hcell
  rw [add_zero_] at hcell
  have hbi : ¬ ((b.toNat : Int) = 192) := by omega
  generalize b.toNat = q at *
  have h0 : (0 : Int) < ((r.length + 1 : Nat) : Int) := by omega
  have hl : ¬ ((r.length : Int) + 1 = 0) := by omega
  have hl2 : (0 : Int) < (r.length : Int) + 1 := by omega
  clear hr
  go_enter Tryd.func39, Tryd.ntmps39
  go_wp2
  go_ret
  exact ⟨rfl, rfl⟩
theorem grown_setCellS (w : World) (p : Addr) (v : Value) : w.grownBy (w.setCell p v) (some p.block) :=
  ⟨rfl, rfl, rfl, by simp [World.setCell], fun k _ hne => Below.heap_setCell w p v k (fun e => hne (by rw [e]))⟩
/-- What stands behind the first k values of an array, k by k. -/
theorem rest_of (V : List UInt8 → Option (Value × List UInt8)) (pk : Int → Pack) (mk : Int → Value) (zb : List UInt8) : ∀ (xs : List Int) (r : List UInt8), WrPs (xs.map pk) r → (∀ x ∈ xs, ∀ a zs, WrP (pk x) a → V (a ++ zs) = some (mk x, zs) ∧ 1 ≤ a.length) →
    ∃ f : Nat → List UInt8, f 0 = r ++ zb ∧ f xs.length = zb ∧ xs.length ≤ (r ++ zb).length ∧ (∀ k, (f k).length ≤ (r ++ zb).length) ∧ ∀ k (h : k < xs.length), V (f k) = some (mk xs[k], f (k + 1))
  | [], r, h, _ => by
    unfold WrPs at h
    subst h
    exact ⟨fun _ => zb, rfl, rfl, by simp, fun k => by simp, fun k h => by simp at h⟩
  | x :: xs, r, h, hV => by
    rw [List.map_cons] at h
    unfold WrPs at h
    obtain ⟨a, b, ha, hb, rfl⟩ := h
    obtain ⟨f, h0, h1, h2, h3, h4⟩ := rest_of V pk mk zb xs b hb (fun y hy => hV y (by simp [hy]))
    obtain ⟨hv, ha1⟩ := hV x (by simp) a (b ++ zb) ha
    refine ⟨fun | 0 => a ++ b ++ zb | k + 1 => f k, rfl, h1, by simp at h2 ⊢; omega, fun k => ?_, fun k hk => ?_⟩
    · rcases k with _ | k
      · exact Nat.le_refl _
      · have := h3 k
        simp at this ⊢
        omega
    · rcases k with _ | k
      · show V (a ++ b ++ zb) = some (mk x, f 0)
        rw [List.append_assoc, h0]
        exact hv
      · exact h4 k (by simpa using hk)
end Go.Proofs.YtlnpiigdjjadiaaDoor

/-
  impl.enough of an array's bytes: there are no fewer bytes behind its head than values. Conditions: msgp.ErrShortBytes is not nil.
-/
namespace Go.Proofs.YtlnpiigdjjadiaaDoor
set_option linter.unusedSimpArgs false
set_option linter.unusedVariables false
set_option linter.unusedVariables false
open Go.RowKit
set_option maxRecDepth 100000 in
theorem enough_yes (S : Nat → Prop) (A : Option Addr) (bs : List UInt8) (n c m : Nat) (r0 : List UInt8) (w : World) (hE : ErrAt w) (hn : n = bs.length) (hr : RB w S A bs) (hc : n ≤ c) (hcm : c ≤ maxLen) (hS : Old w S) (hlen : bs.length ≤ 1000000000)
    (hb0 : ∃ b r, bs = b :: r ∧ b.toNat ≠ 192) (hA : arrH bs = some (m, r0)) (hm2 : m ≤ 1000) (hm3 : m ≤ r0.length) :
    Calls Tryd.prog 24 #[.slice A n c] w fun e w' => e = .returned (.bool true) ∧ Below w.heap.size w w' := by
  have hcm9 : c ≤ 9223372036854775807 := by unfold maxLen at hcm; omega
  have HNIL := hide (isNil_no S A bs n c w hn hr hc hb0)
  have HRA := hide (readArr_any S A bs n c w hE hn hr hc hcm9 hS)
  rw [hA] at HRA
  have hw : IntKind.i64.wrap (m : Int) = m := by rw [IntKind.wrap_i64]; omega
  have HM3 := hide hm3
  clear hn hr hb0 hA hE hm3
  go_enter Tryd.func24, Tryd.ntmps24
  go_wp2_with (first
    | (go_at_call 39; go_loud (refine (unhide HNIL).mono ?_; rintro e w1 ⟨rfl, rfl⟩))
    | (go_at_call 40; go_loud (refine (unhide HRA).mono ?_; rintro e w2 ⟨hb2, A2, n2, c2, rfl, hn2, hc2, hm2', hr2⟩; have hle : (m : Int) ≤ (n2 : Int) := (by have := unhide HM3; omega); clear hr2 hn2)))
  go_ret
  exact ⟨rfl, hb2⟩
end Go.Proofs.YtlnpiigdjjadiaaDoor

/-
  spec.PutPack: a value of MessagePack, written in one of its forms (WrP). Conditions: it reads as a value in memory, fits, and is at most 2000 values.
-/
namespace Go.Proofs.YtlnpiigdjjadiaaDoor
set_option linter.unusedSimpArgs false
set_option linter.unusedVariables false
set_option linter.unusedVariables false
open Go.RowKit
theorem bytes_own {P : List UInt8 → Prop} {w0 w : World} {g b n : Nat} {cs : Array Value} (bs : List UInt8) (hP : P bs) (hc : cs.toList = bs.map u8) (hn : n = bs.length) (hb : w.heap.size = b) (hg : w0.grownBy w (some g)) (hF : FormsAt w g) (hn2 : n ≤ maxLen) :
    PutH P g w0 (.returned (.slice (some ⟨b, 0, none⟩) n n)) (w.alloc (.cells cs 5)) := by
  subst hb
  refine ⟨_, bs, hP, rfl, ?_, grown_trans' hg (World.grownBy_alloc _ _ none) (fun _ h => by cases h), hF.below ((Below.refl _ _).alloc (Nat.le_refl _) _) hF.lt⟩
  have hs : cs.size = n * 1 := by have := congrArg List.length hc; simp at this; omega
  rw [← hn, ← hc]
  exact World.ownsRow_lit w cs n hg.size hn2 hs
set_option maxRecDepth 100000 in
set_option maxHeartbeats 1600000 in
theorem putPack_0 (k0 : Int) (g n m kc : Nat) (t : List UInt8) (e : Int) (ps : List Pack) (K : Option Addr) (w : World) (hF : FormsAt w g) :
    Calls Tryd.prog 9 #[.agg #[.int .i64 0, .int .u64 n, .string ⟨t.toArray⟩, .int .i64 e, .slice K m kc], .pointer (some ⟨g, 0, none⟩)] w (PutH (WrP (.mk 0 n t e ps)) g w) := by
  have HF := hide hF
  have hgl := hF.lt
  clear hF
  obtain ⟨T, hT⟩ : ∃ T, T = PutH (WrP (.mk 0 n t e ps)) g w := ⟨_, rfl⟩
  rw [← hT]
  have HT := hide hT
  clear hT
  go_enter Tryd.func9, Tryd.ntmps9
  go_wp2
  rw [unhide HT]
  refine bytes_own (n := 1) [UInt8.ofNat 192] ?_ ?_ rfl ?_ (World.grownBy_alloc _ _ _) ((unhide HF).below ((Below.refl _ _).alloc (Nat.le_refl _) _) hgl) (by unfold maxLen; omega)
  · unfold WrP
    exact .inl ⟨rfl, rfl⟩
  · rfl
  · simp
set_option maxRecDepth 100000 in
set_option maxHeartbeats 1600000 in
theorem putPack_1 (k0 : Int) (g n m kc : Nat) (t : List UInt8) (e : Int) (ps : List Pack) (K : Option Addr) (w : World) (hF : FormsAt w g) (hn : n ≤ 1) :
    Calls Tryd.prog 9 #[.agg #[.int .i64 1, .int .u64 n, .string ⟨t.toArray⟩, .int .i64 e, .slice K m kc], .pointer (some ⟨g, 0, none⟩)] w (PutH (WrP (.mk 1 n t e ps)) g w) := by
  have HF := hide hF
  have hgl := hF.lt
  clear hF
  obtain ⟨T, hT⟩ : ∃ T, T = PutH (WrP (.mk 1 n t e ps)) g w := ⟨_, rfl⟩
  rw [← hT]
  have HT := hide hT
  clear hT
  have hn2 : (n : Int) ≤ 1 := by omega
  go_enter Tryd.func9, Tryd.ntmps9
  go_wp2
  rw [unhide HT]
  refine bytes_own (n := 1) [UInt8.ofNat (194 + n)] ?_ ?_ rfl ?_ (World.grownBy_alloc _ _ _) ((unhide HF).below ((Below.refl _ _).alloc (Nat.le_refl _) _) hgl) (by unfold maxLen; omega)
  · unfold WrP
    exact .inr (.inl ⟨rfl, rfl⟩)
  · simp [u8]
    omega
  · simp
set_option maxRecDepth 100000 in
set_option maxHeartbeats 1600000 in
theorem putPack_2n (k0 : Int) (g n m kc : Nat) (t : List UInt8) (e : Int) (ps : List Pack) (K : Option Addr) (w : World) (hF : FormsAt w g) (h1 : 9223372036854775808 ≤ n) (h2 : n < 18446744073709551616) :
    Calls Tryd.prog 9 #[.agg #[.int .i64 2, .int .u64 n, .string ⟨t.toArray⟩, .int .i64 e, .slice K m kc], .pointer (some ⟨g, 0, none⟩)] w (PutH (WrP (.mk 2 n t e ps)) g w) := by
  have HF := hide hF
  have hgl := hF.lt
  clear hF
  obtain ⟨T, hT⟩ : ∃ T, T = PutH (WrP (.mk 2 n t e ps)) g w := ⟨_, rfl⟩
  rw [← hT]
  have HT := hide hT
  clear hT
  go_enter Tryd.func9, Tryd.ntmps9
  go_wp2_with fail
  refine (putInt_neg g n _ ((unhide HF).below ((Below.refl _ _).alloc (Nat.le_refl _) _) hgl) h1 h2).mono ?_
  intro e0 w2 h2'
  obtain ⟨v, bs, h3⟩ := h2'
  have hfin : PutH (WrP (.mk 2 n t e ps)) g w e0 w2 := PutH.more ⟨v, bs, h3⟩ ((Below.refl w.heap.size w).alloc (Nat.le_refl _) _) (fun bs hb => by unfold WrP; exact .inr (.inr (.inl ⟨rfl, h1, hb⟩)))
  obtain ⟨_, rfl, _⟩ := h3
  have HFIN := hide hfin
  clear hfin
  go_wp2
  rw [unhide HT]
  exact unhide HFIN
set_option maxRecDepth 100000 in
set_option maxHeartbeats 1600000 in
theorem putPack_2p (k0 : Int) (g n m kc : Nat) (t : List UInt8) (e : Int) (ps : List Pack) (K : Option Addr) (w : World) (hF : FormsAt w g) (h1 : n < 9223372036854775808) :
    Calls Tryd.prog 9 #[.agg #[.int .i64 2, .int .u64 n, .string ⟨t.toArray⟩, .int .i64 e, .slice K m kc], .pointer (some ⟨g, 0, none⟩)] w (PutH (WrP (.mk 2 n t e ps)) g w) := by
  have HF := hide hF
  have hgl := hF.lt
  clear hF
  obtain ⟨T, hT⟩ : ∃ T, T = PutH (WrP (.mk 2 n t e ps)) g w := ⟨_, rfl⟩
  rw [← hT]
  have HT := hide hT
  clear hT
  go_enter Tryd.func9, Tryd.ntmps9
  go_wp2_with fail
  refine (putInt_pos g n true _ ((unhide HF).below ((Below.refl _ _).alloc (Nat.le_refl _) _) hgl) (.inr h1) (by omega)).mono ?_
  intro e0 w2 h2'
  obtain ⟨v, bs, h3⟩ := h2'
  have hfin : PutH (WrP (.mk 2 n t e ps)) g w e0 w2 := PutH.more ⟨v, bs, h3⟩ ((Below.refl w.heap.size w).alloc (Nat.le_refl _) _) (fun bs hb => by unfold WrP; exact .inr (.inr (.inr (.inl ⟨.inl ⟨rfl, h1⟩, hb⟩))))
  obtain ⟨_, rfl, _⟩ := h3
  have HFIN := hide hfin
  clear hfin
  go_wp2
  rw [unhide HT]
  exact unhide HFIN
set_option maxRecDepth 100000 in
set_option maxHeartbeats 1600000 in
theorem putPack_3 (k0 : Int) (g n m kc : Nat) (t : List UInt8) (e : Int) (ps : List Pack) (K : Option Addr) (w : World) (hF : FormsAt w g) (h2 : n < 18446744073709551616) :
    Calls Tryd.prog 9 #[.agg #[.int .i64 3, .int .u64 n, .string ⟨t.toArray⟩, .int .i64 e, .slice K m kc], .pointer (some ⟨g, 0, none⟩)] w (PutH (WrP (.mk 3 n t e ps)) g w) := by
  have HF := hide hF
  have hgl := hF.lt
  clear hF
  obtain ⟨T, hT⟩ : ∃ T, T = PutH (WrP (.mk 3 n t e ps)) g w := ⟨_, rfl⟩
  rw [← hT]
  have HT := hide hT
  clear hT
  go_enter Tryd.func9, Tryd.ntmps9
  go_wp2_with fail
  refine (putInt_pos g n false _ ((unhide HF).below ((Below.refl _ _).alloc (Nat.le_refl _) _) hgl) (.inl rfl) h2).mono ?_
  intro e0 w2 h2'
  obtain ⟨v, bs, h3⟩ := h2'
  have hfin : PutH (WrP (.mk 3 n t e ps)) g w e0 w2 := PutH.more ⟨v, bs, h3⟩ ((Below.refl w.heap.size w).alloc (Nat.le_refl _) _) (fun bs hb => by unfold WrP; exact .inr (.inr (.inr (.inl ⟨.inr rfl, hb⟩))))
  obtain ⟨_, rfl, _⟩ := h3
  have HFIN := hide hfin
  clear hfin
  go_wp2
  rw [unhide HT]
  exact unhide HFIN
set_option maxRecDepth 100000 in
set_option maxHeartbeats 1600000 in
theorem putPack_4 (k0 : Int) (g n m kc : Nat) (t : List UInt8) (e : Int) (ps : List Pack) (K : Option Addr) (w : World) (hF : FormsAt w g) (h2 : n < 4294967296) :
    Calls Tryd.prog 9 #[.agg #[.int .i64 4, .int .u64 n, .string ⟨t.toArray⟩, .int .i64 e, .slice K m kc], .pointer (some ⟨g, 0, none⟩)] w (PutH (WrP (.mk 4 n t e ps)) g w) := by
  have HF := hide hF
  have hgl := hF.lt
  clear hF
  obtain ⟨T, hT⟩ : ∃ T, T = PutH (WrP (.mk 4 n t e ps)) g w := ⟨_, rfl⟩
  rw [← hT]
  have HT := hide hT
  clear hT
  go_enter Tryd.func9, Tryd.ntmps9
  go_wp2_with fail
  refine (headed_any 202 4 n (by omega) (by omega) (by omega) _).mono ?_
  rintro e0 w2 ⟨v, rfl, hown, hbel⟩
  have hfin : PutH (WrP (.mk 4 n t e ps)) g w (.returned v) w2 := headed_put (World.grownBy_alloc _ _ _) hgl ((unhide HF).below ((Below.refl _ _).alloc (Nat.le_refl _) _) hgl) (by omega) (by omega) hown hbel (by unfold WrP; exact .inr (.inr (.inr (.inr (.inl ⟨rfl, rfl⟩)))))
  have HFIN := hide hfin
  clear hfin hown hbel
  go_wp2
  rw [unhide HT]
  exact unhide HFIN
set_option maxRecDepth 100000 in
set_option maxHeartbeats 1600000 in
theorem putPack_5 (k0 : Int) (g n m kc : Nat) (t : List UInt8) (e : Int) (ps : List Pack) (K : Option Addr) (w : World) (hF : FormsAt w g) (h2 : n < 18446744073709551616) :
    Calls Tryd.prog 9 #[.agg #[.int .i64 5, .int .u64 n, .string ⟨t.toArray⟩, .int .i64 e, .slice K m kc], .pointer (some ⟨g, 0, none⟩)] w (PutH (WrP (.mk 5 n t e ps)) g w) := by
  have HF := hide hF
  have hgl := hF.lt
  clear hF
  obtain ⟨T, hT⟩ : ∃ T, T = PutH (WrP (.mk 5 n t e ps)) g w := ⟨_, rfl⟩
  rw [← hT]
  have HT := hide hT
  clear hT
  go_enter Tryd.func9, Tryd.ntmps9
  go_wp2_with fail
  refine (headed_any 203 8 n (by omega) (by omega) (by omega) _).mono ?_
  rintro e0 w2 ⟨v, rfl, hown, hbel⟩
  have hfin : PutH (WrP (.mk 5 n t e ps)) g w (.returned v) w2 := headed_put (World.grownBy_alloc _ _ _) hgl ((unhide HF).below ((Below.refl _ _).alloc (Nat.le_refl _) _) hgl) (by omega) (by omega) hown hbel (by unfold WrP; exact .inr (.inr (.inr (.inr (.inr (.inl ⟨rfl, rfl⟩))))))
  have HFIN := hide hfin
  clear hfin hown hbel
  go_wp2
  rw [unhide HT]
  exact unhide HFIN
set_option maxRecDepth 100000 in
set_option maxHeartbeats 1600000 in
theorem putPack_6 (k0 : Int) (g n m kc : Nat) (t : List UInt8) (e : Int) (ps : List Pack) (K : Option Addr) (w : World) (hF : FormsAt w g) (htl : t.length ≤ 131072) :
    Calls Tryd.prog 9 #[.agg #[.int .i64 6, .int .u64 n, .string ⟨t.toArray⟩, .int .i64 e, .slice K m kc], .pointer (some ⟨g, 0, none⟩)] w (PutH (WrP (.mk 6 n t e ps)) g w) := by
  have HF := hide hF
  have hgl := hF.lt
  clear hF
  obtain ⟨T, hT⟩ : ∃ T, T = PutH (WrP (.mk 6 n t e ps)) g w := ⟨_, rfl⟩
  rw [← hT]
  have HT := hide hT
  clear hT
  obtain ⟨i0, hi0, hz0, hz1', hz2⟩ := info_parts infoB
  go_enter Tryd.func9, Tryd.ntmps9
  go_wp2
  have s0 : (w.alloc (.cells #[.int .i64 6, .int .u64 n, .string ⟨t.toArray⟩, .int .i64 e, .slice K m kc] 29)).cell? ⟨w.heap.size, 2, none⟩ = some (.string ⟨t.toArray⟩) := by go_simp
  have s1 : (w.alloc (.cells #[.int .i64 6, .int .u64 n, .string ⟨t.toArray⟩, .int .i64 e, .slice K m kc] 29)).cell? ⟨w.heap.size, 3, none⟩ = some (.int .i64 e) := by go_simp
  go_region_held3 (fun W => W.cell? ⟨w.heap.size, 2, none⟩ = some (.string ⟨t.toArray⟩) ∧ W.cell? ⟨w.heap.size, 3, none⟩ = some (.int .i64 e)) (go_keep)
    (first
    | (go_at_call 30; go_loud (refine (putHead_6b g t.length _ (some ⟨w.heap.size + 1, 0, none⟩) (fun b => b = w.heap.size + 1) ?xF (by omega) ?xR ?xS).mono ?_; (case xF => exact (unhide HF).below (by repeat (first | with_reducible exact Below.refl _ _ | with_reducible exact x | with_reducible refine Below.alloc ?_ (by first | omega | (simp; omega) | (simp; done)) _ | with_reducible refine Below.setCell ?_ (by first | omega | (simp; omega) | (simp; done)) _ | with_reducible refine Below.drew ?_ | with_reducible refine below_drewN ?_ _)) hgl); (case xR => exact reads_blk (S := fun b => b = w.heap.size + 1) (t := 68) (cs := #[.int .i64 217, .int .i64 1, .int .i64 218, .int .i64 2, .int .i64 219, .int .i64 4]) (by repeat (first | with_reducible exact Blk.new2 (by first | rfl | simp) | with_reducible refine Blk.drew ?_ | with_reducible refine Blk.drewN ?_ _)) rfl 2 3 rfl); (case xS => (intro b hb; rw [hb]; simp)); rintro e0 w1 ⟨v, bs, hP, rfl, hown, hg1, hF1⟩; obtain ⟨A1, cv1, rfl, hcv1, hcm1, hr1⟩ := own_slice hown; have hlen := HeadIs_len hP; have q0 : w1.cell? ⟨w.heap.size, 2, none⟩ = some (.string ⟨t.toArray⟩) := (World.cell?_of_block (hg1.block w.heap.size (by first | omega | (simp; omega) | (simp; done)) (by intro h; injection h with h; omega))).trans (by go_simp); have q1 : w1.cell? ⟨w.heap.size, 3, none⟩ = some (.int .i64 e) := (World.cell?_of_block (hg1.block w.heap.size (by first | omega | (simp; omega) | (simp; done)) (by intro h; injection h with h; omega))).trans (by go_simp); have hG : w.grownBy w1 (some g) := grown_trans' (only_of_below (by repeat (first | with_reducible exact Below.refl _ _ | with_reducible exact x | with_reducible refine Below.alloc ?_ (by first | omega | (simp; omega) | (simp; done)) _ | with_reducible refine Below.setCell ?_ (by first | omega | (simp; omega) | (simp; done)) _ | with_reducible refine Below.drew ?_ | with_reducible refine below_drewN ?_ _)) (some g)) hg1 (fun _ h => by injection h with h; subst h; exact .inl rfl); have HG := hide hG; have HP := hide hP; have HO := hide (own_base (b' := w.heap.size + 1) hown (by first | omega | (simp; omega) | (simp; done))); have HF1 := hide hF1; have hz1 : w.heap.size + 1 ≤ w1.heap.size := Nat.le_trans (by first | omega | (simp; omega) | (simp; done)) hg1.size; clear hown hg1 hF1 hr1 hP hG))
    | (go_loud (refine step_append_str rfl (.tmp 52) (.tmp 54) 24 9 rfl (w.heap.size + 1) 5 i0 Tryd.underlying24 Tryd.underlying9 hi0 hz0 hz1' hz2 (.slice A1 bs.length cv1) bs.length (bs.map Go.Proofs.YtlnpiigdjjadiaaDoor.u8) ?a1 ?a2 t ?a3 (by omega) ?a5 ?_; (case a1 => simp [Act.eval, Act.put]; done); (case a2 => exact unhide HO); (case a3 => simp [Act.eval, Act.put]; done); (case a5 => first | omega | (simp; omega)); intro v' w' hown' hgr; have gq := hgr.block w.heap.size (by omega) (fun h => by have := (own_ge' (unhide HO) _ h.symm).1; omega); have q2 : w'.cell? ⟨w.heap.size, 2, none⟩ = some (.string ⟨t.toArray⟩) := (World.cell?_of_block gq).trans (by assumption); have q3 : w'.cell? ⟨w.heap.size, 3, none⟩ = some (.int .i64 e) := (World.cell?_of_block gq).trans (by assumption); clear gq; have HO2 := hide hown'; have HG2 := hide hgr; clear hown' hgr hi0 hz0 hz1' hz2)))
  all_goals (
    go_wp2
    rw [unhide HT]
    refine ⟨_, bs ++ t, by unfold WrP; exact .inr (.inr (.inr (.inr (.inr (.inr (.inl ⟨rfl, bs, unhide HP, rfl⟩)))))), rfl, by rw [List.length_append, List.map_append]; exact own_base (unhide HO2) (by omega), grown_trans' (unhide HG) (unhide HG2) (fun k hk => .inr (by have := (own_ge' (unhide HO) _ hk).1; omega)), ?_⟩
    obtain ⟨st, b, h1, h2⟩ := unhide HF1
    exact ⟨st, b, h1, h2.grown (unhide HG2) (fun h => by have := (own_ge' (unhide HO) _ h.symm).1; omega)⟩)
set_option maxRecDepth 100000 in
set_option maxHeartbeats 1600000 in
theorem putPack_7 (k0 : Int) (g n m kc : Nat) (t : List UInt8) (e : Int) (ps : List Pack) (K : Option Addr) (w : World) (hF : FormsAt w g) (htl : t.length ≤ 131072) :
    Calls Tryd.prog 9 #[.agg #[.int .i64 7, .int .u64 n, .string ⟨t.toArray⟩, .int .i64 e, .slice K m kc], .pointer (some ⟨g, 0, none⟩)] w (PutH (WrP (.mk 7 n t e ps)) g w) := by
  have HF := hide hF
  have hgl := hF.lt
  clear hF
  obtain ⟨T, hT⟩ : ∃ T, T = PutH (WrP (.mk 7 n t e ps)) g w := ⟨_, rfl⟩
  rw [← hT]
  have HT := hide hT
  clear hT
  obtain ⟨i0, hi0, hz0, hz1', hz2⟩ := info_parts infoB
  go_enter Tryd.func9, Tryd.ntmps9
  go_wp2
  have s0 : (w.alloc (.cells #[.int .i64 7, .int .u64 n, .string ⟨t.toArray⟩, .int .i64 e, .slice K m kc] 29)).cell? ⟨w.heap.size, 2, none⟩ = some (.string ⟨t.toArray⟩) := by go_simp
  have s1 : (w.alloc (.cells #[.int .i64 7, .int .u64 n, .string ⟨t.toArray⟩, .int .i64 e, .slice K m kc] 29)).cell? ⟨w.heap.size, 3, none⟩ = some (.int .i64 e) := by go_simp
  go_region_held3 (fun W => W.cell? ⟨w.heap.size, 2, none⟩ = some (.string ⟨t.toArray⟩) ∧ W.cell? ⟨w.heap.size, 3, none⟩ = some (.int .i64 e)) (go_keep)
    (first
    | (go_at_call 30; go_loud (refine (putHead_7b g t.length _ (some ⟨w.heap.size + 1, 0, none⟩) (fun b => b = w.heap.size + 1) ?xF (by omega) ?xR ?xS).mono ?_; (case xF => exact (unhide HF).below (by repeat (first | with_reducible exact Below.refl _ _ | with_reducible exact x | with_reducible refine Below.alloc ?_ (by first | omega | (simp; omega) | (simp; done)) _ | with_reducible refine Below.setCell ?_ (by first | omega | (simp; omega) | (simp; done)) _ | with_reducible refine Below.drew ?_ | with_reducible refine below_drewN ?_ _)) hgl); (case xR => exact reads_blk (S := fun b => b = w.heap.size + 1) (t := 68) (cs := #[.int .i64 196, .int .i64 1, .int .i64 197, .int .i64 2, .int .i64 198, .int .i64 4]) (by repeat (first | with_reducible exact Blk.new2 (by first | rfl | simp) | with_reducible refine Blk.drew ?_ | with_reducible refine Blk.drewN ?_ _)) rfl 2 3 rfl); (case xS => (intro b hb; rw [hb]; simp)); rintro e0 w1 ⟨v, bs, hP, rfl, hown, hg1, hF1⟩; obtain ⟨A1, cv1, rfl, hcv1, hcm1, hr1⟩ := own_slice hown; have hlen := HeadIs_len hP; have q0 : w1.cell? ⟨w.heap.size, 2, none⟩ = some (.string ⟨t.toArray⟩) := (World.cell?_of_block (hg1.block w.heap.size (by first | omega | (simp; omega) | (simp; done)) (by intro h; injection h with h; omega))).trans (by go_simp); have q1 : w1.cell? ⟨w.heap.size, 3, none⟩ = some (.int .i64 e) := (World.cell?_of_block (hg1.block w.heap.size (by first | omega | (simp; omega) | (simp; done)) (by intro h; injection h with h; omega))).trans (by go_simp); have hG : w.grownBy w1 (some g) := grown_trans' (only_of_below (by repeat (first | with_reducible exact Below.refl _ _ | with_reducible exact x | with_reducible refine Below.alloc ?_ (by first | omega | (simp; omega) | (simp; done)) _ | with_reducible refine Below.setCell ?_ (by first | omega | (simp; omega) | (simp; done)) _ | with_reducible refine Below.drew ?_ | with_reducible refine below_drewN ?_ _)) (some g)) hg1 (fun _ h => by injection h with h; subst h; exact .inl rfl); have HG := hide hG; have HP := hide hP; have HO := hide (own_base (b' := w.heap.size + 1) hown (by first | omega | (simp; omega) | (simp; done))); have HF1 := hide hF1; have hz1 : w.heap.size + 1 ≤ w1.heap.size := Nat.le_trans (by first | omega | (simp; omega) | (simp; done)) hg1.size; clear hown hg1 hF1 hr1 hP hG))
    | (go_loud (refine step_append_str rfl (.tmp 66) (.tmp 68) 24 9 rfl (w.heap.size + 1) 5 i0 Tryd.underlying24 Tryd.underlying9 hi0 hz0 hz1' hz2 (.slice A1 bs.length cv1) bs.length (bs.map Go.Proofs.YtlnpiigdjjadiaaDoor.u8) ?a1 ?a2 t ?a3 (by omega) ?a5 ?_; (case a1 => simp [Act.eval, Act.put]; done); (case a2 => exact unhide HO); (case a3 => simp [Act.eval, Act.put]; done); (case a5 => first | omega | (simp; omega)); intro v' w' hown' hgr; have gq := hgr.block w.heap.size (by omega) (fun h => by have := (own_ge' (unhide HO) _ h.symm).1; omega); have q2 : w'.cell? ⟨w.heap.size, 2, none⟩ = some (.string ⟨t.toArray⟩) := (World.cell?_of_block gq).trans (by assumption); have q3 : w'.cell? ⟨w.heap.size, 3, none⟩ = some (.int .i64 e) := (World.cell?_of_block gq).trans (by assumption); clear gq; have HO2 := hide hown'; have HG2 := hide hgr; clear hown' hgr hi0 hz0 hz1' hz2)))
  all_goals (
    go_wp2
    rw [unhide HT]
    refine ⟨_, bs ++ t, by unfold WrP; exact .inr (.inr (.inr (.inr (.inr (.inr (.inr (.inl ⟨rfl, bs, unhide HP, rfl⟩))))))), rfl, by rw [List.length_append, List.map_append]; exact own_base (unhide HO2) (by omega), grown_trans' (unhide HG) (unhide HG2) (fun k hk => .inr (by have := (own_ge' (unhide HO) _ hk).1; omega)), ?_⟩
    obtain ⟨st, b, h1, h2⟩ := unhide HF1
    exact ⟨st, b, h1, h2.grown (unhide HG2) (fun h => by have := (own_ge' (unhide HO) _ h.symm).1; omega)⟩)
set_option maxRecDepth 100000 in
set_option maxHeartbeats 1600000 in
theorem putPack_10 (k0 : Int) (g n m kc : Nat) (t : List UInt8) (e : Int) (ps : List Pack) (K : Option Addr) (w : World) (hF : FormsAt w g) (htl : t.length ≤ 131072) :
    Calls Tryd.prog 9 #[.agg #[.int .i64 10, .int .u64 n, .string ⟨t.toArray⟩, .int .i64 e, .slice K m kc], .pointer (some ⟨g, 0, none⟩)] w (PutH (WrP (.mk 10 n t e ps)) g w) := by
  have HF := hide hF
  have hgl := hF.lt
  clear hF
  obtain ⟨T, hT⟩ : ∃ T, T = PutH (WrP (.mk 10 n t e ps)) g w := ⟨_, rfl⟩
  rw [← hT]
  have HT := hide hT
  clear hT
  obtain ⟨i0, hi0, hz0, hz1', hz2⟩ := info_parts infoB
  go_enter Tryd.func9, Tryd.ntmps9
  go_wp2
  have s0 : (w.alloc (.cells #[.int .i64 10, .int .u64 n, .string ⟨t.toArray⟩, .int .i64 e, .slice K m kc] 29)).cell? ⟨w.heap.size, 2, none⟩ = some (.string ⟨t.toArray⟩) := by go_simp
  have s1 : (w.alloc (.cells #[.int .i64 10, .int .u64 n, .string ⟨t.toArray⟩, .int .i64 e, .slice K m kc] 29)).cell? ⟨w.heap.size, 3, none⟩ = some (.int .i64 e) := by go_simp
  go_region_held3 (fun W => W.cell? ⟨w.heap.size, 2, none⟩ = some (.string ⟨t.toArray⟩) ∧ W.cell? ⟨w.heap.size, 3, none⟩ = some (.int .i64 e)) (go_keep)
    (first
    | (go_at_call 31; go_loud (refine (putExt_any g t.length e _ ?xF (by omega)).mono ?_; (case xF => exact (unhide HF).below (by repeat (first | with_reducible exact Below.refl _ _ | with_reducible exact x | with_reducible refine Below.alloc ?_ (by first | omega | (simp; omega) | (simp; done)) _ | with_reducible refine Below.setCell ?_ (by first | omega | (simp; omega) | (simp; done)) _ | with_reducible refine Below.drew ?_ | with_reducible refine below_drewN ?_ _)) hgl); rintro e0 w1 ⟨v, bs, hP, rfl, hown, hg1, hF1⟩; obtain ⟨A1, cv1, rfl, hcv1, hcm1, hr1⟩ := own_slice hown; have hlen := extF_len hP; have q0 : w1.cell? ⟨w.heap.size, 2, none⟩ = some (.string ⟨t.toArray⟩) := (World.cell?_of_block (hg1.block w.heap.size (by first | omega | (simp; omega) | (simp; done)) (by intro h; injection h with h; omega))).trans (by go_simp); have q1 : w1.cell? ⟨w.heap.size, 3, none⟩ = some (.int .i64 e) := (World.cell?_of_block (hg1.block w.heap.size (by first | omega | (simp; omega) | (simp; done)) (by intro h; injection h with h; omega))).trans (by go_simp); have hG : w.grownBy w1 (some g) := grown_trans' (only_of_below (by repeat (first | with_reducible exact Below.refl _ _ | with_reducible exact x | with_reducible refine Below.alloc ?_ (by first | omega | (simp; omega) | (simp; done)) _ | with_reducible refine Below.setCell ?_ (by first | omega | (simp; omega) | (simp; done)) _ | with_reducible refine Below.drew ?_ | with_reducible refine below_drewN ?_ _)) (some g)) hg1 (fun _ h => by injection h with h; subst h; exact .inl rfl); have HG := hide hG; have HP := hide hP; have HO := hide (own_base (b' := w.heap.size + 1) hown (by first | omega | (simp; omega) | (simp; done))); have HF1 := hide hF1; have hz1 : w.heap.size + 1 ≤ w1.heap.size := Nat.le_trans (by first | omega | (simp; omega) | (simp; done)) hg1.size; clear hown hg1 hF1 hr1 hP hG))
    | (go_loud (refine step_append_str rfl (.tmp 78) (.tmp 80) 24 9 rfl (w.heap.size + 1) 5 i0 Tryd.underlying24 Tryd.underlying9 hi0 hz0 hz1' hz2 (.slice A1 bs.length cv1) bs.length (bs.map Go.Proofs.YtlnpiigdjjadiaaDoor.u8) ?a1 ?a2 t ?a3 (by omega) ?a5 ?_; (case a1 => simp [Act.eval, Act.put]; done); (case a2 => exact unhide HO); (case a3 => simp [Act.eval, Act.put]; done); (case a5 => first | omega | (simp; omega)); intro v' w' hown' hgr; have gq := hgr.block w.heap.size (by omega) (fun h => by have := (own_ge' (unhide HO) _ h.symm).1; omega); have q2 : w'.cell? ⟨w.heap.size, 2, none⟩ = some (.string ⟨t.toArray⟩) := (World.cell?_of_block gq).trans (by assumption); have q3 : w'.cell? ⟨w.heap.size, 3, none⟩ = some (.int .i64 e) := (World.cell?_of_block gq).trans (by assumption); clear gq; have HO2 := hide hown'; have HG2 := hide hgr; clear hown' hgr hi0 hz0 hz1' hz2)))
  all_goals (
    go_wp2
    rw [unhide HT]
    refine ⟨_, bs ++ t, by unfold WrP; exact .inr (.inr (.inr (.inr (.inr (.inr (.inr (.inr (.inl ⟨rfl, bs, unhide HP, rfl⟩)))))))), rfl, by rw [List.length_append, List.map_append]; exact own_base (unhide HO2) (by omega), grown_trans' (unhide HG) (unhide HG2) (fun k hk => .inr (by have := (own_ge' (unhide HO) _ hk).1; omega)), ?_⟩
    obtain ⟨st, b, h1, h2⟩ := unhide HF1
    exact ⟨st, b, h1, h2.grown (unhide HG2) (fun h => by have := (own_ge' (unhide HO) _ h.symm).1; omega)⟩)
end Go.Proofs.YtlnpiigdjjadiaaDoor

/-
  spec.PutPack of arrays and maps, and of all values. Conditions: the value reads in memory, fits, and is at most 2000 values.
-/
namespace Go.Proofs.YtlnpiigdjjadiaaDoor
set_option linter.unusedSimpArgs false
set_option linter.unusedVariables false
set_option linter.unusedVariables false
open Go.RowKit
def PutPAt (N : Nat) : Prop := ∀ (p : Pack), SizeOf.sizeOf p ≤ N → WfP p → FitsP p → cnt p ≤ 2000 → ∀ (c0 c1 c2 c3 c4 : Value) (S : Nat → Prop) (w : World) (g : Nat), Old w S → ¬ S g → PackC w S p [c0, c1, c2, c3, c4] → FormsAt w g →
  Calls Tryd.prog 9 #[.agg #[c0, c1, c2, c3, c4], .pointer (some ⟨g, 0, none⟩)] w (PutH (WrP p) g w)
theorem FormsAt.grown {w w' : World} {g : Nat} {row : Option Nat} (h : FormsAt w g) (hg : w.grownBy w' row) (hr : some g ≠ row) : FormsAt w' g := by
  obtain ⟨st, b, h1, h2⟩ := h
  exact ⟨st, b, h1, h2.grown hg hr⟩
theorem own_kept_old {w w' : World} {w0 g : Nat} {e : TypeId} {size n : Nat} {u : Value} {xs : List Value} (h : w.ownsRow w0 e size u n xs) (hg : w.grownBy w' (some g)) (hr : g < w0) : w'.ownsRow w0 e size u n xs := by
  refine h.kept hg ?_
  rcases hk : u.ownBlock with _ | k
  · exact .inl rfl
  · right
    intro he
    have h1 := own_ge' h k hk
    injection he with he
    omega
/-- What the loop over the kids has written. -/
def Kids (P : List UInt8 → Prop) (ps : List Pack) (k : Nat) (bs : List UInt8) : Prop := ∃ h r, P h ∧ WrPs (ps.take k) r ∧ bs = h ++ r
theorem Kids.len {kind q : Nat} {ps : List Pack} {k : Nat} {bs : List UInt8} (h : Kids (HeadIs kind q) ps k bs) (hf : FitsPs ps) (hc : 1 + cnts ps ≤ 2000) : bs.length ≤ 400000000 := by
  obtain ⟨h, r, h1, h2, rfl⟩ := h
  have h3 := HeadIs_len h1
  have h4 := WrPs_len _ r h2 (FitsPs_take ps k hf)
  have h5 := cnts_le ps k
  rw [List.length_append]
  omega
theorem Kids.snoc {P : List UInt8 → Prop} {ps : List Pack} {k : Nat} {bs b : List UInt8} (h : Kids P ps k bs) (hk : k < ps.length) (hb : WrP ps[k] b) : Kids P ps (k + 1) (bs ++ b) := by
  obtain ⟨h, r, h1, h2, rfl⟩ := h
  exact ⟨h, r ++ b, h1, by rw [List.take_succ_eq_append_getElem hk]; exact WrPs_snoc _ _ _ _ h2 hb, by simp⟩
set_option maxRecDepth 100000 in
set_option maxHeartbeats 3200000 in
theorem putPack_8 (N : Nat) (ih : PutPAt N) (g n m kc : Nat) (t : List UInt8) (e : Int) (ps : List Pack) (K : Option Addr) (xs : List Value) (S : Nat → Prop) (w : World) (hF : FormsAt w g) (hm : m = ps.length) (hm2 : m ≤ 2000) (hS : Old w S) (hgS : ¬ S g) (hr : Reads w S 5 K m xs) (hp : PacksC w S ps xs)
    (hsz : ∀ p ∈ ps, SizeOf.sizeOf p ≤ N) (hwf : WfPs ps) (hft : FitsPs ps) (hcn : 1 + cnts ps ≤ 2000) :
    Calls Tryd.prog 9 #[.agg #[.int .i64 8, .int .u64 n, .string ⟨t.toArray⟩, .int .i64 e, .slice K m kc], .pointer (some ⟨g, 0, none⟩)] w (PutH (WrP (.mk 8 n t e ps)) g w) := by
  have HF := hide hF
  have hgl := hF.lt
  have IH := hide ih
  have HM := hide hm
  have HR := hide hr
  have HP := hide hp
  have HWF := hide hwf
  have HFT := hide hft
  clear hF ih hm hr hp hwf hft
  obtain ⟨T, hT⟩ : ∃ T, T = PutH (WrP (.mk 8 n t e ps)) g w := ⟨_, rfl⟩
  rw [← hT]
  have HT := hide hT
  clear hT
  have HH := hide (fun (W : World) (hW : Below w.heap.size w W) (hl : W.heap.size = w.heap.size + 1) => putHead_8b g m (W.alloc (.cells #[.int .i64 220, .int .i64 2, .int .i64 221, .int .i64 4] 68)) (some ⟨w.heap.size + 1, 0, none⟩) (fun b => b = w.heap.size + 1) (((unhide HF).below hW hgl).below ((Below.refl _ _).alloc (Nat.le_refl _) _) (by omega)) (by omega)
    (reads_blk (S := fun b => b = w.heap.size + 1) (t := 68) (cs := #[.int .i64 220, .int .i64 2, .int .i64 221, .int .i64 4]) (Blk.new2 hl) rfl 2 2 rfl) (fun b hb => by rw [hb]; simp; omega))
  go_enter Tryd.func9, Tryd.ntmps9
  go_wp2_with fail
  refine (unhide HH (w.alloc (.cells #[.int .i64 8, .int .u64 n, .string ⟨t.toArray⟩, .int .i64 e, .slice K m kc] 29)) ((Below.refl _ _).alloc (Nat.le_refl _) _) (by simp)).mono ?_
  rintro e0 w1 ⟨v, bs, hP, rfl, hown, hg1, hF1⟩
  have hG : w.grownBy w1 (some g) := grown_trans' (only_of_below (by repeat (first | with_reducible exact Below.refl _ _ | with_reducible exact x | with_reducible refine Below.alloc ?_ (by first | omega | (simp; omega) | (simp; done)) _ | with_reducible refine Below.setCell ?_ (by first | omega | (simp; omega) | (simp; done)) _ | with_reducible refine Below.drew ?_ | with_reducible refine below_drewN ?_ _)) (some g)) hg1 (fun _ h => by injection h with h; subst h; exact .inl rfl)
  have hown' := own_base (b' := w.heap.size) hown (by first | omega | (simp; omega) | (simp; done))
  have q0 : w1.cell? ⟨w.heap.size, 4, none⟩ = some (.slice K m kc) := (World.cell?_of_block (hg1.block w.heap.size (by first | omega | (simp; omega) | (simp; done)) (by intro h; injection h with h; omega))).trans (by go_simp)
  have HP0 := hide hP
  have HG := hide hG
  have HO := hide hown'
  have HF1 := hide hF1
  have hzz : w.heap.size < w1.heap.size := Nat.lt_of_lt_of_le (by first | omega | (simp; omega) | (simp; done)) hg1.size
  clear hown hg1 hF1 hP hG hown' HH
  go_wp2
  go_loopw [5, 106] (fun v i wr => ∃ (k : Nat) (bs : List UInt8), i = .int .i64 k ∧ k ≤ m ∧ Kids (HeadIs 8 m) ps k bs ∧ wr.ownsRow w.heap.size 5 1 v bs.length (bs.map u8) ∧ w.grownBy wr (some g) ∧ FormsAt wr g) (fun _ i _ => m - (intOf i).toNat)
  case atStart => exact ⟨0, bs, rfl, Nat.zero_le _, ⟨bs, [], unhide HP0, by rw [List.take_zero]; unfold WrPs; rfl, by simp⟩, unhide HO, unhide HG, unhide HF1⟩
  case round =>
    obtain ⟨k, bs, rfl, hk, hkid, hown, hg, hFr⟩ := hrel
    have hlen := hkid.len (unhide HFT) hcn
    obtain ⟨Av, cv, rfl, hcv, hcmv, _⟩ := own_slice hown
    obtain ⟨l, hl⟩ : ∃ l, l = bs.length := ⟨_, rfl⟩
    rw [← hl] at hown hlen hcv ⊢
    have HL := hide hl
    have HK := hide hkid
    have HOWN := hide hown
    have HGR := hide hg
    have HFR := hide hFr
    have hzr := hg.size
    unfold maxLen at hcmv
    clear hl hkid
    by_cases hlt : k < m
    · obtain ⟨ad, rfl, hSb, hcell⟩ := (unhide HR).2 (by omega)
      have hl1 : k < ps.length := by have := unhide HM; omega
      obtain ⟨c0, c1, c2, c3, c4, hcs, hpc⟩ := PacksC.at_ ps xs (unhide HP) k hl1
      have l0 := hS _ hSb
      have hst : Stays S w wr := stays_grown hg hS hgS
      have hne : ad.block ≠ g := fun h => hgS (h ▸ hSb)
      obtain ⟨x60, x61, x62, x63, x64⟩ := five_at (w := wr) (a := ad.add (k * 5)) (c0 := c0) (c1 := c1) (c2 := c2) (c3 := c3) (c4 := c4) (fun j u hu => by rw [add_of_add]; exact (World.cell?_of_block (w := w) (a := ad.add (k * 5 + j)) (by rw [block_of_add]; exact hst _ hSb)).trans (hcell _ _ (hcs j u hu)))
      obtain ⟨k1, n1, t1, e1, K1, m1, kc1, rfl, rfl, rfl, rfl, rfl⟩ := hpc.cells
      have hmemk := List.getElem_mem hl1
      have hcnk : cnt ps[k] ≤ 2000 := by have := cnts_take ps k hl1; have := cnts_le ps (k + 1); omega
      have hblen : ∀ b, WrP ps[k] b → b.length ≤ 400000000 := fun b hb => by have := WrP_len _ b hb (FitsPs_at ps (unhide HFT) _ hmemk); omega
      have HPC := hide hpc
      have HC := hide hcell
      have HST := hide hst
      have HBL := hide hblen
      clear hcell hcs hpc hst hblen hown hg hFr
      go_wp2_with (first
        | (go_at_call 9; go_loud (refine (unhide IH ps[k] (hsz _ hmemk) (WfPs_at ps (unhide HWF) _ hmemk) (FitsPs_at ps (unhide HFT) _ hmemk) hcnk _ _ _ _ _ S _ g ?xO hgS ?xC ?xF).mono ?_; (case xO => exact fun b hb => by have := hS b hb; first | omega | (simp; omega)); (case xC => exact PackC.keep (Stays.trans (unhide HST) (stays_below (Stays.refl _ _) (by repeat (first | with_reducible exact Below.refl _ _ | with_reducible exact x | with_reducible refine Below.alloc ?_ (by first | omega | (simp; omega) | (simp; done)) _ | with_reducible refine Below.setCell ?_ (by first | omega | (simp; omega) | (simp; done)) _ | with_reducible refine Below.drew ?_ | with_reducible refine below_drewN ?_ _)) (fun b hb => Nat.lt_of_lt_of_le (hS b hb) hzr))) _ _ (unhide HPC)); (case xF => exact (unhide HFR).below (by repeat (first | with_reducible exact Below.refl _ _ | with_reducible exact x | with_reducible refine Below.alloc ?_ (by first | omega | (simp; omega) | (simp; done)) _ | with_reducible refine Below.setCell ?_ (by first | omega | (simp; omega) | (simp; done)) _ | with_reducible refine Below.drew ?_ | with_reducible refine below_drewN ?_ _)) (unhide HFR).lt); rintro e5 w5 ⟨v5, b5, hP5, rfl, hown5, hg5, hF5⟩; obtain ⟨A5, c5, rfl, hc5, hcm5, hr5⟩ := own_slice hown5; have hG5 : wr.grownBy w5 (some g) := grown_trans' (only_of_below (by repeat (first | with_reducible exact Below.refl _ _ | with_reducible exact x | with_reducible refine Below.alloc ?_ (by first | omega | (simp; omega) | (simp; done)) _ | with_reducible refine Below.setCell ?_ (by first | omega | (simp; omega) | (simp; done)) _ | with_reducible refine Below.drew ?_ | with_reducible refine below_drewN ?_ _)) (some g)) hg5 (fun _ h => by injection h with h; subst h; exact .inl rfl); have hO5 := own_kept_old (unhide HOWN) hG5 hgl; have hlb5 := unhide HBL b5 hP5; have hz5 := hG5.size; have HG5 := hide hG5; have HO5 := hide hO5; have HR5 := hide hr5; have HF5 := hide hF5; have HP5 := hide hP5; unfold maxLen at hcm5; clear hown5 hg5 hF5 hr5 hP5 hG5 hO5))
        | (at_builtin; go_loud (obtain ⟨i0, hi0, hz0, hz1', hz2⟩ := info_parts infoB; refine wpList_append_any (S := fun _ => True) _ rfl (.tmp 110) (.tmp 113) 24 rfl w.heap.size 5 i0 _ 1 1 Tryd.underlying24 hi0 hz0 hz1' hz2 rfl (by omega) (.slice Av l cv) l (bs.map Go.Proofs.YtlnpiigdjjadiaaDoor.u8) rfl (unhide HO5) A5 b5.length c5 (b5.map Go.Proofs.YtlnpiigdjjadiaaDoor.u8) rfl ((unhide HR5).sub (fun _ _ => trivial)) (u8_one _) (by unfold maxLen; omega) (by omega) (by omega) ?_; clear hi0 hz0 hz1' hz2; intro v6 w6 hown6 hgr6 hat6; have hfar : ∀ j, (Value.slice Av l cv).ownBlock = some j → w.heap.size ≤ j := fun j hj => (own_ge' (unhide HOWN) j hj).1; have hG6 : w.grownBy w6 (some g) := grown_trans' (grown_trans' (unhide HGR) (unhide HG5) (fun _ h => .inl h)) hgr6 (fun j hj => .inr (hfar j hj)); have hF6 := (unhide HF5).grown hgr6 (fun h => by have := hfar g h.symm; omega); have HO6 := hide hown6; have HG6 := hide hG6; have HF6 := hide hF6; clear hown6 hgr6 hat6 hfar hG6 hF6)))
      go_roundw
      case rel => exact ⟨k + 1, bs ++ b5, by go_num, by omega, (unhide HK).snoc hl1 (unhide HP5), by rw [List.length_append, List.map_append, ← unhide HL]; exact unhide HO6, unhide HG6, unhide HF6⟩
      case measure => simp [intOf]; omega
    · obtain rfl : k = m := by omega
      clear hown hg hFr
      go_wp2
      rw [unhide HT]
      obtain ⟨h, r, h1, h2, hbs⟩ := unhide HK
      refine ⟨_, bs, ?_, rfl, by rw [← unhide HL]; exact unhide HOWN, unhide HGR, unhide HFR⟩
      rw [unhide HM, List.take_length] at h2
      unfold WrP
      rw [unhide HM] at h1
      exact .inr (.inr (.inr (.inr (.inr (.inr (.inr (.inr (.inr (.inl ⟨rfl, h, r, h1, h2, hbs⟩)))))))))
set_option maxRecDepth 100000 in
set_option maxHeartbeats 3200000 in
theorem putPack_9 (N : Nat) (ih : PutPAt N) (g n m kc : Nat) (t : List UInt8) (e : Int) (ps : List Pack) (K : Option Addr) (xs : List Value) (S : Nat → Prop) (w : World) (hF : FormsAt w g) (hm : m = ps.length) (hm2 : m ≤ 2000) (hS : Old w S) (hgS : ¬ S g) (hr : Reads w S 5 K m xs) (hp : PacksC w S ps xs)
    (hsz : ∀ p ∈ ps, SizeOf.sizeOf p ≤ N) (hwf : WfPs ps) (hft : FitsPs ps) (hcn : 1 + cnts ps ≤ 2000) :
    Calls Tryd.prog 9 #[.agg #[.int .i64 9, .int .u64 n, .string ⟨t.toArray⟩, .int .i64 e, .slice K m kc], .pointer (some ⟨g, 0, none⟩)] w (PutH (WrP (.mk 9 n t e ps)) g w) := by
  have HF := hide hF
  have hgl := hF.lt
  have IH := hide ih
  have HM := hide hm
  have HR := hide hr
  have HP := hide hp
  have HWF := hide hwf
  have HFT := hide hft
  clear hF ih hm hr hp hwf hft
  obtain ⟨T, hT⟩ : ∃ T, T = PutH (WrP (.mk 9 n t e ps)) g w := ⟨_, rfl⟩
  rw [← hT]
  have HT := hide hT
  clear hT
  have HH := hide (fun (W : World) (hW : Below w.heap.size w W) (hl : W.heap.size = w.heap.size + 1) => putHead_9b g (m / 2) (W.alloc (.cells #[.int .i64 222, .int .i64 2, .int .i64 223, .int .i64 4] 68)) (some ⟨w.heap.size + 1, 0, none⟩) (fun b => b = w.heap.size + 1) (((unhide HF).below hW hgl).below ((Below.refl _ _).alloc (Nat.le_refl _) _) (by omega)) (by omega)
    (reads_blk (S := fun b => b = w.heap.size + 1) (t := 68) (cs := #[.int .i64 222, .int .i64 2, .int .i64 223, .int .i64 4]) (Blk.new2 hl) rfl 2 2 rfl) (fun b hb => by rw [hb]; simp; omega))
  have hdv : (((m / 2 : Nat)) : Int) = (m : Int) / 2 := by omega
  rw [hdv] at HH
  clear hdv
  go_enter Tryd.func9, Tryd.ntmps9
  go_wp2_with fail
  refine (unhide HH (w.alloc (.cells #[.int .i64 9, .int .u64 n, .string ⟨t.toArray⟩, .int .i64 e, .slice K m kc] 29)) ((Below.refl _ _).alloc (Nat.le_refl _) _) (by simp)).mono ?_
  rintro e0 w1 ⟨v, bs, hP, rfl, hown, hg1, hF1⟩
  have hG : w.grownBy w1 (some g) := grown_trans' (only_of_below (by repeat (first | with_reducible exact Below.refl _ _ | with_reducible exact x | with_reducible refine Below.alloc ?_ (by first | omega | (simp; omega) | (simp; done)) _ | with_reducible refine Below.setCell ?_ (by first | omega | (simp; omega) | (simp; done)) _ | with_reducible refine Below.drew ?_ | with_reducible refine below_drewN ?_ _)) (some g)) hg1 (fun _ h => by injection h with h; subst h; exact .inl rfl)
  have hown' := own_base (b' := w.heap.size) hown (by first | omega | (simp; omega) | (simp; done))
  have q0 : w1.cell? ⟨w.heap.size, 4, none⟩ = some (.slice K m kc) := (World.cell?_of_block (hg1.block w.heap.size (by first | omega | (simp; omega) | (simp; done)) (by intro h; injection h with h; omega))).trans (by go_simp)
  have HP0 := hide hP
  have HG := hide hG
  have HO := hide hown'
  have HF1 := hide hF1
  have hzz : w.heap.size < w1.heap.size := Nat.lt_of_lt_of_le (by first | omega | (simp; omega) | (simp; done)) hg1.size
  clear hown hg1 hF1 hP hG hown' HH
  go_wp2
  go_loopw [5, 106] (fun v i wr => ∃ (k : Nat) (bs : List UInt8), i = .int .i64 k ∧ k ≤ m ∧ Kids (HeadIs 9 (m / 2)) ps k bs ∧ wr.ownsRow w.heap.size 5 1 v bs.length (bs.map u8) ∧ w.grownBy wr (some g) ∧ FormsAt wr g) (fun _ i _ => m - (intOf i).toNat)
  case atStart => exact ⟨0, bs, rfl, Nat.zero_le _, ⟨bs, [], unhide HP0, by rw [List.take_zero]; unfold WrPs; rfl, by simp⟩, unhide HO, unhide HG, unhide HF1⟩
  case round =>
    obtain ⟨k, bs, rfl, hk, hkid, hown, hg, hFr⟩ := hrel
    have hlen := hkid.len (unhide HFT) hcn
    obtain ⟨Av, cv, rfl, hcv, hcmv, _⟩ := own_slice hown
    obtain ⟨l, hl⟩ : ∃ l, l = bs.length := ⟨_, rfl⟩
    rw [← hl] at hown hlen hcv ⊢
    have HL := hide hl
    have HK := hide hkid
    have HOWN := hide hown
    have HGR := hide hg
    have HFR := hide hFr
    have hzr := hg.size
    unfold maxLen at hcmv
    clear hl hkid
    by_cases hlt : k < m
    · obtain ⟨ad, rfl, hSb, hcell⟩ := (unhide HR).2 (by omega)
      have hl1 : k < ps.length := by have := unhide HM; omega
      obtain ⟨c0, c1, c2, c3, c4, hcs, hpc⟩ := PacksC.at_ ps xs (unhide HP) k hl1
      have l0 := hS _ hSb
      have hst : Stays S w wr := stays_grown hg hS hgS
      have hne : ad.block ≠ g := fun h => hgS (h ▸ hSb)
      obtain ⟨x60, x61, x62, x63, x64⟩ := five_at (w := wr) (a := ad.add (k * 5)) (c0 := c0) (c1 := c1) (c2 := c2) (c3 := c3) (c4 := c4) (fun j u hu => by rw [add_of_add]; exact (World.cell?_of_block (w := w) (a := ad.add (k * 5 + j)) (by rw [block_of_add]; exact hst _ hSb)).trans (hcell _ _ (hcs j u hu)))
      obtain ⟨k1, n1, t1, e1, K1, m1, kc1, rfl, rfl, rfl, rfl, rfl⟩ := hpc.cells
      have hmemk := List.getElem_mem hl1
      have hcnk : cnt ps[k] ≤ 2000 := by have := cnts_take ps k hl1; have := cnts_le ps (k + 1); omega
      have hblen : ∀ b, WrP ps[k] b → b.length ≤ 400000000 := fun b hb => by have := WrP_len _ b hb (FitsPs_at ps (unhide HFT) _ hmemk); omega
      have HPC := hide hpc
      have HC := hide hcell
      have HST := hide hst
      have HBL := hide hblen
      clear hcell hcs hpc hst hblen hown hg hFr
      go_wp2_with (first
        | (go_at_call 9; go_loud (refine (unhide IH ps[k] (hsz _ hmemk) (WfPs_at ps (unhide HWF) _ hmemk) (FitsPs_at ps (unhide HFT) _ hmemk) hcnk _ _ _ _ _ S _ g ?xO hgS ?xC ?xF).mono ?_; (case xO => exact fun b hb => by have := hS b hb; first | omega | (simp; omega)); (case xC => exact PackC.keep (Stays.trans (unhide HST) (stays_below (Stays.refl _ _) (by repeat (first | with_reducible exact Below.refl _ _ | with_reducible exact x | with_reducible refine Below.alloc ?_ (by first | omega | (simp; omega) | (simp; done)) _ | with_reducible refine Below.setCell ?_ (by first | omega | (simp; omega) | (simp; done)) _ | with_reducible refine Below.drew ?_ | with_reducible refine below_drewN ?_ _)) (fun b hb => Nat.lt_of_lt_of_le (hS b hb) hzr))) _ _ (unhide HPC)); (case xF => exact (unhide HFR).below (by repeat (first | with_reducible exact Below.refl _ _ | with_reducible exact x | with_reducible refine Below.alloc ?_ (by first | omega | (simp; omega) | (simp; done)) _ | with_reducible refine Below.setCell ?_ (by first | omega | (simp; omega) | (simp; done)) _ | with_reducible refine Below.drew ?_ | with_reducible refine below_drewN ?_ _)) (unhide HFR).lt); rintro e5 w5 ⟨v5, b5, hP5, rfl, hown5, hg5, hF5⟩; obtain ⟨A5, c5, rfl, hc5, hcm5, hr5⟩ := own_slice hown5; have hG5 : wr.grownBy w5 (some g) := grown_trans' (only_of_below (by repeat (first | with_reducible exact Below.refl _ _ | with_reducible exact x | with_reducible refine Below.alloc ?_ (by first | omega | (simp; omega) | (simp; done)) _ | with_reducible refine Below.setCell ?_ (by first | omega | (simp; omega) | (simp; done)) _ | with_reducible refine Below.drew ?_ | with_reducible refine below_drewN ?_ _)) (some g)) hg5 (fun _ h => by injection h with h; subst h; exact .inl rfl); have hO5 := own_kept_old (unhide HOWN) hG5 hgl; have hlb5 := unhide HBL b5 hP5; have hz5 := hG5.size; have HG5 := hide hG5; have HO5 := hide hO5; have HR5 := hide hr5; have HF5 := hide hF5; have HP5 := hide hP5; unfold maxLen at hcm5; clear hown5 hg5 hF5 hr5 hP5 hG5 hO5))
        | (at_builtin; go_loud (obtain ⟨i0, hi0, hz0, hz1', hz2⟩ := info_parts infoB; refine wpList_append_any (S := fun _ => True) _ rfl (.tmp 110) (.tmp 113) 24 rfl w.heap.size 5 i0 _ 1 1 Tryd.underlying24 hi0 hz0 hz1' hz2 rfl (by omega) (.slice Av l cv) l (bs.map Go.Proofs.YtlnpiigdjjadiaaDoor.u8) rfl (unhide HO5) A5 b5.length c5 (b5.map Go.Proofs.YtlnpiigdjjadiaaDoor.u8) rfl ((unhide HR5).sub (fun _ _ => trivial)) (u8_one _) (by unfold maxLen; omega) (by omega) (by omega) ?_; clear hi0 hz0 hz1' hz2; intro v6 w6 hown6 hgr6 hat6; have hfar : ∀ j, (Value.slice Av l cv).ownBlock = some j → w.heap.size ≤ j := fun j hj => (own_ge' (unhide HOWN) j hj).1; have hG6 : w.grownBy w6 (some g) := grown_trans' (grown_trans' (unhide HGR) (unhide HG5) (fun _ h => .inl h)) hgr6 (fun j hj => .inr (hfar j hj)); have hF6 := (unhide HF5).grown hgr6 (fun h => by have := hfar g h.symm; omega); have HO6 := hide hown6; have HG6 := hide hG6; have HF6 := hide hF6; clear hown6 hgr6 hat6 hfar hG6 hF6)))
      go_roundw
      case rel => exact ⟨k + 1, bs ++ b5, by go_num, by omega, (unhide HK).snoc hl1 (unhide HP5), by rw [List.length_append, List.map_append, ← unhide HL]; exact unhide HO6, unhide HG6, unhide HF6⟩
      case measure => simp [intOf]; omega
    · obtain rfl : k = m := by omega
      clear hown hg hFr
      go_wp2
      rw [unhide HT]
      obtain ⟨h, r, h1, h2, hbs⟩ := unhide HK
      refine ⟨_, bs, ?_, rfl, by rw [← unhide HL]; exact unhide HOWN, unhide HGR, unhide HFR⟩
      rw [unhide HM, List.take_length] at h2
      unfold WrP
      rw [unhide HM] at h1
      exact .inr (.inr (.inr (.inr (.inr (.inr (.inr (.inr (.inr (.inr ⟨rfl, h, r, h1, h2, hbs⟩)))))))))
theorem putPack_all : ∀ N, PutPAt N
  | 0 => by
    intro p hp
    cases p
    simp at hp
  | N + 1 => by
    intro p hsz hwf hft hcn c0 c1 c2 c3 c4 S w g hS hgS hp hF
    cases p with
    | mk k n t e ps =>
    unfold PackC at hp
    obtain ⟨K, kc, xs, hc, h1, h2, h3, h4⟩ := hp
    simp only [List.cons.injEq, and_true] at hc
    obtain ⟨rfl, rfl, rfl, rfl, rfl⟩ := hc
    unfold WfP at hwf
    unfold FitsP FitHd at hft
    unfold cnt at hcn
    obtain ⟨⟨a, b, hkk, htt, hnn, hee, hl, hu, hb1, hb4, _, hm2, htl⟩, hfk⟩ := hft
    have hk : k = 0 ∨ k = 1 ∨ k = 2 ∨ k = 3 ∨ k = 4 ∨ k = 5 ∨ k = 6 ∨ k = 7 ∨ k = 8 ∨ k = 9 ∨ k = 10 := by omega
    rcases hk with rfl | rfl | rfl | rfl | rfl | rfl | rfl | rfl | rfl | rfl | rfl
    · exact putPack_0 0 g n _ kc t e ps K w hF
    · exact putPack_1 0 g n _ kc t e ps K w hF (hb1 rfl)
    · by_cases hn : n < 9223372036854775808
      · exact putPack_2p 0 g n _ kc t e ps K w hF hn
      · exact putPack_2n 0 g n _ kc t e ps K w hF (by omega) hwf.1
    · exact putPack_3 0 g n _ kc t e ps K w hF hwf.1
    · exact putPack_4 0 g n _ kc t e ps K w hF (hb4 rfl)
    · exact putPack_5 0 g n _ kc t e ps K w hF hwf.1
    · exact putPack_6 0 g n _ kc t e ps K w hF htl
    · exact putPack_7 0 g n _ kc t e ps K w hF htl
    · exact putPack_8 N (putPack_all N) g n _ kc t e ps K xs S w hF rfl hm2 hS hgS h3 h4 (fun p hp => by have := sizeOf_mem ps p hp; simp at hsz; omega) hwf.2 hfk hcn
    · exact putPack_9 N (putPack_all N) g n _ kc t e ps K xs S w hF rfl hm2 hS hgS h3 h4 (fun p hp => by have := sizeOf_mem ps p hp; simp at hsz; omega) hwf.2 hfk hcn
    · exact putPack_10 0 g n _ kc t e ps K w hF htl
end Go.Proofs.YtlnpiigdjjadiaaDoor
