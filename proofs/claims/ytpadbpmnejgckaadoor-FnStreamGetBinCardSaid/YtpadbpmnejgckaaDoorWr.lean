/-
  Which bytes are a value of MessagePack, in one of its forms (what spec.PutPack writes). Plain but for the names.
-/
import Derived.Test.YtpadbpmnejgckaaDoorPutE
import Derived.Test.YtpadbpmnejgckaaDoorHead
import Derived.Test.YtpadbpmnejgckaaDoorFits2
import Derived.Test.YtpadbpmnejgckaaDoorFitsP
import Derived.BigGuardPart
namespace Go.Proofs.YtpadbpmnejgckaaDoor
set_option linter.unusedSimpArgs false
set_option linter.unusedVariables false
open Go.RowKit
mutual
def WrP : Pack → List UInt8 → Prop
  | .mk k n t e ks, bs =>
    (k = 0 ∧ bs = [UInt8.ofNat 192]) ∨ (k = 1 ∧ bs = [UInt8.ofNat (194 + n)]) ∨ (k = 2 ∧ 9223372036854775808 ≤ n ∧ negF n bs) ∨ (((k = 2 ∧ n < 9223372036854775808) ∨ k = 3) ∧ posF n bs) ∨
    (k = 4 ∧ bs = UInt8.ofNat 202 :: beL n 4) ∨ (k = 5 ∧ bs = UInt8.ofNat 203 :: beL n 8) ∨
    (k = 6 ∧ ∃ h, HeadIs 6 t.length h ∧ bs = h ++ t) ∨ (k = 7 ∧ ∃ h, HeadIs 7 t.length h ∧ bs = h ++ t) ∨ (k = 10 ∧ ∃ h, extF t.length (UInt8.ofNat (e % 256).toNat) h ∧ bs = h ++ t) ∨
    (k = 8 ∧ ∃ h r, HeadIs 8 ks.length h ∧ WrPs ks r ∧ bs = h ++ r) ∨ (k = 9 ∧ ∃ h r, HeadIs 9 (ks.length / 2) h ∧ WrPs ks r ∧ bs = h ++ r)
def WrPs : List Pack → List UInt8 → Prop
  | [], bs => bs = []
  | p :: ps, bs => ∃ a b, WrP p a ∧ WrPs ps b ∧ bs = a ++ b
end
theorem WrPs_snoc : ∀ (ps : List Pack) (p : Pack) (a b : List UInt8), WrPs ps a → WrP p b → WrPs (ps ++ [p]) (a ++ b)
  | [], p, a, b, ha, hb => by
    unfold WrPs at ha
    subst ha
    simp only [List.nil_append]
    unfold WrPs
    exact ⟨b, [], hb, by unfold WrPs; rfl, by simp⟩
  | q :: ps, p, a, b, ha, hb => by
    unfold WrPs at ha
    obtain ⟨x, y, hx, hy, rfl⟩ := ha
    simp only [List.cons_append]
    unfold WrPs
    exact ⟨x, y ++ b, hx, WrPs_snoc ps p y b hy hb, by simp⟩
theorem HeadOK_len {fixed : Int} {under n : Nat} {fs : List (Nat × Nat)} {h : List UInt8} (hh : HeadOK fixed under n fs h) : 1 ≤ h.length ∧ h.length ≤ 9 := by
  rcases hh with ⟨_, _, rfl⟩ | ⟨f, _, hg, _, rfl⟩
  · simp
  · rw [List.length_cons, beL_len _ _ hg.1]
    have := hg.1
    omega
theorem HeadIs_len {k n : Nat} {h : List UInt8} (hh : HeadIs k n h) : 1 ≤ h.length ∧ h.length ≤ 9 := by
  rcases hh with ⟨_, h⟩ | ⟨_, h⟩ | ⟨_, h⟩ | ⟨_, h⟩ <;> exact HeadOK_len h
theorem negF_len {u : Nat} {h : List UInt8} (hh : negF u h) : 1 ≤ h.length ∧ h.length ≤ 9 := by
  unfold negF at hh
  rcases hh with ⟨_, rfl⟩ | ⟨_, rfl⟩ | ⟨_, rfl⟩ | ⟨_, rfl⟩ | rfl <;> simp [beL]
theorem posF_len {u : Nat} {h : List UInt8} (hh : posF u h) : 1 ≤ h.length ∧ h.length ≤ 9 := by
  unfold posF at hh
  rcases hh with ⟨_, rfl⟩ | ⟨_, rfl⟩ | ⟨_, rfl⟩ | ⟨_, rfl⟩ | rfl | ⟨_, rfl⟩ | ⟨_, rfl⟩ | ⟨_, rfl⟩ | ⟨_, rfl⟩ <;> simp [beL]
theorem extF_len {u : Nat} {b : UInt8} {h : List UInt8} (hh : extF u b h) : 1 ≤ h.length ∧ h.length ≤ 9 := by
  unfold extF at hh
  rcases hh with ⟨_, rfl⟩ | ⟨_, rfl⟩ | ⟨_, rfl⟩ | ⟨_, rfl⟩ | ⟨_, rfl⟩ | ⟨_, rfl⟩ | ⟨_, rfl⟩ | ⟨_, rfl⟩ <;> simp [beL]
mutual
theorem WrP_len : ∀ (p : Pack) (bs : List UInt8), WrP p bs → FitsP p → 1 ≤ bs.length ∧ bs.length ≤ 200000 * cnt p
  | .mk k n t e ks, bs, h, hf => by
    unfold FitsP FitHd at hf
    unfold WrP at h
    unfold cnt
    have ht : t.length ≤ 131072 := hf.1.2.2.2.2.2.2.2.2.2.2.2.2
    have hk := WrPs_len ks
    rcases h with ⟨_, rfl⟩ | ⟨_, rfl⟩ | ⟨_, _, h⟩ | ⟨_, h⟩ | ⟨_, rfl⟩ | ⟨_, rfl⟩ | ⟨_, h, hh, rfl⟩ | ⟨_, h, hh, rfl⟩ | ⟨_, h, hh, rfl⟩ | ⟨_, h, r, hh, hr, rfl⟩ | ⟨_, h, r, hh, hr, rfl⟩
    · simp; omega
    · simp; omega
    · have := negF_len h; omega
    · have := posF_len h; omega
    · simp [beL]; omega
    · simp [beL]; omega
    · have := HeadIs_len hh; simp; omega
    · have := HeadIs_len hh; simp; omega
    · have := extF_len hh; simp; omega
    · have := HeadIs_len hh; have := hk r hr hf.2; simp; omega
    · have := HeadIs_len hh; have := hk r hr hf.2; simp; omega
theorem WrPs_len : ∀ (ps : List Pack) (bs : List UInt8), WrPs ps bs → FitsPs ps → bs.length ≤ 200000 * cnts ps
  | [], bs, h, _ => by
    unfold WrPs at h
    subst h
    simp
  | p :: ps, bs, h, hf => by
    unfold WrPs at h
    unfold FitsPs at hf
    obtain ⟨a, b, ha, hb, rfl⟩ := h
    have h1 := WrP_len p a ha hf.1
    have h2 := WrPs_len ps b hb hf.2
    unfold cnts
    simp
    omega
end
theorem FitsPs_take : ∀ (ps : List Pack) (k : Nat), FitsPs ps → FitsPs (ps.take k)
  | [], k, h => by simp; exact h
  | p :: ps, 0, h => by simp; trivial
  | p :: ps, k + 1, h => by
    unfold FitsPs at h
    simp only [List.take_succ_cons]
    unfold FitsPs
    exact ⟨h.1, FitsPs_take ps k h.2⟩
/-- putHead of texts, bytes, arrays and maps, whatever the length. -/
theorem or_lt16 (f : Int) : True := trivial
theorem mayF_ne {n : Nat} {fs : List (Nat × Nat)} {c : Nat} (hn : n < 4294967296) (h : (c, 4) ∈ fs) : 0 < (mayF n fs).length := by
  refine List.length_pos_of_mem (a := (c, 4)) ?_
  unfold mayF
  rw [List.mem_filter]
  refine ⟨h, ?_⟩
  simp [fitsF]
  omega
theorem goodF_all {fs : List (Nat × Nat)} (h : (fs.all fun f => (f.2 == 1 || f.2 == 2 || f.2 == 4 || f.2 == 8) && decide (f.1 < 256)) = true) : ∀ f ∈ fs, goodF f := by
  intro f hf
  have := List.all_eq_true.1 h f hf
  simp only [Bool.and_eq_true, Bool.or_eq_true, beq_iff_eq, decide_eq_true_eq] at this
  unfold goodF
  exact ⟨by omega, this.2⟩
theorem putHead_6b (g n : Nat) (w : World) (A : Option Addr) (S : Nat → Prop) (hF : FormsAt w g) (hn : n < 4294967296) (hr : Reads w S 2 A 3 (formC [(217, 1), (218, 2), (219, 4)])) (hS : Old w S) :
    Calls Tryd.prog 93 #[.pointer (some ⟨g, 0, none⟩), .int .i64 n, .int .i64 160, .int .i64 32, .slice A 3 3] w (PutH (HeadIs 6 n) g w) := by
  have h : Calls Tryd.prog 93 #[.pointer (some ⟨g, 0, none⟩), .int .i64 n, .int .i64 160, .int .i64 32, .slice A 3 3] w (PutH (HeadOK 160 32 n [(217, 1), (218, 2), (219, 4)]) g w) := by
    by_cases hnu : n < 32
    · exact putHead_fixed g n 32 160 _ A 3 3 S w hF (by omega) (by omega) hnu (by omega) (or160 n hnu) (by omega) rfl hr hS (goodF_all rfl) (by omega)
    · exact putHead_coded g n 32 160 _ A 3 3 S w hF (by omega) (.inr ⟨by omega, by omega⟩) (by omega) rfl hr hS (goodF_all rfl) (by omega) (mayF_ne (c := 219) hn (by simp))
  exact h.mono fun e w' hp => PutH.more hp (Below.refl _ _) fun bs hb => .inr (.inr (.inr ⟨rfl, hb⟩))
theorem putHead_7b (g n : Nat) (w : World) (A : Option Addr) (S : Nat → Prop) (hF : FormsAt w g) (hn : n < 4294967296) (hr : Reads w S 2 A 3 (formC [(196, 1), (197, 2), (198, 4)])) (hS : Old w S) :
    Calls Tryd.prog 93 #[.pointer (some ⟨g, 0, none⟩), .int .i64 n, .int .i64 (-1), .int .i64 0, .slice A 3 3] w (PutH (HeadIs 7 n) g w) := by
  have h : Calls Tryd.prog 93 #[.pointer (some ⟨g, 0, none⟩), .int .i64 n, .int .i64 (-1), .int .i64 0, .slice A 3 3] w (PutH (HeadOK (-1) 0 n [(196, 1), (197, 2), (198, 4)]) g w) :=
    putHead_coded g n 0 (-1) _ A 3 3 S w hF (by omega) (.inl (by omega)) (by omega) rfl hr hS (goodF_all rfl) (by omega) (mayF_ne (c := 198) hn (by simp))
  exact h.mono fun e w' hp => PutH.more hp (Below.refl _ _) fun bs hb => .inr (.inr (.inl ⟨rfl, hb⟩))
theorem putHead_8b (g n : Nat) (w : World) (A : Option Addr) (S : Nat → Prop) (hF : FormsAt w g) (hn : n < 4294967296) (hr : Reads w S 2 A 2 (formC [(220, 2), (221, 4)])) (hS : Old w S) :
    Calls Tryd.prog 93 #[.pointer (some ⟨g, 0, none⟩), .int .i64 n, .int .i64 144, .int .i64 16, .slice A 2 2] w (PutH (HeadIs 8 n) g w) := by
  have h : Calls Tryd.prog 93 #[.pointer (some ⟨g, 0, none⟩), .int .i64 n, .int .i64 144, .int .i64 16, .slice A 2 2] w (PutH (HeadOK 144 16 n [(220, 2), (221, 4)]) g w) := by
    by_cases hnu : n < 16
    · exact putHead_fixed g n 16 144 _ A 2 2 S w hF (by omega) (by omega) hnu (by omega) (or144 n hnu) (by omega) rfl hr hS (goodF_all rfl) (by omega)
    · exact putHead_coded g n 16 144 _ A 2 2 S w hF (by omega) (.inr ⟨by omega, by omega⟩) (by omega) rfl hr hS (goodF_all rfl) (by omega) (mayF_ne (c := 221) hn (by simp))
  exact h.mono fun e w' hp => PutH.more hp (Below.refl _ _) fun bs hb => .inl ⟨rfl, hb⟩
theorem putHead_9b (g n : Nat) (w : World) (A : Option Addr) (S : Nat → Prop) (hF : FormsAt w g) (hn : n < 4294967296) (hr : Reads w S 2 A 2 (formC [(222, 2), (223, 4)])) (hS : Old w S) :
    Calls Tryd.prog 93 #[.pointer (some ⟨g, 0, none⟩), .int .i64 n, .int .i64 128, .int .i64 16, .slice A 2 2] w (PutH (HeadIs 9 n) g w) := by
  have h : Calls Tryd.prog 93 #[.pointer (some ⟨g, 0, none⟩), .int .i64 n, .int .i64 128, .int .i64 16, .slice A 2 2] w (PutH (HeadOK 128 16 n [(222, 2), (223, 4)]) g w) := by
    by_cases hnu : n < 16
    · exact putHead_fixed g n 16 128 _ A 2 2 S w hF (by omega) (by omega) hnu (by omega) (or128 n hnu) (by omega) rfl hr hS (goodF_all rfl) (by omega)
    · exact putHead_coded g n 16 128 _ A 2 2 S w hF (by omega) (.inr ⟨by omega, by omega⟩) (by omega) rfl hr hS (goodF_all rfl) (by omega) (mayF_ne (c := 223) hn (by simp))
  exact h.mono fun e w' hp => PutH.more hp (Below.refl _ _) fun bs hb => .inr (.inl ⟨rfl, hb⟩)
end Go.Proofs.YtpadbpmnejgckaaDoor
