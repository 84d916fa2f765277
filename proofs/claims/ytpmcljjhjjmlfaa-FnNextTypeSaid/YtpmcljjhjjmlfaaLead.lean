/-
  Plain: the lead byte of a written value tells its kind. And words for the walks of the laws over laws.Given.
-/
import Derived.Test.YtpmcljjhjjmlfaaWr
import Derived.Test.YtpmcljjhjjmlfaaData
import Derived.Test.YtpmcljjhjjmlfaaGetV
namespace Go.Proofs.Ytpmcljjhjjmlfaa
set_option linter.unusedSimpArgs false
set_option linter.unusedVariables false
open Go.RowKit
/-- The kind that a lead byte tells; integers of either kind: 3; none: 11. -/
def kindB (b : Nat) : Int :=
  if b < 128 then 3 else if b < 144 then 9 else if b < 160 then 8 else if b < 192 then 6 else if b = 192 then 0 else if b = 193 then 11 else if b < 196 then 1 else if b < 199 then 7 else if b < 202 then 10 else if b = 202 then 4 else
  if b = 203 then 5 else if b < 212 then 3 else if b < 217 then 10 else if b < 220 then 6 else if b < 222 then 8 else if b < 224 then 9 else 3
def kindI (k : Int) : Int := if k = 2 then 3 else k
theorem headOK_lead {fixed : Int} {under n : Nat} {fs : List (Nat × Nat)} {h : List UInt8} {k : Int} (hh : HeadOK fixed under n fs h) (hf : 0 ≤ fixed → n < under → kindB (UInt8.ofNat (fixed.toNat + n)).toNat = k) (hs : ∀ f ∈ fs, kindB (UInt8.ofNat f.1).toNat = k) :
    ∃ b r, h = b :: r ∧ kindB b.toNat = k := by
  rcases hh with ⟨h0, hu, rfl⟩ | ⟨f, hm, _, _, rfl⟩
  · exact ⟨_, _, rfl, hf h0 hu⟩
  · exact ⟨_, _, rfl, hs f hm⟩
theorem small_nat (a n : Nat) (h : a + n < 256) : (UInt8.ofNat (a + n)).toNat = a + n := by simp; omega
theorem headIs_lead {k n : Nat} {h : List UInt8} (hh : HeadIs k n h) : ∃ b r, h = b :: r ∧ kindB b.toNat = k := by
  rcases hh with ⟨rfl, h⟩ | ⟨rfl, h⟩ | ⟨rfl, h⟩ | ⟨rfl, h⟩
  · refine headOK_lead h (fun _ hu => ?_) (by decide)
    rw [show ((144 : Int).toNat) = 144 from rfl, small_nat 144 n (by omega)]
    unfold kindB
    rw [if_neg (by omega), if_neg (by omega), if_pos (by omega)]
    rfl
  · refine headOK_lead h (fun _ hu => ?_) (by decide)
    rw [show ((128 : Int).toNat) = 128 from rfl, small_nat 128 n (by omega)]
    unfold kindB
    rw [if_neg (by omega), if_pos (by omega)]
    rfl
  · exact headOK_lead h (fun h _ => absurd h (by omega)) (by decide)
  · refine headOK_lead h (fun _ hu => ?_) (by decide)
    rw [show ((160 : Int).toNat) = 160 from rfl, small_nat 160 n (by omega)]
    unfold kindB
    rw [if_neg (by omega), if_neg (by omega), if_neg (by omega), if_pos (by omega)]
    rfl
theorem lo_lead {u : Nat} (h : u < 128) : kindB (UInt8.ofNat u).toNat = 3 := by
  have : (UInt8.ofNat u).toNat = u := by simp; omega
  rw [this]
  unfold kindB
  rw [if_pos h]
theorem hi_lead {u : Nat} (h : 18446744073709551584 ≤ u) (h2 : u < 18446744073709551616) : kindB (UInt8.ofNat u).toNat = 3 := by
  have e : (UInt8.ofNat u).toNat = u % 256 := by simp
  have h3 : 224 ≤ u % 256 := by omega
  rw [e]
  unfold kindB
  have h4 : u % 256 < 256 := by omega
  rw [if_neg (by omega), if_neg (by omega), if_neg (by omega), if_neg (by omega), if_neg (by omega), if_neg (by omega), if_neg (by omega), if_neg (by omega), if_neg (by omega), if_neg (by omega), if_neg (by omega), if_neg (by omega), if_neg (by omega), if_neg (by omega), if_neg (by omega), if_neg (by omega)]
theorem negF_lead {u : Nat} {h : List UInt8} (hh : negF u h) (hu : u < 18446744073709551616) : ∃ b r, h = b :: r ∧ kindB b.toNat = 3 := by
  unfold negF at hh
  rcases hh with ⟨h1, rfl⟩ | ⟨_, rfl⟩ | ⟨_, rfl⟩ | ⟨_, rfl⟩ | rfl
  · exact ⟨_, _, rfl, hi_lead h1 hu⟩
  all_goals exact ⟨_, _, rfl, by decide⟩
theorem posF_lead {u : Nat} {h : List UInt8} (hh : posF u h) : ∃ b r, h = b :: r ∧ kindB b.toNat = 3 := by
  unfold posF at hh
  rcases hh with ⟨h1, rfl⟩ | ⟨_, rfl⟩ | ⟨_, rfl⟩ | ⟨_, rfl⟩ | rfl | ⟨_, rfl⟩ | ⟨_, rfl⟩ | ⟨_, rfl⟩ | ⟨_, rfl⟩
  · exact ⟨_, _, rfl, lo_lead h1⟩
  all_goals exact ⟨_, _, rfl, by decide⟩
theorem extF_lead {u : Nat} {kb : UInt8} {h : List UInt8} (hh : extF u kb h) : ∃ b r, h = b :: r ∧ kindB b.toNat = 10 := by
  unfold extF at hh
  rcases hh with ⟨_, rfl⟩ | ⟨_, rfl⟩ | ⟨_, rfl⟩ | ⟨_, rfl⟩ | ⟨_, rfl⟩ | ⟨_, rfl⟩ | ⟨_, rfl⟩ | ⟨_, rfl⟩
  all_goals exact ⟨_, _, rfl, by decide⟩
theorem app_lead {h t : List UInt8} {k : Int} (hh : ∃ b r, h = b :: r ∧ kindB b.toNat = k) : ∃ b r, h ++ t = b :: r ∧ kindB b.toNat = k := by
  obtain ⟨b, r, rfl, hk⟩ := hh
  exact ⟨b, r ++ t, rfl, hk⟩
theorem WrP_lead {k : Int} {n : Nat} {t : List UInt8} {e : Int} {ks : List Pack} {bs : List UInt8} (h : WrP (.mk k n t e ks) bs) (hf : FitsP (.mk k n t e ks)) (hw : WfP (.mk k n t e ks)) : ∃ b r, bs = b :: r ∧ kindB b.toNat = kindI k := by
  unfold FitsP FitHd at hf
  unfold WfP at hw
  unfold WrP at h
  have hb1 := hf.1.2.2.2.2.2.2.2.2.1
  rcases h with ⟨rfl, rfl⟩ | ⟨rfl, rfl⟩ | ⟨rfl, _, h⟩ | ⟨hk, h⟩ | ⟨rfl, rfl⟩ | ⟨rfl, rfl⟩ | ⟨rfl, h, hh, rfl⟩ | ⟨rfl, h, hh, rfl⟩ | ⟨rfl, h, hh, rfl⟩ | ⟨rfl, h, r, hh, hr, rfl⟩ | ⟨rfl, h, r, hh, hr, rfl⟩
  · exact ⟨_, _, rfl, by decide⟩
  · have hn : n = 0 ∨ n = 1 := by have := hb1 rfl; omega
    rcases hn with rfl | rfl
    · exact ⟨_, _, rfl, by decide⟩
    · exact ⟨_, _, rfl, by decide⟩
  · exact negF_lead h hw.1
  · have : kindI k = 3 := by unfold kindI; rcases hk with ⟨rfl, _⟩ | rfl <;> decide
    rw [this]
    exact posF_lead h
  · exact ⟨_, _, rfl, by decide⟩
  · exact ⟨_, _, rfl, by decide⟩
  · exact app_lead (headIs_lead hh)
  · exact app_lead (headIs_lead hh)
  · exact app_lead (extF_lead hh)
  · exact app_lead (headIs_lead hh)
  · exact app_lead (headIs_lead hh)
theorem given_pack {w : World} {S : Nat → Prop} {p : Pack} {k n : Int} {T : ByteArray} {e : Int} {K : Option Addr} {m kc : Nat} (h : PackC w S p [.int .i64 k, .int .u64 n, .string T, .int .i64 e, .slice K m kc]) :
    ∃ num t ps, p = .mk k num t e ps ∧ n = (num : Nat) ∧ T = ⟨t.toArray⟩ ∧ m = ps.length := by
  cases p with
  | mk k n t e ps =>
  unfold PackC at h
  obtain ⟨K, kc, xs, hc, _⟩ := h
  simp only [List.cons.injEq, and_true, Value.int.injEq, true_and, Value.string.injEq, Value.slice.injEq] at hc
  obtain ⟨rfl, rfl, rfl, rfl, rfl, rfl, rfl⟩ := hc
  exact ⟨_, _, _, rfl, rfl, rfl, rfl⟩
theorem one_rb (w : World) (b : UInt8) : RB (w.alloc (.cells #[u8 b] 5)) (Lt (w.heap.size + 1)) (some ⟨w.heap.size, 0, none⟩) [b] :=
  reads_blk (S := Lt (w.heap.size + 1)) (t := 5) (cs := #[u8 b]) (Blk.new _ _ _) (Nat.lt_succ_self _) 1 1 rfl
theorem old_one (w : World) (o : Obj) : Old (w.alloc o) (Lt (w.heap.size + 1)) := fun b hb => by simp [Lt] at hb ⊢; omega
/-- The law has answered true, and nothing that was there has turned. -/
def TrueR (w : World) (e : Ending) (w' : World) : Prop := e = .returned (.bool true) ∧ Below w.heap.size w w'
end Go.Proofs.Ytpmcljjhjjmlfaa
