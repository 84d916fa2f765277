/-
  spec's form.headed, sizes, Forms.pick, Forms.putHead: which form is chosen is left open. Conditions: sizes of 1, 2, 4 or 8 bytes.
-/
import Derived.Test.YtpadbpmnejgckaaDoorForms
import Derived.Deep.RegionWith
import Derived.Deep.RegionHeld3
import Derived.BigRegion
import Derived.BigQuiet
import Derived.Deep.QuietTactic
namespace Go.Proofs.YtpadbpmnejgckaaDoor
set_option linter.unusedSimpArgs false
set_option linter.unusedVariables false
open Go.RowKit
theorem own_one {w : World} {base g : Nat} {t : TypeId} {x : Value} (h : Blk w g t #[x]) (hb : base ≤ g) : w.ownsRow base t 1 (.slice (some ⟨g, 0, none⟩) 1 1) 1 [x] :=
  ⟨rfl, .inr ⟨g, 1, #[x], rfl, hb, h, Nat.le_refl _, by unfold maxLen; omega, rfl, rfl⟩⟩
theorem cellc (c : Nat) (h : c < 256) : Value.int .u8 (c : Int) = u8 (UInt8.ofNat c) := by
  simp [u8]
  omega
/-- append of any slice, as one step of a region that draws. -/
theorem step_append_any {P : Program} {ops : Array Oper} {o : Oper} {a : Act} {w : World} {K : Act → World → Prop} {Q : Exit → Act → World → Prop} {E : Prop} {S : Nat → Prop} (hgd : o.guard = none) (s x : Operand) (t : TypeId)
    (ho : o.op = .call { callee := .builtin .append, args := #[s, x], argTypes := #[t, t] })
    (base : Nat) (e : TypeId) (i : TypeInfo) (z : Value) (size bytes : Nat) (ht : P.underlying t = some (.slice e)) (hi : P.info? e = some i) (hz : i.zero = some z)
    (hsize : i.size = size) (hby : i.bytes = bytes) (hzs : z.cells.size = size) (hsz : 0 < size)
    (v : Value) (n : Nat) (xs : List Value) (hs : a.eval s = v) (hown : w.ownsRow base e size v n xs)
    (A : Option Addr) (m c : Nat) (news : List Value) (hx : a.eval x = .slice A m c) (hr : Reads w S size A m news) (h1 : ∀ u ∈ news, u.oneCell' = true)
    (h63 : n + m ≤ maxLen) (hbytes : (n + m) * bytes ≤ 140737488355328) (hbase : base ≤ w.heap.size)
    (h : ∀ v' w', w'.ownsRow base e size v' (n + m) (xs ++ news) → w.grownBy w' v.ownBlock → (v'.ownBlock = v.ownBlock ∨ v'.ownBlock = some w.heap.size) → K (a.put o.dst v') w') :
    if Region.wanted o (yielded ops a.tmps) = true then Oper.wp P o a w K Q else E := by
  have hw : Region.wanted o (yielded ops a.tmps) = true := by simp [Region.wanted, hgd]
  rw [if_pos hw]
  exact wp_append_any w s x t ho base e i z size bytes ht hi hz hsize hby hzs hsz v n xs hs hown A m c news hx hr h1 h63 hbytes hbase h
set_option maxRecDepth 100000 in
set_option maxHeartbeats 3200000 in
theorem headed_any (c s u : Nat) (hs : s = 1 ∨ s = 2 ∨ s = 4 ∨ s = 8) (hc : c < 256) (hu : u < 18446744073709551616) (w : World) :
    Calls Tryd.prog 92 #[.agg #[.int .i64 c, .int .i64 s], .int .u64 u] w fun e w' => ∃ v, e = .returned v ∧ w'.ownsRow w.heap.size 5 1 v (1 + s) ([.int .u8 (c : Int)] ++ (beL u s).map u8) ∧ Below w.heap.size w w' := by
  have hB := fun W => big_any u s hs hu W
  have hs8 : s ≤ 8 := by omega
  clear hs
  have hci : (c : Int) < 256 := by omega
  obtain ⟨i0, hi0, hz0, hz1', hz2⟩ := info_parts infoB
  have HB := hide hB
  clear hB
  go_enter Tryd.func92, Tryd.ntmps92
  go_wp2
  have s0 : (w.alloc (.cells #[.int .i64 c, .int .i64 s] 160)).cell? ⟨w.heap.size, 0, none⟩ = some (.int .i64 c) := by go_simp
  have s1 : (w.alloc (.cells #[.int .i64 c, .int .i64 s] 160)).cell? ⟨w.heap.size, 1, none⟩ = some (.int .i64 s) := by go_simp
  go_region_held3 (fun W => W.cell? ⟨w.heap.size, 0, none⟩ = some (.int .i64 c) ∧ W.cell? ⟨w.heap.size, 1, none⟩ = some (.int .i64 s)) (go_keep)
    (first
    | (go_at_call 131; refine (unhide HB _).mono ?_; rintro e w1 ⟨v, rfl, hown, hbel⟩; obtain ⟨hc1, hf1⟩ := bcell hbel; have q0 : w1.cell? ⟨w.heap.size, 0, none⟩ = some (.int .i64 c) := (hc1 w.heap.size 0 (by first | omega | (simp; omega) | (simp; done))).trans (by go_simp); have q1 : w1.cell? ⟨w.heap.size, 1, none⟩ = some (.int .i64 s) := (hc1 w.heap.size 1 (by first | omega | (simp; omega) | (simp; done))).trans (by go_simp); clear hc1 hf1; obtain ⟨A1, cv1, rfl, hcv1, hcm1, hr1⟩ := own_slice hown; have HO := hide hown; have HB1 := hide hbel; have HR1 := hide hr1; have hz1 : w.heap.size + 1 ≤ w1.heap.size := Nat.le_trans (by first | omega | (simp; omega) | (simp; done)) hbel.size; clear hown hbel hr1)
    | (refine step_append_any (S := fun b => w.heap.size + 1 ≤ b ∧ b < w1.heap.size) rfl (.tmp 8) (.tmp 12) 26 rfl w.heap.size 5 i0 _ 1 1 Tryd.underlying26 hi0 hz0 hz1' hz2 rfl (by omega) (.slice (some ⟨w.heap.size + 1, 0, none⟩) 1 1) 1 [.int .u8 (IntKind.u8.wrap (c : Int))] ?a1 ?a2 A1 s cv1 ((beL u s).map u8) ?a3 ?a4 (u8_one _) (by unfold maxLen; omega) (by omega) ?a5 ?_; (case a1 => simp [Act.eval, Act.put]; done); (case a2 => exact own_one (Blk.below (Blk.drew (Blk.new2 (by simp))) (unhide HB1) (by first | omega | (simp; omega) | (simp; done))) (by omega)); (case a3 => simp [Act.eval, Act.put]; done); (case a4 => exact (unhide HR1).sub (fun b hb => ⟨by have := hb.1; simp at this; omega, hb.2⟩)); (case a5 => first | omega | (simp; omega)); intro v' w' hown' hgr hat; have gq := hgr.block w.heap.size (by first | omega | (simp; omega)) (by simp [Value.ownBlock] <;> omega); have q2 : w'.cell? ⟨w.heap.size, 0, none⟩ = some (.int .i64 c) := (World.cell?_of_block gq).trans (by go_simp); have q3 : w'.cell? ⟨w.heap.size, 1, none⟩ = some (.int .i64 s) := (World.cell?_of_block gq).trans (by go_simp); clear gq; have HO2 := hide hown'; have HG2 := hide hgr; clear hown' hgr hat hi0 hz0 hz1' hz2)
    | (refine step_append_any (S := fun b => w.heap.size + 1 ≤ b ∧ b < w1.heap.size) rfl (.tmp 8) (.tmp 12) 26 rfl w.heap.size 5 i0 _ 1 1 Tryd.underlying26 hi0 hz0 hz1' hz2 rfl (by omega) (.slice (some ⟨w1.heap.size, 0, none⟩) 1 1) 1 [.int .u8 (IntKind.u8.wrap (c : Int))] ?a1 ?a2 A1 s cv1 ((beL u s).map u8) ?a3 ?a4 (u8_one _) (by unfold maxLen; omega) (by omega) ?a5 ?_; (case a1 => simp [Act.eval, Act.put]; done); (case a2 => exact own_one (Blk.new2 rfl) (by omega)); (case a3 => simp [Act.eval, Act.put]; done); (case a4 => exact ((unhide HR1).keep (stays_alloc (fun b hb => hb.2) (Stays.refl _ _) _)).sub (fun b hb => ⟨by have := hb.1; simp at this; omega, hb.2⟩)); (case a5 => first | omega | (simp; omega)); intro v' w' hown' hgr hat; have gq := hgr.block w.heap.size (by first | omega | (simp; omega)) (by simp [Value.ownBlock] <;> omega); have q2 : w'.cell? ⟨w.heap.size, 0, none⟩ = some (.int .i64 c) := (World.cell?_of_block gq).trans (by go_simp); have q3 : w'.cell? ⟨w.heap.size, 1, none⟩ = some (.int .i64 s) := (World.cell?_of_block gq).trans (by go_simp); clear gq; have HO2 := hide hown'; have HG2 := hide hgr; clear hown' hgr hat hi0 hz0 hz1' hz2))
  all_goals (
    go_wp2
    go_ret
    refine ⟨_, rfl, by have h := unhide HO2; rwa [show IntKind.u8.wrap (c : Int) = (c : Int) by simp [IntKind.wrap, IntKind.bits, IntKind.signed]; omega] at h, ?_⟩
    first
    | exact (((((Below.refl w.heap.size w).alloc (Nat.le_refl _) _).alloc (by first | omega | (simp; omega) | (simp; done)) _).drew).trans ((unhide HB1).mono (by first | omega | (simp; omega) | (simp; done)))).grown (unhide HG2) (by first | omega | (simp; omega)) (fun k hk => by simp [Value.ownBlock] at hk; omega)
    | exact (((((Below.refl w.heap.size w).alloc (Nat.le_refl _) _).drew).trans ((unhide HB1).mono (by first | omega | (simp; omega) | (simp; done)))).alloc (by omega) _).grown (unhide HG2) (by first | omega | (simp; omega)) (fun k hk => by simp [Value.ownBlock] at hk; omega))
/-- The Forms behind a pointer: block g. -/
def FormsAt (w : World) (g : Nat) : Prop := ∃ (st : Nat) (b : Bool), st < 18446744073709551616 ∧ Blk w g 108 #[.int .u64 st, .bool b]
theorem FormsAt.lt {w : World} {g : Nat} (h : FormsAt w g) : g < w.heap.size := by
  obtain ⟨_, _, _, h⟩ := h
  exact h.lt
theorem FormsAt.below {w w' : World} {g B : Nat} (h : FormsAt w g) (hb : Below B w w') (hg : g < B) : FormsAt w' g := by
  obtain ⟨st, b, h1, h2⟩ := h
  exact ⟨st, b, h1, h2.below hb hg⟩
/-- What Forms.pick answers: a number below n, or 0. -/
def Picked (g n : Nat) (w : World) (e : Ending) (w' : World) : Prop := ∃ k : Nat, (k = 0 ∨ k < n) ∧ e = .returned (.int .i64 k) ∧ w.grownBy w' (some g) ∧ w'.heap.size = w.heap.size ∧ FormsAt w' g
set_option maxHeartbeats 1600000 in
theorem pick_any (g n : Nat) (hn : n ≤ 100000) (w : World) (h : FormsAt w g) :
    Calls Tryd.prog 132 #[.pointer (some ⟨g, 0, none⟩), .int .i64 n] w (Picked g n w) := by
  obtain ⟨st, b, hst, hb⟩ := h
  have c0 := hb.cell 0
  have c1 := hb.cell 1
  have f0 := hb.frozen 0
  simp only [List.getElem?_toArray, List.getElem?_cons_zero, List.getElem?_cons_succ] at c0 c1
  have HBK := hide hb
  clear hb
  rcases b with _ | _
  · by_cases h1 : n ≤ 1
    · have h2 : (n : Int) ≤ 1 := by omega
      go_enter Tryd.func132, Tryd.ntmps132
      go_wp2
      go_ret
      exact ⟨0, .inl rfl, rfl, World.grownBy.refl _ _, rfl, ⟨st, false, hst, unhide HBK⟩⟩
    · have h2 : ¬ (n : Int) ≤ 1 := by omega
      have h3 : ((n : Int) == 0) = false := by simp; omega
      obtain ⟨y, hy⟩ : ∃ y, y = IntKind.u64.wrap (IntKind.u64.wrap ((st : Int) * 6364136223846793005) + 1442695040888963407) := ⟨_, rfl⟩
      have hy0 : 0 ≤ y ∧ y ≤ 18446744073709551615 := by
        rw [hy]
        simp [IntKind.wrap, IntKind.bits, IntKind.signed]
        omega
      have hm0 : 0 ≤ y / 8589934592 % (n : Int) := Int.emod_nonneg _ (by omega)
      have hm1 : y / 8589934592 % (n : Int) < n := Int.emod_lt_of_pos _ (by omega)
      have hb0 : 0 ≤ IntKind.u64.wrap (IntKind.u64.wrap ((st : Int) * 6364136223846793005) + 1442695040888963407) := by rw [← hy]; exact hy0.1
      have hb1 : IntKind.u64.wrap (IntKind.u64.wrap ((st : Int) * 6364136223846793005) + 1442695040888963407) ≤ 18446744073709551615 := by rw [← hy]; exact hy0.2
      have HY := hide hy
      have HM := hide (And.intro hm0 hm1)
      have HY0 := hide hy0
      clear hy hm0 hm1 hy0
      go_enter Tryd.func132, Tryd.ntmps132
      go_wp2
      go_ret
      rw [← unhide HY]
      have hm := unhide HM
      have hy0 := unhide HY0
      refine ⟨(y / 8589934592 % (n : Int)).toNat, .inr (by omega), ?_, grown_setCell (World.grownBy.refl _ _) 0 _, by simp, ⟨y.toNat, false, by omega, ?_⟩⟩
      · rw [Int.toNat_of_nonneg hm.1]
        rfl
      · have h := (unhide HBK).set_ 0 (.int .u64 y)
        rw [Int.toNat_of_nonneg hy0.1]
        exact h
  · go_enter Tryd.func132, Tryd.ntmps132
    go_wp2
    go_ret
    exact ⟨0, .inl rfl, rfl, World.grownBy.refl _ _, rfl, ⟨st, true, hst, unhide HBK⟩⟩
end Go.Proofs.YtpadbpmnejgckaaDoor
