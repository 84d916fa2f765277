/-
  Lemmas, 4 texts in one: Forms2, Forms3, Forms4, Head. Each says its conditions.
-/
import Derived.Test.YtlnpiigdjjadiaaDoorGGetSetByted
import Derived.Deep.RegionWith
import Derived.Deep.RegionHeld3
import Derived.BigRegion
import Derived.BigQuiet
import Derived.Deep.QuietTactic

/-
  spec's form.headed, sizes, Forms.pick, Forms.putHead: which form is chosen is left open. Conditions: sizes of 1, 2, 4 or 8 bytes.
-/
namespace Go.Proofs.YtlnpiigdjjadiaaDoor
set_option linter.unusedSimpArgs false
set_option linter.unusedVariables false
open Go.RowKit
theorem own_one {w : World} {base g : Nat} {t : TypeId} {x : Value} (h : Blk w g t #[x]) (hb : base ≤ g) : w.ownsRow base t 1 (.slice (some ⟨g, 0, none⟩) 1 1) 1 [x] :=
  ⟨rfl, .inr ⟨g, 1, #[x], rfl, hb, h, Nat.le_refl _, by unfold maxLen; omega, rfl, rfl⟩⟩
theorem cellc (c : Nat) (h : c < 256) : Value.int .u8 (c : Int) = u8 (UInt8.ofNat c) := by
  simp [u8]
  omega
/-- append of any slice, as one step of a region that draws. -/
theorem step_append_any {P : Program} {ops : Array Oper} {o : Oper} {a : Act} {w : World} {K : Act → World → Prop} {Q : Exit → Act → World → Prop} {E : Prop} {S : Nat → Prop} (hgd : o.guard = none) (s x : Operand) (t : TypeId)
    (ho : o.op = .call { callee := .builtin .append, args := #[s, x], argTypes := #[t, t] })
    (base : Nat) (e : TypeId) (i : TypeInfo) (z : Value) (size bytes : Nat) (ht : P.underlying t = some (.slice e)) (hi : P.info? e = some i) (hz : i.zero = some z)
    (hsize : i.size = size) (hby : i.bytes = bytes) (hzs : z.cells.size = size) (hsz : 0 < size)
    (v : Value) (n : Nat) (xs : List Value) (hs : a.eval s = v) (hown : w.ownsRow base e size v n xs)
    (A : Option Addr) (m c : Nat) (news : List Value) (hx : a.eval x = .slice A m c) (hr : Reads w S size A m news) (h1 : ∀ u ∈ news, u.oneCell' = true)
    (h63 : n + m ≤ maxLen) (hbytes : (n + m) * bytes ≤ 140737488355328) (hbase : base ≤ w.heap.size)
    (h : ∀ v' w', w'.ownsRow base e size v' (n + m) (xs ++ news) → w.grownBy w' v.ownBlock → (v'.ownBlock = v.ownBlock ∨ v'.ownBlock = some w.heap.size) → K (a.put o.dst v') w') :
    if Region.wanted o (yielded ops a.tmps) = true then Oper.wp P o a w K Q else E := by
  have hw : Region.wanted o (yielded ops a.tmps) = true := by simp [Region.wanted, hgd]
  rw [if_pos hw]
  exact wp_append_any w s x t ho base e i z size bytes ht hi hz hsize hby hzs hsz v n xs hs hown A m c news hx hr h1 h63 hbytes hbase h
set_option maxRecDepth 100000 in
set_option maxHeartbeats 3200000 in
theorem headed_any (c s u : Nat) (hs : s = 1 ∨ s = 2 ∨ s = 4 ∨ s = 8) (hc : c < 256) (hu : u < 18446744073709551616) (w : World) :
    Calls Tryd.prog 29 #[.agg #[.int .i64 c, .int .i64 s], .int .u64 u] w fun e w' => ∃ v, e = .returned v ∧ w'.ownsRow w.heap.size 5 1 v (1 + s) ([.int .u8 (c : Int)] ++ (beL u s).map u8) ∧ Below w.heap.size w w' := by
  have hB := fun W => big_any u s hs hu W
  have hs8 : s ≤ 8 := by omega
  clear hs
  have hci : (c : Int) < 256 := by omega
  obtain ⟨i0, hi0, hz0, hz1', hz2⟩ := info_parts infoB
  have HB := hide hB
  clear hB
  go_enter Tryd.func29, Tryd.ntmps29
  go_wp2
  have s0 : (w.alloc (.cells #[.int .i64 c, .int .i64 s] 68)).cell? ⟨w.heap.size, 0, none⟩ = some (.int .i64 c) := by go_simp
  have s1 : (w.alloc (.cells #[.int .i64 c, .int .i64 s] 68)).cell? ⟨w.heap.size, 1, none⟩ = some (.int .i64 s) := by go_simp
  go_region_held3 (fun W => W.cell? ⟨w.heap.size, 0, none⟩ = some (.int .i64 c) ∧ W.cell? ⟨w.heap.size, 1, none⟩ = some (.int .i64 s)) (go_keep)
    (first
    | (go_at_call 44; refine (unhide HB _).mono ?_; rintro e w1 ⟨v, rfl, hown, hbel⟩; obtain ⟨hc1, hf1⟩ := bcell hbel; have q0 : w1.cell? ⟨w.heap.size, 0, none⟩ = some (.int .i64 c) := (hc1 w.heap.size 0 (by first | omega | (simp; omega) | (simp; done))).trans (by go_simp); have q1 : w1.cell? ⟨w.heap.size, 1, none⟩ = some (.int .i64 s) := (hc1 w.heap.size 1 (by first | omega | (simp; omega) | (simp; done))).trans (by go_simp); clear hc1 hf1; obtain ⟨A1, cv1, rfl, hcv1, hcm1, hr1⟩ := own_slice hown; have HO := hide hown; have HB1 := hide hbel; have HR1 := hide hr1; have hz1 : w.heap.size + 1 ≤ w1.heap.size := Nat.le_trans (by first | omega | (simp; omega) | (simp; done)) hbel.size; clear hown hbel hr1)
    | (refine step_append_any (S := fun b => w.heap.size + 1 ≤ b ∧ b < w1.heap.size) rfl (.tmp 8) (.tmp 12) 24 rfl w.heap.size 5 i0 _ 1 1 Tryd.underlying24 hi0 hz0 hz1' hz2 rfl (by omega) (.slice (some ⟨w.heap.size + 1, 0, none⟩) 1 1) 1 [.int .u8 (IntKind.u8.wrap (c : Int))] ?a1 ?a2 A1 s cv1 ((beL u s).map u8) ?a3 ?a4 (u8_one _) (by unfold maxLen; omega) (by omega) ?a5 ?_; (case a1 => simp [Act.eval, Act.put]; done); (case a2 => exact own_one (Blk.below (Blk.drew (Blk.new2 (by simp))) (unhide HB1) (by first | omega | (simp; omega) | (simp; done))) (by omega)); (case a3 => simp [Act.eval, Act.put]; done); (case a4 => exact (unhide HR1).sub (fun b hb => ⟨by have := hb.1; simp at this; omega, hb.2⟩)); (case a5 => first | omega | (simp; omega)); intro v' w' hown' hgr hat; have gq := hgr.block w.heap.size (by first | omega | (simp; omega)) (by simp [Value.ownBlock] <;> omega); have q2 : w'.cell? ⟨w.heap.size, 0, none⟩ = some (.int .i64 c) := (World.cell?_of_block gq).trans (by go_simp); have q3 : w'.cell? ⟨w.heap.size, 1, none⟩ = some (.int .i64 s) := (World.cell?_of_block gq).trans (by go_simp); clear gq; have HO2 := hide hown'; have HG2 := hide hgr; clear hown' hgr hat hi0 hz0 hz1' hz2)
    | (refine step_append_any (S := fun b => w.heap.size + 1 ≤ b ∧ b < w1.heap.size) rfl (.tmp 8) (.tmp 12) 24 rfl w.heap.size 5 i0 _ 1 1 Tryd.underlying24 hi0 hz0 hz1' hz2 rfl (by omega) (.slice (some ⟨w1.heap.size, 0, none⟩) 1 1) 1 [.int .u8 (IntKind.u8.wrap (c : Int))] ?a1 ?a2 A1 s cv1 ((beL u s).map u8) ?a3 ?a4 (u8_one _) (by unfold maxLen; omega) (by omega) ?a5 ?_; (case a1 => simp [Act.eval, Act.put]; done); (case a2 => exact own_one (Blk.new2 rfl) (by omega)); (case a3 => simp [Act.eval, Act.put]; done); (case a4 => exact ((unhide HR1).keep (stays_alloc (fun b hb => hb.2) (Stays.refl _ _) _)).sub (fun b hb => ⟨by have := hb.1; simp at this; omega, hb.2⟩)); (case a5 => first | omega | (simp; omega)); intro v' w' hown' hgr hat; have gq := hgr.block w.heap.size (by first | omega | (simp; omega)) (by simp [Value.ownBlock] <;> omega); have q2 : w'.cell? ⟨w.heap.size, 0, none⟩ = some (.int .i64 c) := (World.cell?_of_block gq).trans (by go_simp); have q3 : w'.cell? ⟨w.heap.size, 1, none⟩ = some (.int .i64 s) := (World.cell?_of_block gq).trans (by go_simp); clear gq; have HO2 := hide hown'; have HG2 := hide hgr; clear hown' hgr hat hi0 hz0 hz1' hz2))
  all_goals (
    go_wp2
    go_ret
    refine ⟨_, rfl, by have h := unhide HO2; rwa [show IntKind.u8.wrap (c : Int) = (c : Int) by simp [IntKind.wrap, IntKind.bits, IntKind.signed]; omega] at h, ?_⟩
    first
    | exact (((((Below.refl w.heap.size w).alloc (Nat.le_refl _) _).alloc (by first | omega | (simp; omega) | (simp; done)) _).drew).trans ((unhide HB1).mono (by first | omega | (simp; omega) | (simp; done)))).grown (unhide HG2) (by first | omega | (simp; omega)) (fun k hk => by simp [Value.ownBlock] at hk; omega)
    | exact (((((Below.refl w.heap.size w).alloc (Nat.le_refl _) _).drew).trans ((unhide HB1).mono (by first | omega | (simp; omega) | (simp; done)))).alloc (by omega) _).grown (unhide HG2) (by first | omega | (simp; omega)) (fun k hk => by simp [Value.ownBlock] at hk; omega))
/-- The Forms behind a pointer: block g. -/
def FormsAt (w : World) (g : Nat) : Prop := ∃ (st : Nat) (b : Bool), st < 18446744073709551616 ∧ Blk w g 33 #[.int .u64 st, .bool b]
theorem FormsAt.lt {w : World} {g : Nat} (h : FormsAt w g) : g < w.heap.size := by
  obtain ⟨_, _, _, h⟩ := h
  exact h.lt
theorem FormsAt.below {w w' : World} {g B : Nat} (h : FormsAt w g) (hb : Below B w w') (hg : g < B) : FormsAt w' g := by
  obtain ⟨st, b, h1, h2⟩ := h
  exact ⟨st, b, h1, h2.below hb hg⟩
/-- What Forms.pick answers: a number below n, or 0. -/
def Picked (g n : Nat) (w : World) (e : Ending) (w' : World) : Prop := ∃ k : Nat, (k = 0 ∨ k < n) ∧ e = .returned (.int .i64 k) ∧ w.grownBy w' (some g) ∧ w'.heap.size = w.heap.size ∧ FormsAt w' g
set_option maxHeartbeats 1600000 in
theorem pick_any (g n : Nat) (hn : n ≤ 100000) (w : World) (h : FormsAt w g) :
    Calls Tryd.prog 45 #[.pointer (some ⟨g, 0, none⟩), .int .i64 n] w (Picked g n w) := by
  obtain ⟨st, b, hst, hb⟩ := h
  have c0 := hb.cell 0
  have c1 := hb.cell 1
  have f0 := hb.frozen 0
  simp only [List.getElem?_toArray, List.getElem?_cons_zero, List.getElem?_cons_succ] at c0 c1
  have HBK := hide hb
  clear hb
  rcases b with _ | _
  · by_cases h1 : n ≤ 1
    · have h2 : (n : Int) ≤ 1 := by omega
      go_enter Tryd.func45, Tryd.ntmps45
      go_wp2
      go_ret
      exact ⟨0, .inl rfl, rfl, World.grownBy.refl _ _, rfl, ⟨st, false, hst, unhide HBK⟩⟩
    · have h2 : ¬ (n : Int) ≤ 1 := by omega
      have h3 : ((n : Int) == 0) = false := by simp; omega
      obtain ⟨y, hy⟩ : ∃ y, y = IntKind.u64.wrap (IntKind.u64.wrap ((st : Int) * 6364136223846793005) + 1442695040888963407) := ⟨_, rfl⟩
      have hy0 : 0 ≤ y ∧ y ≤ 18446744073709551615 := by
        rw [hy]
        simp [IntKind.wrap, IntKind.bits, IntKind.signed]
        omega
      have hm0 : 0 ≤ y / 8589934592 % (n : Int) := Int.emod_nonneg _ (by omega)
      have hm1 : y / 8589934592 % (n : Int) < n := Int.emod_lt_of_pos _ (by omega)
      have hb0 : 0 ≤ IntKind.u64.wrap (IntKind.u64.wrap ((st : Int) * 6364136223846793005) + 1442695040888963407) := by rw [← hy]; exact hy0.1
      have hb1 : IntKind.u64.wrap (IntKind.u64.wrap ((st : Int) * 6364136223846793005) + 1442695040888963407) ≤ 18446744073709551615 := by rw [← hy]; exact hy0.2
      have HY := hide hy
      have HM := hide (And.intro hm0 hm1)
      have HY0 := hide hy0
      clear hy hm0 hm1 hy0
      go_enter Tryd.func45, Tryd.ntmps45
      go_wp2
      go_ret
      rw [← unhide HY]
      have hm := unhide HM
      have hy0 := unhide HY0
      refine ⟨(y / 8589934592 % (n : Int)).toNat, .inr (by omega), ?_, grown_setCell (World.grownBy.refl _ _) 0 _, by simp, ⟨y.toNat, false, by omega, ?_⟩⟩
      · rw [Int.toNat_of_nonneg hm.1]
        rfl
      · have h := (unhide HBK).set_ 0 (.int .u64 y)
        rw [Int.toNat_of_nonneg hy0.1]
        exact h
  · go_enter Tryd.func45, Tryd.ntmps45
    go_wp2
    go_ret
    exact ⟨0, .inl rfl, rfl, World.grownBy.refl _ _, rfl, ⟨st, true, hst, unhide HBK⟩⟩
end Go.Proofs.YtlnpiigdjjadiaaDoor

/-
  spec.sizes, Forms.putHead: which form is chosen is left open. Conditions: sizes of 1, 2, 4 or 8 bytes.
-/
namespace Go.Proofs.YtlnpiigdjjadiaaDoor
set_option linter.unusedSimpArgs false
set_option linter.unusedVariables false
open Go.RowKit
theorem infoForm : (Tryd.prog.info? 68).map (fun i => (i.zero, i.size, i.bytes)) = some (some (.agg #[.int .i64 0, .int .i64 0]), 2, 16) := by kernel_rfl
/-- Forms as cells: code and size. -/
def formC (fs : List (Nat × Nat)) : List Value := fs.flatMap fun f => [.int .i64 (f.1 : Int), .int .i64 (f.2 : Int)]
theorem formC_len : ∀ fs : List (Nat × Nat), (formC fs).length = fs.length * 2
  | [] => rfl
  | f :: r => by
    show ([_, _] ++ formC r).length = _
    rw [List.length_append, formC_len r]
    simp
    omega
theorem formC_snoc (fs : List (Nat × Nat)) (f : Nat × Nat) : formC (fs ++ [f]) = formC fs ++ [.int .i64 (f.1 : Int), .int .i64 (f.2 : Int)] := by simp [formC]
theorem formC_at : ∀ (fs : List (Nat × Nat)) (k : Nat) (h : k < fs.length), (formC fs)[k * 2]? = some (.int .i64 (fs[k].1 : Int)) ∧ (formC fs)[k * 2 + 1]? = some (.int .i64 (fs[k].2 : Int))
  | [], k, h => absurd h (by simp)
  | f :: r, 0, _ => ⟨rfl, rfl⟩
  | f :: r, k + 1, h => by
    have h1 := formC_at r k (by simpa using h)
    show ([_, _] ++ formC r)[(k + 1) * 2]? = _ ∧ ([_, _] ++ formC r)[(k + 1) * 2 + 1]? = _
    rw [List.getElem?_append_right (by simp; omega), List.getElem?_append_right (by simp; omega)]
    simp only [List.length_cons, List.length_nil, List.getElem_cons_succ]
    rw [show (k + 1) * 2 - (0 + 1 + 1) = k * 2 by omega, show (k + 1) * 2 + 1 - (0 + 1 + 1) = k * 2 + 1 by omega]
    exact h1
/-- The cells of form k of a slice of forms. -/
theorem form_at {w : World} {S : Nat → Prop} {A : Option Addr} {n : Nat} {fs : List (Nat × Nat)} (h : Reads w S 2 A n (formC fs)) (hn : n = fs.length) (k : Nat) (hk : k < fs.length) :
    ∃ ad, A = some ad ∧ S ad.block ∧ w.cell? (ad.add (k * 2)) = some (.int .i64 (fs[k].1 : Int)) ∧ w.cell? ⟨(ad.add (k * 2)).block, (ad.add (k * 2)).off + 1, none⟩ = some (.int .i64 (fs[k].2 : Int)) := by
  obtain ⟨ad, rfl, hb, hc⟩ := h.2 (by omega)
  have h1 := formC_at fs k hk
  refine ⟨ad, rfl, hb, hc _ _ h1.1, ?_⟩
  have := hc _ _ h1.2
  rw [← this]
  rw [← add_of_add]
  rfl
def goodF (f : Nat × Nat) : Prop := (f.2 = 1 ∨ f.2 = 2 ∨ f.2 = 4 ∨ f.2 = 8) ∧ f.1 < 256
def fitsF (u : Nat) (f : Nat × Nat) : Bool := decide (f.2 = 8 ∨ u < 256 ^ f.2)
def mayF (u : Nat) (fs : List (Nat × Nat)) : List (Nat × Nat) := fs.filter (fitsF u)
theorem mayF_snoc (u : Nat) (fs : List (Nat × Nat)) (f : Nat × Nat) : mayF u (fs ++ [f]) = if fitsF u f = true then mayF u fs ++ [f] else mayF u fs := by
  unfold mayF
  rw [List.filter_append]
  by_cases h : fitsF u f = true
  · simp [List.filter_cons, h]
  · simp [List.filter_cons, h]
theorem mayF_le (u : Nat) (fs : List (Nat × Nat)) : (mayF u fs).length ≤ fs.length := List.length_filter_le _ _
theorem ints2 {a b : Int} : ∀ u ∈ [Value.int .i64 a, .int .i64 b], u.oneCell' = true := by
  intro u hu
  simp only [List.mem_cons, List.not_mem_nil, or_false] at hu
  rcases hu with rfl | rfl <;> rfl
set_option maxRecDepth 100000 in
set_option maxHeartbeats 3200000 in
theorem sizes_any (u : Nat) (fs : List (Nat × Nat)) (A : Option Addr) (m c0 : Nat) (S : Nat → Prop) (w : World) (hu : u < 18446744073709551616) (hm : m = fs.length) (hr : Reads w S 2 A m (formC fs)) (hS : Old w S) (hfs : ∀ f ∈ fs, goodF f) (hlen : m ≤ 100) :
    Calls Tryd.prog 46 #[.int .u64 u, .slice A m c0] w fun e w' => ∃ v, e = .returned v ∧ w'.ownsRow w.heap.size 68 2 v (mayF u fs).length (formC (mayF u fs)) ∧ Below w.heap.size w w' := by
  have HM := hide hm
  clear hm
  go_enter Tryd.func46, Tryd.ntmps46
  go_wp2
  go_loopw [5, 10] (fun v i wr => ∃ k : Nat, k ≤ m ∧ i = .int .i64 k ∧ wr.ownsRow w.heap.size 68 2 v (mayF u (fs.take k)).length (formC (mayF u (fs.take k))) ∧ Below w.heap.size w wr) (fun _ i _ => m - (intOf i).toNat)
  case atStart => exact ⟨0, Nat.zero_le _, rfl, World.ownsRow_nil _ _ _ _, Below.refl _ _⟩
  case round =>
  obtain ⟨k, hk, rfl, hown, hbel⟩ := hrel
  have hsz := hbel.size
  by_cases hlt : k < m
  · have hln : k < fs.length := by have := unhide HM; omega
    obtain ⟨ad, rfl, hSb, hcA, hcB⟩ := form_at hr (unhide HM) k hln
    have hb : ad.block < w.heap.size := hS _ hSb
    have hg := hfs fs[k] (List.getElem_mem hln)
    have hq := mayF_le u (fs.take k)
    rw [List.length_take] at hq
    have hsn := mayF_snoc u (fs.take k) fs[k]
    have hft : fitsF u fs[k] = decide (fs[k].2 = 8 ∨ u < 256 ^ fs[k].2) := rfl
    rw [← List.take_succ_eq_append_getElem hln] at hsn
    have hcA2 : wr.cell? (ad.add (k * 2)) = some (.int .i64 (fs[k].1 : Int)) := (hbel.cell (p := ad.add (k * 2)) (by rw [block_of_add]; exact hb)).trans hcA
    have hcB2 : wr.cell? ⟨(ad.add (k * 2)).block, (ad.add (k * 2)).off + 1, none⟩ = some (.int .i64 (fs[k].2 : Int)) := (hbel.cell (p := ⟨(ad.add (k * 2)).block, (ad.add (k * 2)).off + 1, none⟩) (by show (ad.add (k * 2)).block < _; rw [block_of_add]; exact hb)).trans hcB
    rw [show fs[k] = (fs[k].1, fs[k].2) from rfl] at hsn hft hg
    generalize fs[k].1 = c at *
    generalize fs[k].2 = s at *
    unfold goodF at hg
    simp only at hg hft
    have hqq : (mayF u (fs.take k)).length ≤ 100 := by omega
    obtain ⟨q, hqe⟩ : ∃ q, q = (mayF u (fs.take k)).length := ⟨_, rfl⟩
    rw [← hqe] at hown hqq
    obtain ⟨Av, cv, rfl, hcv1, hcv2, _⟩ := own_slice hown
    have HQ := hide hqe
    have HSN := hide hsn
    have HFT := hide hft
    have HOWN := hide hown
    have HB := hide hbel
    clear hqe hsn hft hown hbel hcA hcB hq
    obtain ⟨hs, hc⟩ := hg
    rcases hs with rfl | rfl | rfl | rfl
    · by_cases hlt2 : u < 256
      · have h0 : (((u : Int) / 256) == 0) = true := by simp; omega
        · go_wp2_with (at_builtin; obtain ⟨i0, hi0, hz0, hz1', hz2⟩ := info_parts infoForm; go_loud (refine wpList_append_any (S := fun _ => True) _ rfl _ _ _ rfl w.heap.size 68 i0 _ 2 16 Tryd.underlying99 hi0 hz0 hz1' hz2 ?x1 ?x2 (.slice Av q cv) q (formC (mayF u (fs.take k))) ?x3 ?x8 (some ⟨wr.heap.size + 1, 0, none⟩) 1 1 [.int .i64 (c : Int), .int .i64 1] ?x4 ?x5 ints2 ?c3 ?x7 ?c4 ?_; (case x1 => rfl); (case x2 => omega); (case x3 => rfl); (case x4 => rfl); (case x5 => exact reads_blk (S := fun _ => True) (t := 68) (cs := #[.int .i64 (c : Int), .int .i64 1]) (Blk.new2 (by simp)) trivial 2 1 rfl); (case x7 => omega); (case x8 => exact own_below (unhide HOWN) (by repeat (first | with_reducible exact Below.refl _ _ | with_reducible exact x | with_reducible refine Below.alloc ?_ (by first | omega | (simp; omega) | (simp; done)) _ | with_reducible refine Below.setCell ?_ (by first | omega | (simp; omega) | (simp; done)) _ | with_reducible refine Below.drew ?_ | with_reducible refine below_drewN ?_ _))); (case c3 => unfold maxLen; omega); (case c4 => simp; omega); clear hi0 hz0 hz1' hz2; intro v1 w1 hown1 hgrow hat; have hB1 : Below w.heap.size w w1 := ((((unhide HB).alloc hsz _).alloc (by simp; omega) _).grown hgrow (by simp; omega) (fun k hk => (own_ge' (unhide HOWN) _ hk).1)); have HB1 := hide hB1; have HO1 := hide hown1; clear hgrow hown1 hat hB1))
          go_roundw
          case rel => exact ⟨k + 1, by omega, by go_num, by rw [unhide HSN, if_pos (by rw [unhide HFT]; first | (simp; done) | (simp; omega)), formC_snoc, List.length_append, ← unhide HQ]; exact unhide HO1, unhide HB1⟩
          case measure => simp [intOf]; omega
      · have h0 : (((u : Int) / 256) == 0) = false := by simp; omega
        · go_wp2
          go_roundw
          case rel => exact ⟨k + 1, by omega, by go_num, by rw [unhide HSN, if_neg (by rw [unhide HFT]; simp; omega), ← unhide HQ]; exact own_below (unhide HOWN) (by repeat (first | with_reducible exact Below.refl _ _ | with_reducible exact x | with_reducible refine Below.alloc ?_ (by first | omega | (simp; omega) | (simp; done)) _ | with_reducible refine Below.setCell ?_ (by first | omega | (simp; omega) | (simp; done)) _ | with_reducible refine Below.drew ?_ | with_reducible refine below_drewN ?_ _)), by have hB := unhide HB; exact (by repeat (first | with_reducible exact Below.refl _ _ | with_reducible exact hB | with_reducible refine Below.alloc ?_ (by first | omega | (simp; omega) | (simp; done)) _ | with_reducible refine Below.setCell ?_ (by first | omega | (simp; omega) | (simp; done)) _ | with_reducible refine Below.drew ?_ | with_reducible refine below_drewN ?_ _))⟩
          case measure => simp [intOf]; omega
    · by_cases hlt2 : u < 65536
      · have h0 : (((u : Int) / 65536) == 0) = true := by simp; omega
        · go_wp2_with (at_builtin; obtain ⟨i0, hi0, hz0, hz1', hz2⟩ := info_parts infoForm; go_loud (refine wpList_append_any (S := fun _ => True) _ rfl _ _ _ rfl w.heap.size 68 i0 _ 2 16 Tryd.underlying99 hi0 hz0 hz1' hz2 ?x1 ?x2 (.slice Av q cv) q (formC (mayF u (fs.take k))) ?x3 ?x8 (some ⟨wr.heap.size + 1, 0, none⟩) 1 1 [.int .i64 (c : Int), .int .i64 2] ?x4 ?x5 ints2 ?c3 ?x7 ?c4 ?_; (case x1 => rfl); (case x2 => omega); (case x3 => rfl); (case x4 => rfl); (case x5 => exact reads_blk (S := fun _ => True) (t := 68) (cs := #[.int .i64 (c : Int), .int .i64 2]) (Blk.new2 (by simp)) trivial 2 1 rfl); (case x7 => omega); (case x8 => exact own_below (unhide HOWN) (by repeat (first | with_reducible exact Below.refl _ _ | with_reducible exact x | with_reducible refine Below.alloc ?_ (by first | omega | (simp; omega) | (simp; done)) _ | with_reducible refine Below.setCell ?_ (by first | omega | (simp; omega) | (simp; done)) _ | with_reducible refine Below.drew ?_ | with_reducible refine below_drewN ?_ _))); (case c3 => unfold maxLen; omega); (case c4 => simp; omega); clear hi0 hz0 hz1' hz2; intro v1 w1 hown1 hgrow hat; have hB1 : Below w.heap.size w w1 := ((((unhide HB).alloc hsz _).alloc (by simp; omega) _).grown hgrow (by simp; omega) (fun k hk => (own_ge' (unhide HOWN) _ hk).1)); have HB1 := hide hB1; have HO1 := hide hown1; clear hgrow hown1 hat hB1))
          go_roundw
          case rel => exact ⟨k + 1, by omega, by go_num, by rw [unhide HSN, if_pos (by rw [unhide HFT]; first | (simp; done) | (simp; omega)), formC_snoc, List.length_append, ← unhide HQ]; exact unhide HO1, unhide HB1⟩
          case measure => simp [intOf]; omega
      · have h0 : (((u : Int) / 65536) == 0) = false := by simp; omega
        · go_wp2
          go_roundw
          case rel => exact ⟨k + 1, by omega, by go_num, by rw [unhide HSN, if_neg (by rw [unhide HFT]; simp; omega), ← unhide HQ]; exact own_below (unhide HOWN) (by repeat (first | with_reducible exact Below.refl _ _ | with_reducible exact x | with_reducible refine Below.alloc ?_ (by first | omega | (simp; omega) | (simp; done)) _ | with_reducible refine Below.setCell ?_ (by first | omega | (simp; omega) | (simp; done)) _ | with_reducible refine Below.drew ?_ | with_reducible refine below_drewN ?_ _)), by have hB := unhide HB; exact (by repeat (first | with_reducible exact Below.refl _ _ | with_reducible exact hB | with_reducible refine Below.alloc ?_ (by first | omega | (simp; omega) | (simp; done)) _ | with_reducible refine Below.setCell ?_ (by first | omega | (simp; omega) | (simp; done)) _ | with_reducible refine Below.drew ?_ | with_reducible refine below_drewN ?_ _))⟩
          case measure => simp [intOf]; omega
    · by_cases hlt2 : u < 4294967296
      · have h0 : (((u : Int) / 4294967296) == 0) = true := by simp; omega
        · go_wp2_with (at_builtin; obtain ⟨i0, hi0, hz0, hz1', hz2⟩ := info_parts infoForm; go_loud (refine wpList_append_any (S := fun _ => True) _ rfl _ _ _ rfl w.heap.size 68 i0 _ 2 16 Tryd.underlying99 hi0 hz0 hz1' hz2 ?x1 ?x2 (.slice Av q cv) q (formC (mayF u (fs.take k))) ?x3 ?x8 (some ⟨wr.heap.size + 1, 0, none⟩) 1 1 [.int .i64 (c : Int), .int .i64 4] ?x4 ?x5 ints2 ?c3 ?x7 ?c4 ?_; (case x1 => rfl); (case x2 => omega); (case x3 => rfl); (case x4 => rfl); (case x5 => exact reads_blk (S := fun _ => True) (t := 68) (cs := #[.int .i64 (c : Int), .int .i64 4]) (Blk.new2 (by simp)) trivial 2 1 rfl); (case x7 => omega); (case x8 => exact own_below (unhide HOWN) (by repeat (first | with_reducible exact Below.refl _ _ | with_reducible exact x | with_reducible refine Below.alloc ?_ (by first | omega | (simp; omega) | (simp; done)) _ | with_reducible refine Below.setCell ?_ (by first | omega | (simp; omega) | (simp; done)) _ | with_reducible refine Below.drew ?_ | with_reducible refine below_drewN ?_ _))); (case c3 => unfold maxLen; omega); (case c4 => simp; omega); clear hi0 hz0 hz1' hz2; intro v1 w1 hown1 hgrow hat; have hB1 : Below w.heap.size w w1 := ((((unhide HB).alloc hsz _).alloc (by simp; omega) _).grown hgrow (by simp; omega) (fun k hk => (own_ge' (unhide HOWN) _ hk).1)); have HB1 := hide hB1; have HO1 := hide hown1; clear hgrow hown1 hat hB1))
          go_roundw
          case rel => exact ⟨k + 1, by omega, by go_num, by rw [unhide HSN, if_pos (by rw [unhide HFT]; first | (simp; done) | (simp; omega)), formC_snoc, List.length_append, ← unhide HQ]; exact unhide HO1, unhide HB1⟩
          case measure => simp [intOf]; omega
      · have h0 : (((u : Int) / 4294967296) == 0) = false := by simp; omega
        · go_wp2
          go_roundw
          case rel => exact ⟨k + 1, by omega, by go_num, by rw [unhide HSN, if_neg (by rw [unhide HFT]; simp; omega), ← unhide HQ]; exact own_below (unhide HOWN) (by repeat (first | with_reducible exact Below.refl _ _ | with_reducible exact x | with_reducible refine Below.alloc ?_ (by first | omega | (simp; omega) | (simp; done)) _ | with_reducible refine Below.setCell ?_ (by first | omega | (simp; omega) | (simp; done)) _ | with_reducible refine Below.drew ?_ | with_reducible refine below_drewN ?_ _)), by have hB := unhide HB; exact (by repeat (first | with_reducible exact Below.refl _ _ | with_reducible exact hB | with_reducible refine Below.alloc ?_ (by first | omega | (simp; omega) | (simp; done)) _ | with_reducible refine Below.setCell ?_ (by first | omega | (simp; omega) | (simp; done)) _ | with_reducible refine Below.drew ?_ | with_reducible refine below_drewN ?_ _))⟩
          case measure => simp [intOf]; omega
    · have h9 : True := trivial
      · have h10 : True := trivial
        · go_wp2_with (at_builtin; obtain ⟨i0, hi0, hz0, hz1', hz2⟩ := info_parts infoForm; go_loud (refine wpList_append_any (S := fun _ => True) _ rfl _ _ _ rfl w.heap.size 68 i0 _ 2 16 Tryd.underlying99 hi0 hz0 hz1' hz2 ?x1 ?x2 (.slice Av q cv) q (formC (mayF u (fs.take k))) ?x3 ?x8 (some ⟨wr.heap.size + 1, 0, none⟩) 1 1 [.int .i64 (c : Int), .int .i64 8] ?x4 ?x5 ints2 ?c3 ?x7 ?c4 ?_; (case x1 => rfl); (case x2 => omega); (case x3 => rfl); (case x4 => rfl); (case x5 => exact reads_blk (S := fun _ => True) (t := 68) (cs := #[.int .i64 (c : Int), .int .i64 8]) (Blk.new2 (by simp)) trivial 2 1 rfl); (case x7 => omega); (case x8 => exact own_below (unhide HOWN) (by repeat (first | with_reducible exact Below.refl _ _ | with_reducible exact x | with_reducible refine Below.alloc ?_ (by first | omega | (simp; omega) | (simp; done)) _ | with_reducible refine Below.setCell ?_ (by first | omega | (simp; omega) | (simp; done)) _ | with_reducible refine Below.drew ?_ | with_reducible refine below_drewN ?_ _))); (case c3 => unfold maxLen; omega); (case c4 => simp; omega); clear hi0 hz0 hz1' hz2; intro v1 w1 hown1 hgrow hat; have hB1 : Below w.heap.size w w1 := ((((unhide HB).alloc hsz _).alloc (by simp; omega) _).grown hgrow (by simp; omega) (fun k hk => (own_ge' (unhide HOWN) _ hk).1)); have HB1 := hide hB1; have HO1 := hide hown1; clear hgrow hown1 hat hB1))
          go_roundw
          case rel => exact ⟨k + 1, by omega, by go_num, by rw [unhide HSN, if_pos (by rw [unhide HFT]; first | (simp; done) | (simp; omega)), formC_snoc, List.length_append, ← unhide HQ]; exact unhide HO1, unhide HB1⟩
          case measure => simp [intOf]; omega
  · obtain rfl : k = m := by omega
    rw [List.take_of_length_le (by have := unhide HM; omega)] at hown
    go_wp2
    go_ret
    exact ⟨_, rfl, hown, hbel⟩
end Go.Proofs.YtlnpiigdjjadiaaDoor

/-
  Forms.putHead: which form is chosen is left open. Conditions: sizes of 1, 2, 4 or 8 bytes, one of which holds the number.
-/
namespace Go.Proofs.YtlnpiigdjjadiaaDoor
set_option linter.unusedSimpArgs false
set_option linter.unusedVariables false
open Go.RowKit
def HeadOK (fixed : Int) (under n : Nat) (fs : List (Nat × Nat)) (bs : List UInt8) : Prop :=
  (0 ≤ fixed ∧ n < under ∧ bs = [UInt8.ofNat (fixed.toNat + n)]) ∨ ∃ f ∈ fs, goodF f ∧ (f.2 = 8 ∨ n < 256 ^ f.2) ∧ bs = UInt8.ofNat f.1 :: beL n f.2
/-- What a writer with Forms behind block g answers: bytes of its own that P takes. -/
def PutH (P : List UInt8 → Prop) (g : Nat) (w : World) (e : Ending) (w' : World) : Prop :=
  ∃ v bs, P bs ∧ e = .returned v ∧ w'.ownsRow w.heap.size 5 1 v bs.length (bs.map u8) ∧ w.grownBy w' (some g) ∧ FormsAt w' g
theorem mayF_mem {u : Nat} {fs : List (Nat × Nat)} {f : Nat × Nat} (h : f ∈ mayF u fs) : f ∈ fs ∧ (f.2 = 8 ∨ u < 256 ^ f.2) := by
  unfold mayF at h
  rw [List.mem_filter] at h
  exact ⟨h.1, by simpa [fitsF] using h.2⟩
theorem stays_grown {S : Nat → Prop} {w w' : World} {g : Nat} (h : w.grownBy w' (some g)) (ho : Old w S) (hg : ¬ S g) : Stays S w w' := fun b hb => h.block b (ho b hb) (fun e => hg (by injection e with e; rw [← e]; exact hb))
theorem headed_put {w w2 w3 : World} {g c s n : Nat} {v : Value} (hg2 : w.grownBy w2 (some g)) (hgl : g < w.heap.size) (hF2 : FormsAt w2 g) (hs : s = 1 ∨ s = 2 ∨ s = 4 ∨ s = 8) (hc : c < 256)
    (hown : w3.ownsRow w2.heap.size 5 1 v (1 + s) ([.int .u8 (c : Int)] ++ (beL n s).map u8)) (hbel : Below w2.heap.size w2 w3) {P : List UInt8 → Prop} (hP : P (UInt8.ofNat c :: beL n s)) : PutH P g w (.returned v) w3 := by
  refine ⟨v, _, hP, rfl, ?_, grown_trans' hg2 (only_of_below hbel none) (fun _ h => by cases h), hF2.below hbel hF2.lt⟩
  have h1 : ([.int .u8 (c : Int)] ++ (beL n s).map u8) = (UInt8.ofNat c :: beL n s).map u8 := by rw [cellc c hc]; rfl
  rw [h1] at hown
  rw [List.length_cons, beL_len n s hs, Nat.add_comm]
  obtain ⟨hl, h⟩ := hown
  refine ⟨by rw [hl], ?_⟩
  rcases h with ⟨rfl, h2⟩ | ⟨b, cap, cur, rfl, hb, r⟩
  · exact absurd h2 (by simp)
  · exact .inr ⟨b, cap, cur, rfl, Nat.le_trans hg2.size hb, r⟩
set_option maxRecDepth 100000 in
set_option maxHeartbeats 3200000 in
theorem putHead_fixed (g n under : Nat) (fixed : Int) (fs : List (Nat × Nat)) (A : Option Addr) (m c0 : Nat) (S : Nat → Prop) (w : World) (hF : FormsAt w g) (hn : n ≤ 1099511627776) (hf0 : 0 ≤ fixed) (hnu : n < under) (hu100 : under ≤ 100)
    (hor : bits .or .i64 fixed n = fixed + n) (hf255 : fixed + n ≤ 255) (hm : m = fs.length) (hr : Reads w S 2 A m (formC fs)) (hS : Old w S) (hfs : ∀ f ∈ fs, goodF f) (hlen : m ≤ 100) :
    Calls Tryd.prog 30 #[.pointer (some ⟨g, 0, none⟩), .int .i64 n, .int .i64 fixed, .int .i64 under, .slice A m c0] w (PutH (HeadOK fixed under n fs) g w) := by
  have hgl := hF.lt
  have hfle := mayF_le n fs
  have hSZ := sizes_any n fs A m c0 S w (by omega) hm hr hS hfs hlen
  have hnu' : (n : Int) < (under : Int) := by omega
  have HFS := hide hfs
  have HF := hide hF
  clear hfs hF hr
  subst hm
  obtain ⟨T, hT⟩ : ∃ T, T = PutH (HeadOK fixed under n fs) g w := ⟨_, rfl⟩
  rw [← hT]
  have HT := hide hT
  clear hT
  go_enter Tryd.func30, Tryd.ntmps30
  go_wp2_with fail
  refine hSZ.mono ?_
  rintro e w1 ⟨v, rfl, hown, hbel⟩
  obtain ⟨A1, c1, rfl, hc1, hcm1, hr1⟩ := own_slice hown
  unfold maxLen at hcm1
  obtain ⟨ms, hms⟩ : ∃ ms, ms = mayF n fs := ⟨_, rfl⟩
  rw [← hms] at hc1 hfle hr1
  have hPK := pick_any g (ms.length + 1) (by omega) w1 ((unhide HF).below hbel hgl)
  rw [show (((ms.length + 1 : Nat)) : Int) = (ms.length : Int) + 1 by omega] at hPK
  rw [← hms]
  have HMS := hide hms
  have HB := hide hbel
  have HR1 := hide hr1
  clear hms hbel hr1 hown hSZ
  go_wp2_with fail
  refine hPK.mono ?_
  rintro e w2 ⟨k, hk, rfl, hg2, hz2, hF2⟩
  have HZ2 := hide hz2
  clear hz2
  have hw2 : w.grownBy w2 (some g) := grown_trans' (only_of_below (unhide HB) (some g)) hg2 (fun _ h => by injection h with h; subst h; exact .inl rfl)
  have hst : Stays (fun b => w.heap.size ≤ b ∧ b < w1.heap.size) w1 w2 := stays_grown hg2 (fun b hb => hb.2) (fun h => by have := h.1; omega)
  have HW2 := hide hw2
  have HF2 := hide hF2
  have hr2 := (unhide HR1).keep hst
  clear hg2 hF2 hw2 hst hPK
  rcases k with _ | j
  · clear hk hr2
    go_wp2
    rw [unhide HT]
    refine ⟨_, [UInt8.ofNat (fixed.toNat + n)], .inl ⟨hf0, hnu, rfl⟩, rfl, ?_, grown_trans' (unhide HW2) (only_of_below ((Below.refl w2.heap.size w2).alloc (Nat.le_refl _) _) none) (fun _ h => by cases h), (unhide HF2).below ((Below.refl w2.heap.size w2).alloc (Nat.le_refl _) _) (unhide HF2).lt⟩
    have h1 : u8 (UInt8.ofNat (fixed.toNat + n)) = .int .u8 (fixed + n) := by
      simp [u8]
      omega
    show World.ownsRow _ _ _ _ _ 1 [u8 (UInt8.ofNat (fixed.toNat + n))]
    rw [h1]
    exact own_one (Blk.new2 rfl) (unhide HW2).size
  · have hj : j < ms.length := by omega
    obtain ⟨ad, rfl, hSb, hcA, hcB⟩ := form_at hr2 rfl j hj
    have hmem := mayF_mem (u := n) (fs := fs) (f := ms[j]) (by rw [← unhide HMS]; exact List.getElem_mem hj)
    have hgd := unhide HFS ms[j] hmem.1
    have hfit := hmem.2
    have hin : (ms[j].1, ms[j].2) ∈ fs := hmem.1
    rw [show ms[j] = (ms[j].1, ms[j].2) from rfl] at hgd
    generalize ms[j].1 = c at *
    generalize ms[j].2 = s at *
    unfold goodF at hgd
    simp only at hgd
    have HIN := hide (And.intro hin (And.intro hgd hfit))
    have hHD := headed_any c s n hgd.1 hgd.2 (by omega) w2
    have HGD := hide hgd
    clear hmem hgd hfit hin hk hr2
    go_wp2_with fail
    refine hHD.mono ?_
    rintro e w3 ⟨v3, rfl, hown3, hbel3⟩
    have HO3 := hide hown3
    have HB3 := hide hbel3
    clear hown3 hbel3 hHD
    go_wp2
    rw [unhide HT]
    have hq := unhide HIN
    have hfin : PutH (HeadOK fixed under n fs) g w (.returned v3) w3 := headed_put (unhide HW2) hgl (unhide HF2) (unhide HGD).1 (unhide HGD).2 (unhide HO3) (unhide HB3) (.inr ⟨(c, s), hq.1, hq.2.1, hq.2.2, rfl⟩)
    exact hfin
set_option maxRecDepth 100000 in
set_option maxHeartbeats 3200000 in
theorem putHead_coded (g n under : Nat) (fixed : Int) (fs : List (Nat × Nat)) (A : Option Addr) (m c0 : Nat) (S : Nat → Prop) (w : World) (hF : FormsAt w g) (hn : n ≤ 1099511627776) (hcase : fixed < 0 ∨ (0 ≤ fixed ∧ under ≤ n)) (hu100 : under ≤ 100)
    (hm : m = fs.length) (hr : Reads w S 2 A m (formC fs)) (hS : Old w S) (hfs : ∀ f ∈ fs, goodF f) (hlen : m ≤ 100) (hne : 0 < (mayF n fs).length) :
    Calls Tryd.prog 30 #[.pointer (some ⟨g, 0, none⟩), .int .i64 n, .int .i64 fixed, .int .i64 under, .slice A m c0] w (PutH (HeadOK fixed under n fs) g w) := by
  have hgl := hF.lt
  have hfle := mayF_le n fs
  have hSZ := sizes_any n fs A m c0 S w (by omega) hm hr hS hfs hlen
  have hci : (fixed < 0) ∨ (0 ≤ fixed ∧ decide (n < under) = false) := by
    rcases hcase with h | h
    · exact .inl h
    · exact .inr ⟨h.1, by simp; omega⟩
  have HFS := hide hfs
  have HF := hide hF
  clear hfs hF hr hcase
  subst hm
  obtain ⟨T, hT⟩ : ∃ T, T = PutH (HeadOK fixed under n fs) g w := ⟨_, rfl⟩
  rw [← hT]
  have HT := hide hT
  clear hT
  rcases hci with hci | ⟨hci, hci2⟩
  all_goals (
    go_enter Tryd.func30, Tryd.ntmps30
    go_wp2_with fail
    refine hSZ.mono ?_
    rintro e w1 ⟨v, rfl, hown, hbel⟩
    obtain ⟨A1, c1, rfl, hc1, hcm1, hr1⟩ := own_slice hown
    unfold maxLen at hcm1
    obtain ⟨ms, hms⟩ : ∃ ms, ms = mayF n fs := ⟨_, rfl⟩
    rw [← hms] at hc1 hfle hr1 hne
    have hPK := pick_any g ms.length (by omega) w1 ((unhide HF).below hbel hgl)
    rw [← hms]
    have HMS := hide hms
    have HB := hide hbel
    have HR1 := hide hr1
    clear hms hbel hr1 hown hSZ
    go_wp2_with fail
    refine hPK.mono ?_
    rintro e w2 ⟨j, hk, rfl, hg2, hz2, hF2⟩
    have HZ2 := hide hz2
    clear hz2
    have hw2 : w.grownBy w2 (some g) := grown_trans' (only_of_below (unhide HB) (some g)) hg2 (fun _ h => by injection h with h; subst h; exact .inl rfl)
    have hst : Stays (fun b => w.heap.size ≤ b ∧ b < w1.heap.size) w1 w2 := stays_grown hg2 (fun b hb => hb.2) (fun h => by have := h.1; omega)
    have HW2 := hide hw2
    have HF2 := hide hF2
    have hr2 := (unhide HR1).keep hst
    clear hg2 hF2 hw2 hst hPK
    have hj : j < ms.length := by omega
    obtain ⟨ad, rfl, hSb, hcA, hcB⟩ := form_at hr2 rfl j hj
    have hmem := mayF_mem (u := n) (fs := fs) (f := ms[j]) (by rw [← unhide HMS]; exact List.getElem_mem hj)
    have hgd := unhide HFS ms[j] hmem.1
    have hfit := hmem.2
    have hin : (ms[j].1, ms[j].2) ∈ fs := hmem.1
    rw [show ms[j] = (ms[j].1, ms[j].2) from rfl] at hgd
    generalize ms[j].1 = c at *
    generalize ms[j].2 = s at *
    unfold goodF at hgd
    simp only at hgd
    have HIN := hide (And.intro hin (And.intro hgd hfit))
    have hHD := headed_any c s n hgd.1 hgd.2 (by omega) w2
    have HGD := hide hgd
    clear hmem hgd hfit hin hk hr2
    go_wp2_with fail
    refine hHD.mono ?_
    rintro e w3 ⟨v3, rfl, hown3, hbel3⟩
    have HO3 := hide hown3
    have HB3 := hide hbel3
    clear hown3 hbel3 hHD
    go_wp2
    rw [unhide HT]
    have hq := unhide HIN
    have hfin : PutH (HeadOK fixed under n fs) g w (.returned v3) w3 := headed_put (unhide HW2) hgl (unhide HF2) (unhide HGD).1 (unhide HGD).2 (unhide HO3) (unhide HB3) (.inr ⟨(c, s), hq.1, hq.2.1, hq.2.2, rfl⟩)
    exact hfin)
end Go.Proofs.YtlnpiigdjjadiaaDoor

/-
  spec.PutHead: heads of arrays, maps, bytes and texts. No condition.
-/
namespace Go.Proofs.YtlnpiigdjjadiaaDoor
set_option linter.unusedSimpArgs false
set_option linter.unusedVariables false
open Go.RowKit
theorem PutH.more {P P' : List UInt8 → Prop} {g : Nat} {w w1 w' : World} {e : Ending} (h : PutH P g w1 e w') (hb : Below w.heap.size w w1) (hP : ∀ bs, P bs → P' bs) : PutH P' g w e w' := by
  obtain ⟨v, bs, h1, rfl, ⟨hl, ho⟩, h2, h3⟩ := h
  refine ⟨v, bs, hP _ h1, rfl, ⟨hl, ?_⟩, grown_trans' (only_of_below hb (some g)) h2 (fun _ h => by injection h with h; subst h; exact .inl rfl), h3⟩
  rcases ho with ⟨rfl, h2⟩ | ⟨b, cap, cur, rfl, hb', r⟩
  · exact .inl ⟨rfl, h2⟩
  · exact .inr ⟨b, cap, cur, rfl, Nat.le_trans hb.size hb', r⟩
/-- The head of so many values of a kind, in one of its forms. -/
def HeadIs (kind n : Nat) (bs : List UInt8) : Prop :=
  (kind = 8 ∧ HeadOK 144 16 n [(220, 2), (221, 4)] bs) ∨
  (kind = 9 ∧ HeadOK 128 16 n [(222, 2), (223, 4)] bs) ∨
  (kind = 7 ∧ HeadOK (-1) 0 n [(196, 1), (197, 2), (198, 4)] bs) ∨
  (kind = 6 ∧ HeadOK 160 32 n [(217, 1), (218, 2), (219, 4)] bs)
theorem or144 : ∀ n : Nat, n < 16 → bits BinOp.or IntKind.i64 144 (n : Int) = 144 + n := by decide +kernel
theorem or128 : ∀ n : Nat, n < 16 → bits BinOp.or IntKind.i64 128 (n : Int) = 128 + n := by decide +kernel
theorem or160 : ∀ n : Nat, n < 32 → bits BinOp.or IntKind.i64 160 (n : Int) = 160 + n := by decide +kernel
end Go.Proofs.YtlnpiigdjjadiaaDoor
