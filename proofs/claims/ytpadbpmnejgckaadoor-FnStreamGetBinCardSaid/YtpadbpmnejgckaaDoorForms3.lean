/-
  spec.sizes, Forms.putHead: which form is chosen is left open. Conditions: sizes of 1, 2, 4 or 8 bytes.
-/
import Derived.Test.YtpadbpmnejgckaaDoorForms2
namespace Go.Proofs.YtpadbpmnejgckaaDoor
set_option linter.unusedSimpArgs false
set_option linter.unusedVariables false
open Go.RowKit
theorem infoForm : (Tryd.prog.info? 160).map (fun i => (i.zero, i.size, i.bytes)) = some (some (.agg #[.int .i64 0, .int .i64 0]), 2, 16) := by kernel_rfl
/-- Forms as cells: code and size. -/
def formC (fs : List (Nat × Nat)) : List Value := fs.flatMap fun f => [.int .i64 (f.1 : Int), .int .i64 (f.2 : Int)]
theorem formC_len : ∀ fs : List (Nat × Nat), (formC fs).length = fs.length * 2
  | [] => rfl
  | f :: r => by
    show ([_, _] ++ formC r).length = _
    rw [List.length_append, formC_len r]
    simp
    omega
theorem formC_snoc (fs : List (Nat × Nat)) (f : Nat × Nat) : formC (fs ++ [f]) = formC fs ++ [.int .i64 (f.1 : Int), .int .i64 (f.2 : Int)] := by simp [formC]
theorem formC_at : ∀ (fs : List (Nat × Nat)) (k : Nat) (h : k < fs.length), (formC fs)[k * 2]? = some (.int .i64 (fs[k].1 : Int)) ∧ (formC fs)[k * 2 + 1]? = some (.int .i64 (fs[k].2 : Int))
  | [], k, h => absurd h (by simp)
  | f :: r, 0, _ => ⟨rfl, rfl⟩
  | f :: r, k + 1, h => by
    have h1 := formC_at r k (by simpa using h)
    show ([_, _] ++ formC r)[(k + 1) * 2]? = _ ∧ ([_, _] ++ formC r)[(k + 1) * 2 + 1]? = _
    rw [List.getElem?_append_right (by simp; omega), List.getElem?_append_right (by simp; omega)]
    simp only [List.length_cons, List.length_nil, List.getElem_cons_succ]
    rw [show (k + 1) * 2 - (0 + 1 + 1) = k * 2 by omega, show (k + 1) * 2 + 1 - (0 + 1 + 1) = k * 2 + 1 by omega]
    exact h1
/-- The cells of form k of a slice of forms. -/
theorem form_at {w : World} {S : Nat → Prop} {A : Option Addr} {n : Nat} {fs : List (Nat × Nat)} (h : Reads w S 2 A n (formC fs)) (hn : n = fs.length) (k : Nat) (hk : k < fs.length) :
    ∃ ad, A = some ad ∧ S ad.block ∧ w.cell? (ad.add (k * 2)) = some (.int .i64 (fs[k].1 : Int)) ∧ w.cell? ⟨(ad.add (k * 2)).block, (ad.add (k * 2)).off + 1, none⟩ = some (.int .i64 (fs[k].2 : Int)) := by
  obtain ⟨ad, rfl, hb, hc⟩ := h.2 (by omega)
  have h1 := formC_at fs k hk
  refine ⟨ad, rfl, hb, hc _ _ h1.1, ?_⟩
  have := hc _ _ h1.2
  rw [← this]
  rw [← add_of_add]
  rfl
def goodF (f : Nat × Nat) : Prop := (f.2 = 1 ∨ f.2 = 2 ∨ f.2 = 4 ∨ f.2 = 8) ∧ f.1 < 256
def fitsF (u : Nat) (f : Nat × Nat) : Bool := decide (f.2 = 8 ∨ u < 256 ^ f.2)
def mayF (u : Nat) (fs : List (Nat × Nat)) : List (Nat × Nat) := fs.filter (fitsF u)
theorem mayF_snoc (u : Nat) (fs : List (Nat × Nat)) (f : Nat × Nat) : mayF u (fs ++ [f]) = if fitsF u f = true then mayF u fs ++ [f] else mayF u fs := by
  unfold mayF
  rw [List.filter_append]
  by_cases h : fitsF u f = true
  · simp [List.filter_cons, h]
  · simp [List.filter_cons, h]
theorem mayF_le (u : Nat) (fs : List (Nat × Nat)) : (mayF u fs).length ≤ fs.length := List.length_filter_le _ _
theorem ints2 {a b : Int} : ∀ u ∈ [Value.int .i64 a, .int .i64 b], u.oneCell' = true := by
  intro u hu
  simp only [List.mem_cons, List.not_mem_nil, or_false] at hu
  rcases hu with rfl | rfl <;> rfl
set_option maxRecDepth 100000 in
set_option maxHeartbeats 3200000 in
theorem sizes_any (u : Nat) (fs : List (Nat × Nat)) (A : Option Addr) (m c0 : Nat) (S : Nat → Prop) (w : World) (hu : u < 18446744073709551616) (hm : m = fs.length) (hr : Reads w S 2 A m (formC fs)) (hS : Old w S) (hfs : ∀ f ∈ fs, goodF f) (hlen : m ≤ 100) :
    Calls Tryd.prog 133 #[.int .u64 u, .slice A m c0] w fun e w' => ∃ v, e = .returned v ∧ w'.ownsRow w.heap.size 160 2 v (mayF u fs).length (formC (mayF u fs)) ∧ Below w.heap.size w w' := by
  have HM := hide hm
  clear hm
  go_enter Tryd.func133, Tryd.ntmps133
  go_wp2
  go_loopw [5, 10] (fun v i wr => ∃ k : Nat, k ≤ m ∧ i = .int .i64 k ∧ wr.ownsRow w.heap.size 160 2 v (mayF u (fs.take k)).length (formC (mayF u (fs.take k))) ∧ Below w.heap.size w wr) (fun _ i _ => m - (intOf i).toNat)
  case atStart => exact ⟨0, Nat.zero_le _, rfl, World.ownsRow_nil _ _ _ _, Below.refl _ _⟩
  case round =>
  obtain ⟨k, hk, rfl, hown, hbel⟩ := hrel
  have hsz := hbel.size
  by_cases hlt : k < m
  · have hln : k < fs.length := by have := unhide HM; omega
    obtain ⟨ad, rfl, hSb, hcA, hcB⟩ := form_at hr (unhide HM) k hln
    have hb : ad.block < w.heap.size := hS _ hSb
    have hg := hfs fs[k] (List.getElem_mem hln)
    have hq := mayF_le u (fs.take k)
    rw [List.length_take] at hq
    have hsn := mayF_snoc u (fs.take k) fs[k]
    have hft : fitsF u fs[k] = decide (fs[k].2 = 8 ∨ u < 256 ^ fs[k].2) := rfl
    rw [← List.take_succ_eq_append_getElem hln] at hsn
    have hcA2 : wr.cell? (ad.add (k * 2)) = some (.int .i64 (fs[k].1 : Int)) := (hbel.cell (p := ad.add (k * 2)) (by rw [block_of_add]; exact hb)).trans hcA
    have hcB2 : wr.cell? ⟨(ad.add (k * 2)).block, (ad.add (k * 2)).off + 1, none⟩ = some (.int .i64 (fs[k].2 : Int)) := (hbel.cell (p := ⟨(ad.add (k * 2)).block, (ad.add (k * 2)).off + 1, none⟩) (by show (ad.add (k * 2)).block < _; rw [block_of_add]; exact hb)).trans hcB
    rw [show fs[k] = (fs[k].1, fs[k].2) from rfl] at hsn hft hg
    generalize fs[k].1 = c at *
    generalize fs[k].2 = s at *
    unfold goodF at hg
    simp only at hg hft
    have hqq : (mayF u (fs.take k)).length ≤ 100 := by omega
    obtain ⟨q, hqe⟩ : ∃ q, q = (mayF u (fs.take k)).length := ⟨_, rfl⟩
    rw [← hqe] at hown hqq
    obtain ⟨Av, cv, rfl, hcv1, hcv2, _⟩ := own_slice hown
    have HQ := hide hqe
    have HSN := hide hsn
    have HFT := hide hft
    have HOWN := hide hown
    have HB := hide hbel
    clear hqe hsn hft hown hbel hcA hcB hq
    obtain ⟨hs, hc⟩ := hg
    rcases hs with rfl | rfl | rfl | rfl
    · by_cases hlt2 : u < 256
      · have h0 : (((u : Int) / 256) == 0) = true := by simp; omega
        · go_wp2_with (at_builtin; obtain ⟨i0, hi0, hz0, hz1', hz2⟩ := info_parts infoForm; go_loud (refine wpList_append_any (S := fun _ => True) _ rfl _ _ _ rfl w.heap.size 160 i0 _ 2 16 Tryd.underlying220 hi0 hz0 hz1' hz2 ?x1 ?x2 (.slice Av q cv) q (formC (mayF u (fs.take k))) ?x3 ?x8 (some ⟨wr.heap.size + 1, 0, none⟩) 1 1 [.int .i64 (c : Int), .int .i64 1] ?x4 ?x5 ints2 ?c3 ?x7 ?c4 ?_; (case x1 => rfl); (case x2 => omega); (case x3 => rfl); (case x4 => rfl); (case x5 => exact reads_blk (S := fun _ => True) (t := 160) (cs := #[.int .i64 (c : Int), .int .i64 1]) (Blk.new2 (by simp)) trivial 2 1 rfl); (case x7 => omega); (case x8 => exact own_below (unhide HOWN) (by repeat (first | with_reducible exact Below.refl _ _ | with_reducible exact x | with_reducible refine Below.alloc ?_ (by first | omega | (simp; omega) | (simp; done)) _ | with_reducible refine Below.setCell ?_ (by first | omega | (simp; omega) | (simp; done)) _ | with_reducible refine Below.drew ?_ | with_reducible refine below_drewN ?_ _))); (case c3 => unfold maxLen; omega); (case c4 => simp; omega); clear hi0 hz0 hz1' hz2; intro v1 w1 hown1 hgrow hat; have hB1 : Below w.heap.size w w1 := ((((unhide HB).alloc hsz _).alloc (by simp; omega) _).grown hgrow (by simp; omega) (fun k hk => (own_ge' (unhide HOWN) _ hk).1)); have HB1 := hide hB1; have HO1 := hide hown1; clear hgrow hown1 hat hB1))
          go_roundw
          case rel => exact ⟨k + 1, by omega, by go_num, by rw [unhide HSN, if_pos (by rw [unhide HFT]; first | (simp; done) | (simp; omega)), formC_snoc, List.length_append, ← unhide HQ]; exact unhide HO1, unhide HB1⟩
          case measure => simp [intOf]; omega
      · have h0 : (((u : Int) / 256) == 0) = false := by simp; omega
        · go_wp2
          go_roundw
          case rel => exact ⟨k + 1, by omega, by go_num, by rw [unhide HSN, if_neg (by rw [unhide HFT]; simp; omega), ← unhide HQ]; exact own_below (unhide HOWN) (by repeat (first | with_reducible exact Below.refl _ _ | with_reducible exact x | with_reducible refine Below.alloc ?_ (by first | omega | (simp; omega) | (simp; done)) _ | with_reducible refine Below.setCell ?_ (by first | omega | (simp; omega) | (simp; done)) _ | with_reducible refine Below.drew ?_ | with_reducible refine below_drewN ?_ _)), by have hB := unhide HB; exact (by repeat (first | with_reducible exact Below.refl _ _ | with_reducible exact hB | with_reducible refine Below.alloc ?_ (by first | omega | (simp; omega) | (simp; done)) _ | with_reducible refine Below.setCell ?_ (by first | omega | (simp; omega) | (simp; done)) _ | with_reducible refine Below.drew ?_ | with_reducible refine below_drewN ?_ _))⟩
          case measure => simp [intOf]; omega
    · by_cases hlt2 : u < 65536
      · have h0 : (((u : Int) / 65536) == 0) = true := by simp; omega
        · go_wp2_with (at_builtin; obtain ⟨i0, hi0, hz0, hz1', hz2⟩ := info_parts infoForm; go_loud (refine wpList_append_any (S := fun _ => True) _ rfl _ _ _ rfl w.heap.size 160 i0 _ 2 16 Tryd.underlying220 hi0 hz0 hz1' hz2 ?x1 ?x2 (.slice Av q cv) q (formC (mayF u (fs.take k))) ?x3 ?x8 (some ⟨wr.heap.size + 1, 0, none⟩) 1 1 [.int .i64 (c : Int), .int .i64 2] ?x4 ?x5 ints2 ?c3 ?x7 ?c4 ?_; (case x1 => rfl); (case x2 => omega); (case x3 => rfl); (case x4 => rfl); (case x5 => exact reads_blk (S := fun _ => True) (t := 160) (cs := #[.int .i64 (c : Int), .int .i64 2]) (Blk.new2 (by simp)) trivial 2 1 rfl); (case x7 => omega); (case x8 => exact own_below (unhide HOWN) (by repeat (first | with_reducible exact Below.refl _ _ | with_reducible exact x | with_reducible refine Below.alloc ?_ (by first | omega | (simp; omega) | (simp; done)) _ | with_reducible refine Below.setCell ?_ (by first | omega | (simp; omega) | (simp; done)) _ | with_reducible refine Below.drew ?_ | with_reducible refine below_drewN ?_ _))); (case c3 => unfold maxLen; omega); (case c4 => simp; omega); clear hi0 hz0 hz1' hz2; intro v1 w1 hown1 hgrow hat; have hB1 : Below w.heap.size w w1 := ((((unhide HB).alloc hsz _).alloc (by simp; omega) _).grown hgrow (by simp; omega) (fun k hk => (own_ge' (unhide HOWN) _ hk).1)); have HB1 := hide hB1; have HO1 := hide hown1; clear hgrow hown1 hat hB1))
          go_roundw
          case rel => exact ⟨k + 1, by omega, by go_num, by rw [unhide HSN, if_pos (by rw [unhide HFT]; first | (simp; done) | (simp; omega)), formC_snoc, List.length_append, ← unhide HQ]; exact unhide HO1, unhide HB1⟩
          case measure => simp [intOf]; omega
      · have h0 : (((u : Int) / 65536) == 0) = false := by simp; omega
        · go_wp2
          go_roundw
          case rel => exact ⟨k + 1, by omega, by go_num, by rw [unhide HSN, if_neg (by rw [unhide HFT]; simp; omega), ← unhide HQ]; exact own_below (unhide HOWN) (by repeat (first | with_reducible exact Below.refl _ _ | with_reducible exact x | with_reducible refine Below.alloc ?_ (by first | omega | (simp; omega) | (simp; done)) _ | with_reducible refine Below.setCell ?_ (by first | omega | (simp; omega) | (simp; done)) _ | with_reducible refine Below.drew ?_ | with_reducible refine below_drewN ?_ _)), by have hB := unhide HB; exact (by repeat (first | with_reducible exact Below.refl _ _ | with_reducible exact hB | with_reducible refine Below.alloc ?_ (by first | omega | (simp; omega) | (simp; done)) _ | with_reducible refine Below.setCell ?_ (by first | omega | (simp; omega) | (simp; done)) _ | with_reducible refine Below.drew ?_ | with_reducible refine below_drewN ?_ _))⟩
          case measure => simp [intOf]; omega
    · by_cases hlt2 : u < 4294967296
      · have h0 : (((u : Int) / 4294967296) == 0) = true := by simp; omega
        · go_wp2_with (at_builtin; obtain ⟨i0, hi0, hz0, hz1', hz2⟩ := info_parts infoForm; go_loud (refine wpList_append_any (S := fun _ => True) _ rfl _ _ _ rfl w.heap.size 160 i0 _ 2 16 Tryd.underlying220 hi0 hz0 hz1' hz2 ?x1 ?x2 (.slice Av q cv) q (formC (mayF u (fs.take k))) ?x3 ?x8 (some ⟨wr.heap.size + 1, 0, none⟩) 1 1 [.int .i64 (c : Int), .int .i64 4] ?x4 ?x5 ints2 ?c3 ?x7 ?c4 ?_; (case x1 => rfl); (case x2 => omega); (case x3 => rfl); (case x4 => rfl); (case x5 => exact reads_blk (S := fun _ => True) (t := 160) (cs := #[.int .i64 (c : Int), .int .i64 4]) (Blk.new2 (by simp)) trivial 2 1 rfl); (case x7 => omega); (case x8 => exact own_below (unhide HOWN) (by repeat (first | with_reducible exact Below.refl _ _ | with_reducible exact x | with_reducible refine Below.alloc ?_ (by first | omega | (simp; omega) | (simp; done)) _ | with_reducible refine Below.setCell ?_ (by first | omega | (simp; omega) | (simp; done)) _ | with_reducible refine Below.drew ?_ | with_reducible refine below_drewN ?_ _))); (case c3 => unfold maxLen; omega); (case c4 => simp; omega); clear hi0 hz0 hz1' hz2; intro v1 w1 hown1 hgrow hat; have hB1 : Below w.heap.size w w1 := ((((unhide HB).alloc hsz _).alloc (by simp; omega) _).grown hgrow (by simp; omega) (fun k hk => (own_ge' (unhide HOWN) _ hk).1)); have HB1 := hide hB1; have HO1 := hide hown1; clear hgrow hown1 hat hB1))
          go_roundw
          case rel => exact ⟨k + 1, by omega, by go_num, by rw [unhide HSN, if_pos (by rw [unhide HFT]; first | (simp; done) | (simp; omega)), formC_snoc, List.length_append, ← unhide HQ]; exact unhide HO1, unhide HB1⟩
          case measure => simp [intOf]; omega
      · have h0 : (((u : Int) / 4294967296) == 0) = false := by simp; omega
        · go_wp2
          go_roundw
          case rel => exact ⟨k + 1, by omega, by go_num, by rw [unhide HSN, if_neg (by rw [unhide HFT]; simp; omega), ← unhide HQ]; exact own_below (unhide HOWN) (by repeat (first | with_reducible exact Below.refl _ _ | with_reducible exact x | with_reducible refine Below.alloc ?_ (by first | omega | (simp; omega) | (simp; done)) _ | with_reducible refine Below.setCell ?_ (by first | omega | (simp; omega) | (simp; done)) _ | with_reducible refine Below.drew ?_ | with_reducible refine below_drewN ?_ _)), by have hB := unhide HB; exact (by repeat (first | with_reducible exact Below.refl _ _ | with_reducible exact hB | with_reducible refine Below.alloc ?_ (by first | omega | (simp; omega) | (simp; done)) _ | with_reducible refine Below.setCell ?_ (by first | omega | (simp; omega) | (simp; done)) _ | with_reducible refine Below.drew ?_ | with_reducible refine below_drewN ?_ _))⟩
          case measure => simp [intOf]; omega
    · have h9 : True := trivial
      · have h10 : True := trivial
        · go_wp2_with (at_builtin; obtain ⟨i0, hi0, hz0, hz1', hz2⟩ := info_parts infoForm; go_loud (refine wpList_append_any (S := fun _ => True) _ rfl _ _ _ rfl w.heap.size 160 i0 _ 2 16 Tryd.underlying220 hi0 hz0 hz1' hz2 ?x1 ?x2 (.slice Av q cv) q (formC (mayF u (fs.take k))) ?x3 ?x8 (some ⟨wr.heap.size + 1, 0, none⟩) 1 1 [.int .i64 (c : Int), .int .i64 8] ?x4 ?x5 ints2 ?c3 ?x7 ?c4 ?_; (case x1 => rfl); (case x2 => omega); (case x3 => rfl); (case x4 => rfl); (case x5 => exact reads_blk (S := fun _ => True) (t := 160) (cs := #[.int .i64 (c : Int), .int .i64 8]) (Blk.new2 (by simp)) trivial 2 1 rfl); (case x7 => omega); (case x8 => exact own_below (unhide HOWN) (by repeat (first | with_reducible exact Below.refl _ _ | with_reducible exact x | with_reducible refine Below.alloc ?_ (by first | omega | (simp; omega) | (simp; done)) _ | with_reducible refine Below.setCell ?_ (by first | omega | (simp; omega) | (simp; done)) _ | with_reducible refine Below.drew ?_ | with_reducible refine below_drewN ?_ _))); (case c3 => unfold maxLen; omega); (case c4 => simp; omega); clear hi0 hz0 hz1' hz2; intro v1 w1 hown1 hgrow hat; have hB1 : Below w.heap.size w w1 := ((((unhide HB).alloc hsz _).alloc (by simp; omega) _).grown hgrow (by simp; omega) (fun k hk => (own_ge' (unhide HOWN) _ hk).1)); have HB1 := hide hB1; have HO1 := hide hown1; clear hgrow hown1 hat hB1))
          go_roundw
          case rel => exact ⟨k + 1, by omega, by go_num, by rw [unhide HSN, if_pos (by rw [unhide HFT]; first | (simp; done) | (simp; omega)), formC_snoc, List.length_append, ← unhide HQ]; exact unhide HO1, unhide HB1⟩
          case measure => simp [intOf]; omega
  · obtain rfl : k = m := by omega
    rw [List.take_of_length_le (by have := unhide HM; omega)] at hown
    go_wp2
    go_ret
    exact ⟨_, rfl, hown, hbel⟩
end Go.Proofs.YtpadbpmnejgckaaDoor
