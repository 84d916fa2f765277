/-
  setof.Int64Sorted.MarshalMsg of a map that has keys: a head, then each key's bytes, by their order (the sort's contract is a parameter). Conditions: at most 100 keys.
-/
import Derived.Test.YtlnpiigdjjadiaaFillint64
import Derived.Test.YtlnpiigdjjadiaaSetParts
import Derived.Test.YtlnpiigdjjadiaaColl
namespace Go.Proofs.Ytlnpiigdjjadiaa
set_option linter.unusedSimpArgs false
set_option linter.unusedVariables false
set_option linter.unusedVariables false
open Go.RowKit Go.Maps
theorem infoK_int64 : (Try.prog.info? 2).map (fun i => (i.zero, i.size, i.bytes)) = some (some (.int .i64 0), 1, 8) := by kernel_rfl
theorem mapNe_int64 (b : Nat) (w : World) : (binOp BinOp.eql 54 (.map (some b)) (.map none)).run Try.prog w = .ok (.bool false) w := by kernel_rfl
set_option maxRecDepth 100000 in
theorem msgsize_int64 (w : World) (b n : Nat) (D : DataW Unit) (hown : w.ownsMap Try.prog 2 (unitElem (H := Unit)) b n D) (hs : Maps.size D ≤ 100) :
    Calls Try.prog 34 #[.map (some b)] w fun e w' => ∃ m : Nat, m ≤ 100000 ∧ e = .returned (.int .i64 m) ∧ w = w' := by
  obtain ⟨q, hq⟩ : ∃ q, q = Maps.size D := ⟨_, rfl⟩
  have hw1 : IntKind.i64.wrap ((q : Int) * 9) = (q : Int) * 9 := by rw [IntKind.wrap_i64]; omega
  have hw2 : IntKind.i64.wrap (5 + (q : Int) * 9) = 5 + (q : Int) * 9 := by rw [IntKind.wrap_i64]; omega
  have hqs := hq.symm
  have hmn := mapNe_int64 b
  clear hq
  go_enter Try.func34, Try.ntmps34
  go_wp2_with (at_len; refine wpList_len_own _ rfl _ 54 rfl 2 43 Try.underlying54 (unitElem (H := Unit)) b n D rfl hown ?_)
  go_ret
  exact ⟨5 + q * 9, by omega, by simp, rfl⟩
/-- What the sort does with a row of one's own. -/
def SortC_int64 : Prop := ∀ (base m cap : Nat) (ad : Addr) (ks : List Int) (W : World), W.ownsRow base 2 1 (.slice (some ad) m cap) m (ks.map (Value.int .i64)) → m ≤ 100 →
  Calls Try.prog 35 #[.slice (some ad) m cap, .func (.func 36) #[] #[]] W fun e w' => e = .returned (.tuple #[]) ∧ ∃ ks' : List Int, ks'.Perm ks ∧ ks'.Pairwise (· ≤ ·) ∧ w'.ownsRow base 2 1 (.slice (some ad) m cap) m (ks'.map (Value.int .i64)) ∧ W.grownBy w' (some ad.block)
theorem wf_int64 {x : Int} (h : (Lit.int .i64 x).wf = true) : -9223372036854775808 ≤ x ∧ x ≤ 9223372036854775807 := by
  simp [Lit.wf, IntKind.min, IntKind.max, IntKind.signed, IntKind.bits] at h
  omega
/-- The bytes of the head of q values and of the first k of them. -/
def part_int64 (q : Nat) (ks : List Int) (k : Nat) : List UInt8 := arrHead q ++ ((ks.take k).map encI).flatten
theorem encI_lenS (x : Int) : (encI x).length ≤ 9 := by
  unfold encI
  repeat' split
  all_goals simp [be]
theorem part_zero_int64 (q : Nat) (ks : List Int) : part_int64 q ks 0 = arrHead q := by simp [part_int64]
theorem part_succ_int64 (q : Nat) (ks : List Int) (k : Nat) (h : k < ks.length) : part_int64 q ks (k + 1) = part_int64 q ks k ++ encI ks[k] := by
  unfold part_int64
  rw [List.take_succ_eq_append_getElem h, List.map_append, List.flatten_append, List.map_singleton, List.flatten_singleton, List.append_assoc]
theorem part_len_int64 (q : Nat) (ks : List Int) (k : Nat) (h : k ≤ ks.length) : (part_int64 q ks k).length ≤ 3 + 9 * k := by
  induction k with
  | zero =>
    rw [part_zero_int64]
    unfold arrHead
    split <;> simp [be]
  | succ k ih =>
    rw [part_succ_int64 q ks k h, List.length_append]
    have := ih (by omega)
    have := encI_lenS ks[k]
    omega
set_option maxRecDepth 100000 in
set_option maxHeartbeats 6400000 in
theorem marshal_int64 (hSort : SortC_int64) (b nb n cap : Nat) (A : Option Addr) (xs : List Value) (zs : List Int) (w : World) (hset : SetAt_int64 w b nb zs) (hwf : ∀ x ∈ zs, (Lit.int .i64 x).wf = true) (hnb : nb ≤ 100) (hne : zs ≠ []) (hown : w.ownsRow (b + 1) 5 1 (.slice A n cap) n xs) (hone : ∀ u ∈ xs, u.oneCell' = true) (hb : b < w.heap.size) (hlen : n ≤ 1000000000) :
    Calls Try.prog 20 #[.map (some b), .slice A n cap] w fun e w' => ∃ (v : Value) (ks : List Int), e = .returned (.tuple #[v, .nilIface]) ∧ Asc ks ∧ (∀ x, x ∈ ks ↔ x ∈ zs) ∧
      w'.ownsRow (b + 1) 5 1 v (n + (part_int64 ks.length ks ks.length).length) (xs ++ (part_int64 ks.length ks ks.length).map u8) ∧ Below b w w' := by
  obtain ⟨D, hmap, hD⟩ := hset
  have hsz : Maps.size D ≤ 100 := Nat.le_trans hmap.size_le hnb
  have hpos : 0 < Maps.size D := by
    obtain ⟨z, l, rfl⟩ := List.exists_cons_of_ne_nil hne
    exact size_pos (k := .int .i64 z) (by rw [hD]; simp)
  obtain ⟨q, hq⟩ : ∃ q, q = Maps.size D := ⟨_, rfl⟩
  have hq0 : ((q : Int) == 0) = false := by simp; omega
  have hwu : IntKind.u32.wrap (q : Int) = q := by
    simp [IntKind.wrap, IntKind.bits, IntKind.signed]
    omega
  have hqs := hq.symm
  clear hq
  have hmn := mapNe_int64 b
  have HMS := hide (msgsize_int64 w b nb D hmap hsz)
  have HMAP := hide hmap
  have HOWN := hide hown
  clear hmap hown
  go_enter Try.func20, Try.ntmps20
  obtain ⟨i0, hi, hx0, hx1, hx2⟩ := info_parts infoK_int64
  go_wp2_with (first
    | (at_len; first | (refine wpList_len_own _ rfl _ 54 rfl 2 43 Try.underlying54 (unitElem (H := Unit)) b nb D rfl (unhide HMAP) ?_) | (refine wpList_len_own _ rfl _ 54 rfl 2 43 Try.underlying54 (unitElem (H := Unit)) b nb D rfl (unhide HMAP2) ?_) | (refine wpList_len_own _ rfl _ 54 rfl 2 43 Try.underlying54 (unitElem (H := Unit)) b nb D rfl (unhide HMAP3) ?_))
    | (go_at_call 34; refine (unhide HMS).mono ?_; rintro e w1 ⟨ms, hms, rfl, rfl⟩)
    | (go_at_call 23; go_loud (refine (setEnsure_any (b + 1) A n cap ms xs _ (unhide HOWN) hone hb (by omega) (by omega)).mono ?_; rintro e w2 ⟨A2, c2, rfl, hown2, hg2, hc2, hcm2⟩; have hmap2 := (unhide HMAP).kept hg2 (fun e => by have := ((unhide HOWN).lt _ e.symm).1; omega); have HMAP2 := hide hmap2; have HB2 := hide ((Below.refl b w).grown hg2 (Nat.le_of_lt hb) (fun j hj => by have := ((unhide HOWN).lt j hj).1; omega)); have HOWN2 := hide hown2; have hz2 := hg2.size; clear hown2 hg2 hmap2))
    | (go_at_call 22; go_loud (refine (appendArr_any q (by omega) (b + 1) A2 n c2 xs _ (unhide HOWN2) hone (by omega) (by omega)).mono ?_; rintro e w3 ⟨A3, c3, rfl, hown3, hg3, hc3, hcm3⟩; have hmap3 := (unhide HMAP2).kept hg3 (fun e => by have := ((unhide HOWN2).lt _ e.symm).1; omega); have HMAP3 := hide hmap3; have HB3 := hide ((unhide HB2).grown hg3 (by omega) (fun j hj => by have := ((unhide HOWN2).lt j hj).1; omega)); have HOWN3 := hide hown3; have hz3 := hg3.size; clear hown3 hg3 hmap3))
    | (at_make; go_loud (refine wpList_make_own _ rfl _ _ 37 rfl w3.heap.size 2 i0 (.int .i64 0) 1 Try.underlying37 hi hx0 hx1 _ _ _ q rfl rfl (by simp [hqs]) (by rw [hx2]; omega) (by unfold maxLen; omega) (Nat.le_refl _) ?_; intro w4 hrow4 hg4; have HROW4 := hide hrow4; have HMAP4 := hide ((unhide HMAP3).kept hg4 (by simp)); have HG4 := hide hg4; clear hrow4 hg4))
    | (at_range; go_loud (refine wpList_range_own _ rfl _ 54 rfl 2 43 lawK_int64 Try.underlying54 (unitElem (H := Unit)) b nb D rfl (unhide HMAP4) ?_; intro w5 hrg5 hg5 hs5; clear hs5)))
  go_frame
  have hbw3 : b < w3.heap.size := by omega
  have hbk : some b ≠ (none : Option Nat) := by simp
  go_loopw [6] (fun v wr => ∃ (left : Lit → Bool) (cnt : Nat) (ks : List Int), wr.ranges Try.prog 2 (unitElem (H := Unit)) b w4.heap.size nb D left cnt ∧ ks.length + cnt ≤ q ∧
      wr.ownsRow w3.heap.size 2 1 v ks.length (ks.map (Value.int .i64)) ∧ v ≠ .slice none 0 0 ∧ Coll .i64 D left ks ∧ Below w3.heap.size w3 wr)
    (fun _ wr => wr.rangeLeft b w4.heap.size)
  case atStart =>
    exact ⟨_, _, [], hrg5, by simp; omega, (unhide HROW4).kept hg5 (Or.inr (by simp [Value.ownBlock])), by simp, Coll.start .i64 D,
      ((Below.refl _ _).grown (unhide HG4) (Nat.le_refl _) (fun j hj => by cases hj)).grown hg5 (unhide HG4).size (fun j hj => by cases hj)⟩
  case round =>
    obtain ⟨left, cnt, ks, hrg, hcs, hrow, hnn, hC, hnx⟩ := hrel
    have HRG := hide hrg
    have HROW := hide hrow
    have HNN := hide hnn
    have HC := hide hC
    have HNX := hide hnx
    clear hrg hrow hnn hC hnx
    go_wp2_with (at_next; go_loud (refine wpList_next_ranges _ rfl _ rfl 2 lawK_int64 (unitElem (H := Unit)) (Value.int .i64) (fun _ : Unit => Value.agg #[]) (fun key kl hk => by obtain ⟨x, rfl, _⟩ := Maps.keyOf_int_inv Try.underlying2 hk; exact ⟨x, rfl⟩) (fun v y hv => ⟨(), (unitElem_inv hv).1⟩) b w4.heap.size nb _ _ _ rfl (unhide HRG) ?_ ?_))
    · intro hc0 hl0
      have hkl := (unhide HC).size (unhide HRG).owns lawK_int64 Try.underlying2 hl0
      rw [hqs] at hkl
      have hrow := unhide HROW
      rw [hkl] at hrow
      obtain ⟨ad, cap2, rfl, had1, had2, hadb⟩ := own_at hrow (unhide HNN)
      have hrl := hrow.lt
      have HS := hide (hSort _ q cap2 ad ks wr hrow (by omega))
      have HB4 := hide (((unhide HB3).trans ((unhide HNX).mono (Nat.le_of_lt hbw3))))
      have HOWN4 := hide ((unhide HOWN3).kept (only_of_belowS (unhide HNX) none) (by cases (Value.slice A3 (n + (arrHead q).length) c3).ownBlock <;> simp))
      have hz4 := (unhide HNX).size
      have hz5 := hz4
      have HL3 := hide (unhide HOWN3).lt
      have HKM : Hid (∀ x, x ∈ ks ↔ x ∈ zs) := hide (fun x => by rw [(unhide HC).2 x, hl0, hD x]; simp)
      clear hrow hadb hl0
      go_wp2_with (go_at_call 35; go_loud (refine (unhide HS).mono ?_; rintro e w6 ⟨rfl, ks', hperm, hsort, hown6, hg6⟩; have HPERM := hide hperm; have HSORT := hide hsort; have HROW6 := hide hown6; have HG6 := hide hg6; clear hperm hsort hown6 hg6))
      have hz6 := (unhide HG6).size
      have hlk : ks'.length = q := by rw [(unhide HPERM).length_eq, hkl]
      have HMEM : Hid (∀ x, x ∈ ks' ↔ x ∈ zs) := hide (fun x => by rw [(unhide HPERM).mem_iff, unhide HKM])
      have HASC := hide (asc_of_sorted (unhide HSORT) ((unhide HPERM).nodup_iff.2 (unhide HC).1))
      have HRD := hide (Reads.of_own (unhide HROW6))
      have HLK := hide hlk
      have HADS := hide had1
      have hadb : b < ad.block := by omega
      go_loopw [1, 45] (fun v i wr => ∃ (k c' : Nat) (A' : Option Addr), k ≤ q ∧ i = .int .i64 k ∧ v = .slice A' (n + (part_int64 q ks' k).length) c' ∧ wr.ownsRow (b + 1) 5 1 v (n + (part_int64 q ks' k).length) (xs ++ (part_int64 q ks' k).map u8) ∧
        Below b w wr ∧ wr.heap[ad.block]? = w6.heap[ad.block]? ∧ (∀ j, v.ownBlock = some j → j ≠ ad.block) ∧ w6.heap.size ≤ wr.heap.size) (fun _ i _ => q - (intOf i).toNat)
      case atStart =>
        refine ⟨0, c3, A3, Nat.zero_le _, rfl, by rw [part_zero_int64], ?_, (unhide HB4).grown (unhide HG6) (by omega) (fun j hj => by cases hj; omega), rfl, fun j hj => ?_, Nat.le_refl _⟩
        · rw [part_zero_int64]
          exact (unhide HOWN4).kept (unhide HG6) (Or.inr (fun e => by have := (unhide HL3 _ e).2; omega))
        · have := (unhide HL3 j hj).2
          omega
      case round =>
        obtain ⟨k, c8, A8, hk, rfl, rfl, hown8, hb8, hh8, hne8, hz8⟩ := hrel
        have hnx := unhide HLK
        by_cases hlt : k < q
        · have hkx : k < ks'.length := by omega
          obtain ⟨ad8, u, had8, hSb, hu, hcell0⟩ := (unhide HRD).at_ hlt
          rw [List.getElem?_map, List.getElem?_eq_getElem hkx] at hu
          obtain rfl := Option.some.inj hu
          obtain rfl := Option.some.inj had8
          have hcell : wr.cell? (ad.add k) = some (.int .i64 ks'[k]) := (World.cell?_of_block (by rw [block_of_add]; exact hh8)).trans hcell0
          have hst := part_succ_int64 q ks' k hkx
          have hpl := part_len_int64 q ks' k (by omega)
          have hxz := (unhide HMEM ks'[k]).1 (List.getElem_mem hkx)
          have hxb := wf_int64 (hwf _ hxz)
          generalize part_int64 q ks' k = pb at *
          generalize ks'[k] = x at *
          have HST := hide hst
          have HOWN8 := hide hown8
          have HB8 := hide hb8
          have HH8 := hide hh8
          have HNE8 := hide hne8
          have hone8 : ∀ u ∈ xs ++ pb.map u8, u.oneCell' = true := one_app hone
          have hk0 : (0 : Int) ≤ (k : Int) := by omega
          have hk1 : (k : Int) < (q : Int) := by omega
          have hbz : b + 1 ≤ wr.heap.size := by omega
          clear hnx hu hcell0 hst hown8 hb8 hh8 hne8 hSb had8 hxz
          go_wp2_with (go_at_call 37; go_loud (refine (AppendInt64_any x hxb.1 hxb.2 (b + 1) A8 (n + pb.length) c8 (xs ++ pb.map u8) _ (unhide HOWN8) hone8 hbz (by omega)).mono ?_; rintro e w9 ⟨A9, c9, rfl, hown9, hg9, hc9, hcm9, hmv9⟩; have HOWN9 := hide hown9; have HG9 := hide hg9; have HMV9 := hide hmv9; clear hown9 hg9 hmv9))
          go_roundw
          case rel =>
            have hz9 := (unhide HG9).size
            have e1 : n + (part_int64 q ks' (k + 1)).length = n + pb.length + (encI x).length := by rw [unhide HST, List.length_append, Nat.add_assoc]
            have e2 : xs ++ (part_int64 q ks' (k + 1)).map u8 = xs ++ pb.map u8 ++ (encI x).map u8 := by rw [unhide HST, List.map_append, List.append_assoc]
            refine ⟨k + 1, c9, A9, hlt, by go_num, by rw [e1], by rw [e1, e2]; exact unhide HOWN9, (unhide HB8).grown (unhide HG9) (by omega) (fun j hj => by have := ((unhide HOWN8).lt j hj).1; omega), ?_, fun j hj => ?_, by omega⟩
            · exact ((unhide HG9).block _ (by omega) (fun e => unhide HNE8 _ e.symm rfl)).trans (unhide HH8)
            · rcases unhide HMV9 j hj with h | h
              · exact unhide HNE8 j h
              · omega
          case measure => simp [intOf]; omega
        · obtain rfl : k = q := by omega
          have hlt2 : ¬ (k : Int) < (k : Int) := by omega
          have HOWN8 := hide hown8
          have HB8 := hide hb8
          clear hown8 hb8 hh8 hne8 hnx
          go_wp2
          go_ret2
          refine ⟨_, rfl, ks', unhide HASC, unhide HMEM, ?_, unhide HB8⟩
          rw [unhide HLK]
          exact unhide HOWN8
    · intro x c kl y w6 cnt6 hkey hlk hv hat hrg6 hlt6 hg6 hs6 hen
      obtain ⟨x', ex, rfl, hwx⟩ := Maps.keyOf_int_inv Try.underlying2 hkey
      cases ex
      have HROW6 := hide ((unhide HROW).kept hg6 (Or.inr (row_ne_iterS (unhide HROW) (unhide HRG)).symm))
      have HC6 := hide ((unhide HC).step hlk hat)
      have HRG6 := hide hrg6
      have hnx := (unhide HNX).size
      have HNX6 := hide ((unhide HNX).grown hg6 hnx (fun j hj => by cases hj; exact (unhide HG4).size))
      have hz6 := hg6.size
      clear hs6 hat hlk hrg6 hg6 hkey hv
      go_wp2_with (at_builtin; go_loud (refine wpList_append_at rfl _ _ _ rfl w3.heap.size 2 i0 (.int .i64 0) 1 8 Try.underlying37 hi hx0 hx1 hx2 rfl (by decide) _ _ _ rfl ((unhide HROW6).alloc _) ⟨w6.heap.size, 0, none⟩ 1 1 [.int .i64 x] rfl rfl (cell_one_new _ _ _) (by simp [Value.oneCell']) (by unfold maxLen; omega) (by omega) (by simp; omega) ?_; intro v' w7 hown7 hg7 hmv7; have HROW7 := hide hown7; have HG7 := hide hg7; clear hown7 hg7; go_frame))
      go_roundw
      case rel =>
        have hrg7 := ((unhide HRG6).alloc (.cells #[.int .i64 x] 2)).kept (unhide HG7) (row_ne_lowS (unhide HROW6) (by omega)) (row_ne_iterS (unhide HROW6) (unhide HRG6))
        refine ⟨_, cnt6, ks ++ [x], hrg7, by simp; omega, by simpa using unhide HROW7, own_nn (unhide HROW7), unhide HC6, ?_⟩
        exact ((unhide HNX6).alloc (by omega) _).grown (unhide HG7) (by simp; omega) (fun j hj => ((unhide HROW6).lt j hj).1)
      case measure =>
        have hrg7 := ((unhide HRG6).alloc (.cells #[.int .i64 x] 2)).kept (unhide HG7) (row_ne_lowS (unhide HROW6) (by omega)) (row_ne_iterS (unhide HROW6) (unhide HRG6))
        rw [hrg7.left_eq, (unhide HRG).left_eq]
        exact hlt6
end Go.Proofs.Ytlnpiigdjjadiaa
