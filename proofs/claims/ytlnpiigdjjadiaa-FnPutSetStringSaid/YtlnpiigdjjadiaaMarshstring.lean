/-
  setof.StringSorted.MarshalMsg of a map that has keys: a head, then each key's bytes, by their order (the sort's contract is a parameter). Conditions: at most 100 keys.
-/
import Derived.Test.YtlnpiigdjjadiaaFillstring
import Derived.Test.YtlnpiigdjjadiaaAppStr
import Derived.Test.YtlnpiigdjjadiaaCollS
namespace Go.Proofs.Ytlnpiigdjjadiaa
set_option linter.unusedSimpArgs false
set_option linter.unusedVariables false
set_option linter.unusedVariables false
open Go.RowKit Go.Maps
theorem infoK_string : (Try.prog.info? 9).map (fun i => (i.zero, i.size, i.bytes)) = some (some (.string ⟨#[]⟩), 1, 16) := by kernel_rfl
theorem mapNe_string (b : Nat) (w : World) : (binOp BinOp.eql 42 (.map (some b)) (.map none)).run Try.prog w = .ok (.bool false) w := by kernel_rfl
set_option maxRecDepth 100000 in
set_option maxHeartbeats 3200000 in
theorem msgsize_string (w : World) (b n : Nat) (zs : List Str) (D : DataW Unit) (hown : w.ownsMap Try.prog 9 (unitElem (H := Unit)) b n D) (hs : Maps.size D ≤ 100) (hD : ∀ x, Maps.has D (.string x) = decide (x ∈ zs)) (hwf : ∀ x ∈ zs, x.length ≤ 1000) :
    Calls Try.prog 24 #[.map (some b)] w fun e w' => ∃ m : Nat, m ≤ 200000 ∧ e = .returned (.int .i64 m) ∧ Below w.heap.size w w' := by
  have hmn := mapNe_string b
  have HOWN := hide hown
  have HD := hide hD
  have HWF := hide hwf
  have hbk : some b ≠ (none : Option Nat) := by simp
  clear hown hD hwf
  go_enter Try.func24, Try.ntmps24
  go_wp2_with (at_range; go_loud (refine wpList_range_own _ rfl _ 42 rfl 9 43 lawK_string Try.underlying42 (unitElem (H := Unit)) b n D rfl (unhide HOWN) ?_; intro w5 hrg5 hg5 hs5; clear hs5))
  go_frame
  go_loopw [3] (fun v wr => ∃ (left : Lit → Bool) (cnt m : Nat), wr.ranges Try.prog 9 (unitElem (H := Unit)) b w.heap.size n D left cnt ∧ v = .int .i64 m ∧ m + 1005 * cnt ≤ 100505 ∧ Below w.heap.size w wr)
    (fun _ wr => wr.rangeLeft b w.heap.size)
  case atStart => exact ⟨_, _, 5, hrg5, rfl, by omega, (Below.refl _ _).grown hg5 (Nat.le_refl _) (fun j hj => by cases hj)⟩
  case round =>
    obtain ⟨left, cnt, m, hrg, rfl, hcs, hnx⟩ := hrel
    have HRG := hide hrg
    have HNX := hide hnx
    clear hrg hnx
    go_wp2_with (at_next; go_loud (refine wpList_next_ranges _ rfl _ rfl 9 lawK_string (unitElem (H := Unit)) encS (fun _ : Unit => Value.agg #[]) (fun key kl hk => by obtain ⟨x, hx, _⟩ := Maps.keyOf_str Try.underlying9 hk; exact ⟨x, hx⟩) (fun v y hv => ⟨(), (unitElem_inv hv).1⟩) b w.heap.size n _ _ _ rfl (unhide HRG) ?_ ?_))
    · intro hc0 hl0
      go_wp2
      go_ret
      exact ⟨m, by omega, rfl, unhide HNX⟩
    · intro x c kl y w6 cnt6 hkey hlk hv hat hrg6 hlt6 hg6 hs6 hen
      obtain ⟨x', ex, rfl, hwx⟩ := Maps.keyOf_str Try.underlying9 hkey
      obtain rfl : x = x' := encStr_inj ex
      have hmem : x ∈ zs := by
        have h1 := has_true_of_atKey hat
        rw [unhide HD x] at h1
        exact of_decide_eq_true h1
      have hlx := unhide HWF x hmem
      have hsz : (⟨x.toArray⟩ : ByteArray).size = x.length := by simp [ByteArray.size]
      have HRG6 := hide hrg6
      have hnx := (unhide HNX).size
      have HNX6 := hide ((unhide HNX).grown hg6 hnx (fun j hj => by cases hj; exact Nat.le_refl _))
      clear hs6 hat hlk hrg6 hg6 hkey hv ex hmem
      go_wp2
      go_roundw
      case rel => exact ⟨_, cnt6, m + (5 + x.length), unhide HRG6, by simp, by omega, unhide HNX6⟩
      case measure =>
        rw [(unhide HRG6).left_eq, (unhide HRG).left_eq]
        exact hlt6
/-- What the sort does with a row of one's own. -/
def SortC_string : Prop := ∀ (base m cap : Nat) (ad : Addr) (ks : List Str) (W : World), W.ownsRow base 9 1 (.slice (some ad) m cap) m (ks.map encS) → m ≤ 100 →
  Calls Try.prog 25 #[.slice (some ad) m cap] W fun e w' => e = .returned (.tuple #[]) ∧ ∃ ks' : List Str, ks'.Perm ks ∧ ks'.Pairwise (· ≤ ·) ∧ w'.ownsRow base 9 1 (.slice (some ad) m cap) m (ks'.map encS) ∧ W.grownBy w' (some ad.block)
/-- The bytes of the head of q values and of the first k of them. -/
def part_string (q : Nat) (ks : List Str) (k : Nat) : List UInt8 := arrHead q ++ ((ks.take k).map encT).flatten
theorem part_zero_string (q : Nat) (ks : List Str) : part_string q ks 0 = arrHead q := by simp [part_string]
theorem part_succ_string (q : Nat) (ks : List Str) (k : Nat) (h : k < ks.length) : part_string q ks (k + 1) = part_string q ks k ++ encT ks[k] := by
  unfold part_string
  rw [List.take_succ_eq_append_getElem h, List.map_append, List.flatten_append, List.map_singleton, List.flatten_singleton, List.append_assoc]
theorem part_len_string (q : Nat) (ks : List Str) (k : Nat) (h : k ≤ ks.length) (hks : ∀ x ∈ ks, x.length ≤ 1000) : (part_string q ks k).length ≤ 3 + 1003 * k := by
  induction k with
  | zero =>
    rw [part_zero_string]
    unfold arrHead
    split <;> simp [be]
  | succ k ih =>
    rw [part_succ_string q ks k h, List.length_append]
    have := ih (by omega)
    have := encT_len ks[k]
    have := hks _ (List.getElem_mem h)
    omega
set_option maxRecDepth 100000 in
set_option maxHeartbeats 6400000 in
theorem marshal_string (hSort : SortC_string) (b nb n cap : Nat) (A : Option Addr) (xs : List Value) (zs : List Str) (w : World) (hset : SetAt_string w b nb zs) (hwf : ∀ x ∈ zs, x.length ≤ 1000) (hnb : nb ≤ 100) (hne : zs ≠ []) (hown : w.ownsRow (b + 1) 5 1 (.slice A n cap) n xs) (hone : ∀ u ∈ xs, u.oneCell' = true) (hb : b < w.heap.size) (hlen : n ≤ 1000000000) :
    Calls Try.prog 15 #[.map (some b), .slice A n cap] w fun e w' => ∃ (v : Value) (ks : List Str), e = .returned (.tuple #[v, .nilIface]) ∧ AscS ks ∧ (∀ x, x ∈ ks ↔ x ∈ zs) ∧
      w'.ownsRow (b + 1) 5 1 v (n + (part_string ks.length ks ks.length).length) (xs ++ (part_string ks.length ks ks.length).map u8) ∧ Below b w w' := by
  obtain ⟨D, hmap, hD⟩ := hset
  have hsz : Maps.size D ≤ 100 := Nat.le_trans hmap.size_le hnb
  have hpos : 0 < Maps.size D := by
    obtain ⟨z, l, rfl⟩ := List.exists_cons_of_ne_nil hne
    exact size_pos (k := .string z) (by rw [hD]; simp)
  obtain ⟨q, hq⟩ : ∃ q, q = Maps.size D := ⟨_, rfl⟩
  have hq0 : ((q : Int) == 0) = false := by simp; omega
  have hwu : IntKind.u32.wrap (q : Int) = q := by
    simp [IntKind.wrap, IntKind.bits, IntKind.signed]
    omega
  have hqs := hq.symm
  clear hq
  have hmn := mapNe_string b
  have hbk : some b ≠ (none : Option Nat) := by simp
  have HMS := hide (msgsize_string w b nb zs D hmap hsz hD hwf)
  have HMAP := hide hmap
  have HOWN := hide hown
  clear hmap hown
  go_enter Try.func15, Try.ntmps15
  obtain ⟨i0, hi, hx0, hx1, hx2⟩ := info_parts infoK_string
  go_wp2_with (first
    | (at_len; first | (refine wpList_len_own _ rfl _ 42 rfl 9 43 Try.underlying42 (unitElem (H := Unit)) b nb D rfl (unhide HMAP) ?_) | (refine wpList_len_own _ rfl _ 42 rfl 9 43 Try.underlying42 (unitElem (H := Unit)) b nb D rfl (unhide HMAP2) ?_) | (refine wpList_len_own _ rfl _ 42 rfl 9 43 Try.underlying42 (unitElem (H := Unit)) b nb D rfl (unhide HMAP3) ?_))
    | (go_at_call 24; refine (unhide HMS).mono ?_; rintro e w1 ⟨ms, hms, rfl, hb1⟩; have HMAP1 := hide ((unhide HMAP).kept (only_of_belowS hb1 none) hbk); have HOWN1 := hide ((unhide HOWN).kept (only_of_belowS hb1 none) (by cases (Value.slice A n cap).ownBlock <;> simp)); have HB1 := hide (hb1.mono (Nat.le_of_lt hb)); have hz1 := hb1.size; clear hb1)
    | (go_at_call 23; go_loud (refine (setEnsure_any (b + 1) A n cap ms xs _ (unhide HOWN1) hone (by omega) (by omega) (by omega)).mono ?_; rintro e w2 ⟨A2, c2, rfl, hown2, hg2, hc2, hcm2⟩; have hmap2 := (unhide HMAP1).kept hg2 (fun e => by have := ((unhide HOWN1).lt _ e.symm).1; omega); have HMAP2 := hide hmap2; have HB2 := hide ((unhide HB1).grown hg2 (by omega) (fun j hj => by have := ((unhide HOWN1).lt j hj).1; omega)); have HOWN2 := hide hown2; have hz2 := hg2.size; clear hown2 hg2 hmap2))
    | (go_at_call 22; go_loud (refine (appendArr_any q (by omega) (b + 1) A2 n c2 xs _ (unhide HOWN2) hone (by omega) (by omega)).mono ?_; rintro e w3 ⟨A3, c3, rfl, hown3, hg3, hc3, hcm3⟩; have hmap3 := (unhide HMAP2).kept hg3 (fun e => by have := ((unhide HOWN2).lt _ e.symm).1; omega); have HMAP3 := hide hmap3; have HB3 := hide ((unhide HB2).grown hg3 (by omega) (fun j hj => by have := ((unhide HOWN2).lt j hj).1; omega)); have HOWN3 := hide hown3; have hz3 := hg3.size; clear hown3 hg3 hmap3))
    | (at_make; go_loud (refine wpList_make_own _ rfl _ _ 23 rfl w3.heap.size 9 i0 (.string ⟨#[]⟩) 1 Try.underlying23 hi hx0 hx1 _ _ _ q rfl rfl (by simp [hqs]) (by rw [hx2]; omega) (by unfold maxLen; omega) (Nat.le_refl _) ?_; intro w4 hrow4 hg4; have HROW4 := hide hrow4; have HMAP4 := hide ((unhide HMAP3).kept hg4 (by simp)); have HG4 := hide hg4; clear hrow4 hg4))
    | (at_range; go_loud (refine wpList_range_own _ rfl _ 42 rfl 9 43 lawK_string Try.underlying42 (unitElem (H := Unit)) b nb D rfl (unhide HMAP4) ?_; intro w5 hrg5 hg5 hs5; clear hs5)))
  go_frame
  have hbw3 : b < w3.heap.size := by omega
  go_loopw [6] (fun v wr => ∃ (left : Lit → Bool) (cnt : Nat) (ks : List Str), wr.ranges Try.prog 9 (unitElem (H := Unit)) b w4.heap.size nb D left cnt ∧ ks.length + cnt ≤ q ∧
      wr.ownsRow w3.heap.size 9 1 v ks.length (ks.map encS) ∧ v ≠ .slice none 0 0 ∧ CollS D left ks ∧ Below w3.heap.size w3 wr)
    (fun _ wr => wr.rangeLeft b w4.heap.size)
  case atStart =>
    exact ⟨_, _, [], hrg5, by simp; omega, (unhide HROW4).kept hg5 (Or.inr (by simp [Value.ownBlock])), by simp, CollS.start D,
      ((Below.refl _ _).grown (unhide HG4) (Nat.le_refl _) (fun j hj => by cases hj)).grown hg5 (unhide HG4).size (fun j hj => by cases hj)⟩
  case round =>
    obtain ⟨left, cnt, ks, hrg, hcs, hrow, hnn, hC, hnx⟩ := hrel
    have HRG := hide hrg
    have HROW := hide hrow
    have HNN := hide hnn
    have HC := hide hC
    have HNX := hide hnx
    clear hrg hrow hnn hC hnx
    go_wp2_with (at_next; go_loud (refine wpList_next_ranges _ rfl _ rfl 9 lawK_string (unitElem (H := Unit)) encS (fun _ : Unit => Value.agg #[]) (fun key kl hk => by obtain ⟨x, hx, _⟩ := Maps.keyOf_str Try.underlying9 hk; exact ⟨x, hx⟩) (fun v y hv => ⟨(), (unitElem_inv hv).1⟩) b w4.heap.size nb _ _ _ rfl (unhide HRG) ?_ ?_))
    · intro hc0 hl0
      have hkl := (unhide HC).size (unhide HRG).owns lawK_string Try.underlying9 hl0
      rw [hqs] at hkl
      have hrow := unhide HROW
      rw [hkl] at hrow
      obtain ⟨ad, cap2, rfl, had1, had2, hadb⟩ := own_at hrow (unhide HNN)
      have hrl := hrow.lt
      have HS := hide (hSort _ q cap2 ad ks wr hrow (by omega))
      have HB4 := hide (((unhide HB3).trans ((unhide HNX).mono (Nat.le_of_lt hbw3))))
      have HOWN4 := hide ((unhide HOWN3).kept (only_of_belowS (unhide HNX) none) (by cases (Value.slice A3 (n + (arrHead q).length) c3).ownBlock <;> simp))
      have hz4 := (unhide HNX).size
      have hz5 := hz4
      have HL3 := hide (unhide HOWN3).lt
      have HKM : Hid (∀ x, x ∈ ks ↔ x ∈ zs) := hide (fun x => by rw [(unhide HC).2 x, hl0, hD x]; simp)
      clear hrow hadb hl0
      go_wp2_with (go_at_call 25; go_loud (refine (unhide HS).mono ?_; rintro e w6 ⟨rfl, ks', hperm, hsort, hown6, hg6⟩; have HPERM := hide hperm; have HSORT := hide hsort; have HROW6 := hide hown6; have HG6 := hide hg6; clear hperm hsort hown6 hg6))
      have hz6 := (unhide HG6).size
      have hlk : ks'.length = q := by rw [(unhide HPERM).length_eq, hkl]
      have HMEM : Hid (∀ x, x ∈ ks' ↔ x ∈ zs) := hide (fun x => by rw [(unhide HPERM).mem_iff, unhide HKM])
      have HASC := hide (asc_of_sortedS (unhide HSORT) ((unhide HPERM).nodup_iff.2 (unhide HC).1))
      have HRD := hide (Reads.of_own (unhide HROW6))
      have HLK := hide hlk
      have HADS := hide had1
      have hadb : b < ad.block := by omega
      go_loopw [1, 45] (fun v i wr => ∃ (k c' : Nat) (A' : Option Addr), k ≤ q ∧ i = .int .i64 k ∧ v = .slice A' (n + (part_string q ks' k).length) c' ∧ wr.ownsRow (b + 1) 5 1 v (n + (part_string q ks' k).length) (xs ++ (part_string q ks' k).map u8) ∧
        Below b w wr ∧ wr.heap[ad.block]? = w6.heap[ad.block]? ∧ (∀ j, v.ownBlock = some j → j ≠ ad.block) ∧ w6.heap.size ≤ wr.heap.size) (fun _ i _ => q - (intOf i).toNat)
      case atStart =>
        refine ⟨0, c3, A3, Nat.zero_le _, rfl, by rw [part_zero_string], ?_, (unhide HB4).grown (unhide HG6) (by omega) (fun j hj => by cases hj; omega), rfl, fun j hj => ?_, Nat.le_refl _⟩
        · rw [part_zero_string]
          exact (unhide HOWN4).kept (unhide HG6) (Or.inr (fun e => by have := (unhide HL3 _ e).2; omega))
        · have := (unhide HL3 j hj).2
          omega
      case round =>
        obtain ⟨k, c8, A8, hk, rfl, rfl, hown8, hb8, hh8, hne8, hz8⟩ := hrel
        have hnx := unhide HLK
        by_cases hlt : k < q
        · have hkx : k < ks'.length := by omega
          obtain ⟨ad8, u, had8, hSb, hu, hcell0⟩ := (unhide HRD).at_ hlt
          rw [List.getElem?_map, List.getElem?_eq_getElem hkx] at hu
          obtain rfl := Option.some.inj hu
          obtain rfl := Option.some.inj had8
          have hcell : wr.cell? (ad.add k) = some (encS ks'[k]) := (World.cell?_of_block (by rw [block_of_add]; exact hh8)).trans hcell0
          have hst := part_succ_string q ks' k hkx
          have hpl := part_len_string q ks' k (by omega) (fun x hx => hwf x ((unhide HMEM x).1 hx))
          have hxz := (unhide HMEM ks'[k]).1 (List.getElem_mem hkx)
          have hxb := hwf _ hxz
          generalize part_string q ks' k = pb at *
          generalize ks'[k] = x at *
          have HST := hide hst
          have HOWN8 := hide hown8
          have HB8 := hide hb8
          have HH8 := hide hh8
          have HNE8 := hide hne8
          have hone8 : ∀ u ∈ xs ++ pb.map u8, u.oneCell' = true := one_app hone
          have hk0 : (0 : Int) ≤ (k : Int) := by omega
          have hk1 : (k : Int) < (q : Int) := by omega
          have hbz : b + 1 ≤ wr.heap.size := by omega
          clear hnx hu hcell0 hst hown8 hb8 hh8 hne8 hSb had8 hxz
          go_wp2_with (go_at_call 26; go_loud (refine (AppendString_any x hxb (b + 1) A8 (n + pb.length) c8 (xs ++ pb.map u8) _ (unhide HOWN8) hone8 hbz (by omega)).mono ?_; rintro e w9 ⟨A9, c9, rfl, hown9, hg9, hc9, hcm9, hmv9⟩; have HOWN9 := hide hown9; have HG9 := hide hg9; have HMV9 := hide hmv9; clear hown9 hg9 hmv9))
          go_roundw
          case rel =>
            have hz9 := (unhide HG9).size
            have e1 : n + (part_string q ks' (k + 1)).length = n + pb.length + (encT x).length := by rw [unhide HST, List.length_append, Nat.add_assoc]
            have e2 : xs ++ (part_string q ks' (k + 1)).map u8 = xs ++ pb.map u8 ++ (encT x).map u8 := by rw [unhide HST, List.map_append, List.append_assoc]
            refine ⟨k + 1, c9, A9, hlt, by go_num, by rw [e1], by rw [e1, e2]; exact unhide HOWN9, (unhide HB8).grown (unhide HG9) (by omega) (fun j hj => by have := ((unhide HOWN8).lt j hj).1; omega), ?_, fun j hj => ?_, by omega⟩
            · exact ((unhide HG9).block _ (by omega) (fun e => unhide HNE8 _ e.symm rfl)).trans (unhide HH8)
            · rcases unhide HMV9 j hj with h | h
              · exact unhide HNE8 j h
              · omega
          case measure => simp [intOf]; omega
        · obtain rfl : k = q := by omega
          have hlt2 : ¬ (k : Int) < (k : Int) := by omega
          have HOWN8 := hide hown8
          have HB8 := hide hb8
          clear hown8 hb8 hh8 hne8 hnx
          go_wp2
          go_ret2
          refine ⟨_, rfl, ks', unhide HASC, unhide HMEM, ?_, unhide HB8⟩
          rw [unhide HLK]
          exact unhide HOWN8
    · intro x c kl y w6 cnt6 hkey hlk hv hat hrg6 hlt6 hg6 hs6 hen
      obtain ⟨x', ex, rfl, hwx⟩ := Maps.keyOf_str Try.underlying9 hkey
      obtain rfl : x = x' := encStr_inj ex
      have HROW6 := hide ((unhide HROW).kept hg6 (Or.inr (row_ne_iterS (unhide HROW) (unhide HRG)).symm))
      have HC6 := hide ((unhide HC).step hlk hat)
      have HRG6 := hide hrg6
      have hnx := (unhide HNX).size
      have HNX6 := hide ((unhide HNX).grown hg6 hnx (fun j hj => by cases hj; exact (unhide HG4).size))
      have hz6 := hg6.size
      clear hs6 hat hlk hrg6 hg6 hkey hv ex
      go_wp2_with (at_builtin; go_loud (refine wpList_append_at rfl _ _ _ rfl w3.heap.size 9 i0 (.string ⟨#[]⟩) 1 16 Try.underlying23 hi hx0 hx1 hx2 rfl (by decide) _ _ _ rfl ((unhide HROW6).alloc _) ⟨w6.heap.size, 0, none⟩ 1 1 [encS x] rfl rfl (cell_one_new _ _ _) (by simp [Value.oneCell']) (by unfold maxLen; omega) (by omega) (by simp; omega) ?_; intro v' w7 hown7 hg7 hmv7; have HROW7 := hide hown7; have HG7 := hide hg7; clear hown7 hg7; go_frame))
      go_roundw
      case rel =>
        have hrg7 := ((unhide HRG6).alloc (.cells #[encS x] 9)).kept (unhide HG7) (row_ne_lowS (unhide HROW6) (by omega)) (row_ne_iterS (unhide HROW6) (unhide HRG6))
        refine ⟨_, cnt6, ks ++ [x], hrg7, by simp; omega, by simpa using unhide HROW7, own_nn (unhide HROW7), unhide HC6, ?_⟩
        exact ((unhide HNX6).alloc (by omega) _).grown (unhide HG7) (by simp; omega) (fun j hj => ((unhide HROW6).lt j hj).1)
      case measure =>
        have hrg7 := ((unhide HRG6).alloc (.cells #[encS x] 9)).kept (unhide HG7) (row_ne_lowS (unhide HROW6) (by omega)) (row_ne_iterS (unhide HROW6) (unhide HRG6))
        rw [hrg7.left_eq, (unhide HRG).left_eq]
        exact hlt6
end Go.Proofs.Ytlnpiigdjjadiaa
