/-
  The walk of the law FnPutComplex64. No condition.
-/
import Derived.Test.YtloaaffkjhkpaaaDoorCplxG
import Derived.Test.YtloaaffkjhkpaaaDoorAppended
import Derived.Test.YtloaaffkjhkpaaaDoorRow
import Derived.BigGuardPart
namespace Go.Proofs.YtloaaffkjhkpaaaDoor
set_option linter.unusedSimpArgs false
set_option linter.unusedVariables false
set_option linter.unusedVariables false
open Go.RowKit
def TrueC (w : World) (e : Ending) (w' : World) : Prop := e = .returned (.bool true) ∧ Below w.heap.size w w'
theorem tPack_C (x y : Nat) : tPack 1 (encC x y) = some (.mk 10 0 (be (x : Int) 4 ++ be (y : Int) 4) 3 [], []) := by
  unfold encC
  simp only [tPack]
  rw [if_neg (by decide), if_neg (by decide), if_neg (by decide), if_neg (by decide), if_neg (by decide)]
  unfold tCoded
  have hs : codeSize 215 = 0 := by decide
  simp only [show (215 : UInt8).toNat = 215 from rfl, hs]
  rw [if_neg (by omega), if_neg (by omega), if_neg (by omega), if_neg (by omega), if_neg (by omega), if_neg (by omega), if_neg (by omega), if_neg (by omega), if_neg (by omega), if_pos (by omega)]
  simp only [List.drop_zero, tExt]
  have hl : (be (x : Int) 4 ++ be (y : Int) 4).length = 8 := by simp [be_len4]
  rw [show 2 ^ (215 - 212) = 8 from rfl, if_neg (by rw [hl]; omega), List.take_of_length_le (by rw [hl]; omega), List.drop_eq_nil_of_le (by rw [hl]; omega)]
  rfl
theorem PutComplex64_awake (w : World) : Calls Tryd.prog 4 #[.slice none 0 0, .int .u32 1, .int .u32 2] w fun e w' => ∃ A c, e = .returned (.slice A 10 c) ∧ 10 ≤ c ∧ c ≤ maxLen ∧ Below w.heap.size w w' := by
  refine (PutComplex64_any (Lt 0) none [] 0 0 1 2 (by omega) (by omega) w rfl ⟨rfl, fun h => absurd h (by simp)⟩ (fun b hb => absurd hb (Nat.not_lt_zero b)) (by omega)).mono ?_
  rintro e w' ⟨A, c, rfl, h1, h2, h3, h4⟩
  exact ⟨A, c, by simp [encC, be_len4], by simpa [encC, be_len4] using h1, h2, h4⟩
theorem FnPutComplex64_far (A : Option Addr) (n cap : Nat) (x y : Int) (w : World) (h : 2147483647 < n) (hm : n ≤ 9223372036854775807) : Calls Tryd.prog 3 #[.slice A n cap, .int .u32 x, .int .u32 y] w (TrueC w) := by
  go_enter Tryd.func3, Tryd.ntmps3
  go_wp2
  go_ret
  exact ⟨rfl, Below.refl _ _⟩
theorem FnPutComplex64_many (A : Option Addr) (n cap : Nat) (x y : Int) (w : World) (h : 200 < n) (h' : n ≤ 2147483647) : Calls Tryd.prog 3 #[.slice A n cap, .int .u32 x, .int .u32 y] w (TrueC w) := by
  have hd : decide (n ≤ 200) = false := by simp; omega
  go_enter Tryd.func3, Tryd.ntmps3
  go_wp2_with (first
    | (go_at_call 4; go_loud (refine (PutComplex64_awake _).mono ?_; rintro e w1 ⟨A1, c1, rfl, hc1, hcm1, hb1⟩))
    | (go_at_call 5; go_loud (refine (few_any A n cap _ (by omega)).mono ?_; rw [hd]; rintro e w2 ⟨rfl, rfl⟩)))
  go_ret
  exact ⟨rfl, hb1⟩
set_option maxRecDepth 100000 in
set_option maxHeartbeats 3200000 in
theorem FnPutComplex64_few (A : Option Addr) (bs : List UInt8) (cap : Nat) (x y : Nat) (w : World) (h : bs.length ≤ 200) (hc : bs.length ≤ cap) (hm : cap ≤ maxLen) (hr : RB w (Lt w.heap.size) A bs) (hx : x < 4294967296) (hy : y < 4294967296) :
    Calls Tryd.prog 3 #[.slice A bs.length cap, .int .u32 x, .int .u32 y] w (TrueC w) := by
  have hm : cap ≤ 9223372036854775807 := hm
  have hd : decide (bs.length ≤ 200) = true := by simp; omega
  have HTP := hide (tPack_C x y)
  have hel : (encC x y).length = 10 := by simp [encC, be_len4]
  have HEL := hide hel
  obtain ⟨ec, hec⟩ : ∃ ec, ec = encC x y := ⟨_, rfl⟩
  have HEC := hide hec
  rw [← hec] at hel
  clear hec
  go_enter Tryd.func3, Tryd.ntmps3
  go_wp2_with (first
    | (go_at_call 4; have hg9 := hgrow3; clear hg9; go_loud (refine (PutComplex64_any (fun b => w1.heap.size ≤ b ∧ b < w3.heap.size) A3 bs _ c3 x y hx hy _ (by first | rfl | simp) (by unfold RB; simpa using hr3) (fun b hb => hb.2) (by first | omega | (simp; omega))).mono ?_; rw [← unhide HEC]; rintro e w4 ⟨A4, c4, rfl, hc4, hcm4, hr4, hb4⟩; have hr5 := hr1.keep (stays_below (stays_below (Stays.refl _ _) hb3 ho1) hb4 (old_below hb3 ho1)); have ho5 := old_below hb4 (old_below hb3 ho1)))
    | (go_at_call 4; go_loud (refine (PutComplex64_awake _).mono ?_; rintro e w1 ⟨A1, c1, rfl, hc1, hcm1, hb1⟩; have HB1 := hide hb1; have hr1 := hr.keep (stays_below (Stays.refl _ _) hb1 (Old.lt _)); have ho1 : Old w1 (Lt w.heap.size) := fun b hb => Nat.lt_of_lt_of_le hb hb1.size))
    | (go_at_call 5; refine (few_any A bs.length cap _ (by omega)).mono ?_; rw [hd]; rintro e w2 ⟨rfl, rfl⟩)
    | (at_builtin; obtain ⟨i0, hi0, hz0, hz1', hz2⟩ := info_parts info5; refine wpList_append_any (S := Lt w.heap.size) _ rfl _ _ _ rfl w1.heap.size 5 i0 _ 1 1 Tryd.underlying22 hi0 hz0 hz1' hz2 ?x1 ?x2 (.slice (some ⟨w1.heap.size, 0, none⟩) 0 0) 0 [] ?x3 ?x8 A bs.length cap (bs.map u8) ?x4 ?x5 (u8_one bs) ?c3 ?x7 ?c4 ?_; (case x1 => rfl); (case x2 => omega); (case x3 => rfl); (case x4 => rfl); (case x5 => exact hr1.keep (by go_simp)); (case x7 => omega); (case x8 => exact World.ownsRow_made _ #[] 0 (Nat.le_refl _) (Nat.zero_le _) rfl); (case c3 => unfold maxLen; omega); (case c4 => simp); clear hi0 hz0 hz1' hz2; intro v3 w3 hown3 hgrow3 hat3; have hb3 : Below w1.heap.size w1 w3 := ((by repeat (first | with_reducible exact Below.refl _ _ | with_reducible refine Below.alloc ?_ (by first | omega | (simp; omega) | (simp; done)) _ | with_reducible refine Below.drew ?_ | with_reducible refine below_drewN ?_ _)) : Below w1.heap.size w1 (w1.alloc _)).grown hgrow3 (by simp) (fun k hk => by simp [Value.ownBlock] at hk; omega); obtain ⟨A3, c3, rfl, hc3, hcm3, hr3⟩ := own_slice hown3))
  have hcv1 : ∀ (W : World) (c : Nat), Stays (Lt w.heap.size) w4 W → (convert 22 9 (.slice A bs.length c)).run Tryd.prog W = .ok (.string ⟨bs.toArray⟩) W := fun W c hw =>
    run_string_of_bytes (P := Tryd.prog) 22 9 5 Tryd.underlying22 Tryd.underlying5 Tryd.underlying9 (hr5.keep hw) c
  have hcv2 : ∀ (W : World) (c : Nat), Stays (Made w3 w4) w4 W → (convert 22 9 (.slice A4 bs.length c)).run Tryd.prog W = .ok (.string ⟨bs.toArray⟩) W := fun W c hw => by
    have := run_string_of_bytes (P := Tryd.prog) 22 9 5 Tryd.underlying22 Tryd.underlying5 Tryd.underlying9 ((hr4.keep hw).take (k := bs.length) (by simp)) c
    simpa using this
  have hl4 : (bs ++ ec).length = bs.length + 10 := by rw [List.length_append, hel]
  rw [hl4] at hc4
  unfold maxLen at hcm4
  have hcutE := hr4.cut (k := bs.length) (cap := c4) (by simp) (by rw [hl4]; exact hc4)
  rw [List.drop_left] at hcutE
  have HCE := hide hcutE
  have HO4 := hide (fun b (hb : Made w3 w4 b) => hb.2)
  have hbw4 : Below w.heap.size w w4 := (unhide HB1).trans ((hb3.mono (unhide HB1).size).trans (hb4.mono (Nat.le_trans (unhide HB1).size hb3.size)))
  have HBW4 := hide hbw4
  have d1 : decide ((bs.length : Int) + 10 < bs.length) = false := by simp; omega
  have d2 : decide (bs.length + 10 < bs.length) = false := by simp
  clear hcutE hbw4 hat3 hown3 hgrow3 hr3 hb3 hb1
  go_quiet (fail)
  go_wp2_with fail
  refine (takesPack 1 (by omega) 1 (Made w3 w4) (cutA A4 c4 bs.length 1) ec 10 (c4 - bs.length) (w4.drewN nq) rfl hel.symm ((unhide HCE).keep (by rw [stays_drewN]; exact Stays.refl _ _)) (by omega) (by omega) (by omega) (unhide HO4)).mono ?_
  rintro e w5 ⟨kind, num, text, ext, K, kl, kc, A5, n5, cap5, bo, rfl, hbel5, htr⟩
  rw [unhide HEC, unhide HTP] at htr
  obtain ⟨rfl, rfl, _, _, _, hpk⟩ := htr
  unfold PackC at hpk
  obtain ⟨K0, c0, xs0, hpk1, _⟩ := hpk
  simp only [List.cons.injEq, Value.int.injEq, Value.string.injEq, true_and, and_true] at hpk1
  obtain ⟨rfl, _, htx, rfl, _⟩ := hpk1
  have hsz : (⟨text.toArray⟩ : ByteArray).size = 8 := by rw [htx]; simp [ByteArray.size, be_len4]
  have hbel5' : Below w4.heap.size w4 w5 := (below_drewN (Below.refl _ _) nq).trans (hbel5.mono (Nat.le_refl _))
  have HB5 := hide hbel5'
  have HCE5 := hide ((unhide HCE).keep (stays_below (Stays.refl _ _) hbel5' (unhide HO4)))
  have HO5 := hide (old_below hbel5' (unhide HO4))
  obtain ⟨X, hX⟩ : ∃ X : ByteArray, X = ⟨text.toArray⟩ := ⟨_, rfl⟩
  simp only [packV]
  rw [← hX] at hsz ⊢
  clear hbel5 hbel5' htx hX
  go_wp2_with fail
  refine (getComplex64_any (Made w3 w4) (cutA A4 c4 bs.length 1) x y 10 (c4 - bs.length) (w5.alloc (.cells #[.int .i64 10, .int .u64 0, .string X, .int .i64 3, .slice K 0 kc] 29)) (by have h := (unhide HCE5).keep (stays_alloc (unhide HO5) (Stays.refl _ _) (.cells #[.int .i64 10, .int .u64 0, .string X, .int .i64 3, .slice K 0 kc] 29)); rw [unhide HEC] at h; exact h) rfl hx hy (by omega) (by omega) (old_alloc (unhide HO5) _)).mono ?_
  rintro e w6 ⟨A6, c6, rfl, hb6⟩
  have hB0 : Blk w6 w5.heap.size 29 #[.int .i64 10, .int .u64 0, .string X, .int .i64 3, .slice K 0 kc] := (Blk.new w5 _ _).below hb6 (by simp)
  obtain ⟨⟨p0, p1, p2, p3, p4⟩, _⟩ := five_cells hB0
  have hb56 : Below w5.heap.size w5 w6 := Below.trans (by repeat (first | with_reducible exact Below.refl _ _ | with_reducible exact x | with_reducible refine Below.alloc ?_ (by first | omega | (simp; omega) | (simp; done)) _ | with_reducible refine Below.setCell ?_ (by first | omega | (simp; omega) | (simp; done)) _ | with_reducible refine Below.drew ?_ | with_reducible refine below_drewN ?_ _)) (hb6.mono (by simp))
  have HB6 := hide hb56
  clear hb6 hB0 hb56
  go_wp2
  go_ret
  have k4 := unhide HBW4
  have k5 := (unhide HB5).mono k4.size
  exact ⟨rfl, (k4.trans k5).trans ((unhide HB6).mono (k4.trans k5).size)⟩
theorem rb_rowC {w : World} {a : Option Addr} {len cap : Nat} {zs : List Int}
    (h : (a = none ∧ len = 0 ∧ cap = 0 ∧ zs = []) ∨ ∃ x, a = some x ∧ len ≤ cap ∧ cap ≤ maxLen ∧ zs.length = cap ∧ (∀ i, i < zs.length → w.cell? (x.add i) = some (.int .u8 (zs.getD i 0))) ∧ ∀ n ∈ zs, (Lit.int .u8 n).wf = true) :
    ∃ bs : List UInt8, len = bs.length ∧ RB w (Lt w.heap.size) a bs ∧ len ≤ cap ∧ cap ≤ maxLen := by
  rcases h with ⟨rfl, rfl, rfl, rfl⟩ | ⟨x, rfl, hl, hm, hz, hc, hwf⟩
  · exact ⟨[], rfl, ⟨by simp, fun h => absurd h (by simp)⟩, Nat.le_refl _, Nat.zero_le _⟩
  · refine ⟨(zs.take len).map fun z => UInt8.ofNat z.toNat, by simp; omega, ⟨by simp, fun h => ⟨x, rfl, ?_, ?_⟩⟩, hl, hm⟩
    · have h0 := hc 0 (by simp at h; omega)
      apply Classical.byContradiction
      intro hn
      have hx : w.heap[x.block]? = none := Array.getElem?_eq_none (by simp [Lt] at hn; omega)
      simp [World.cell?, Addr.add, hx] at h0
    · intro j u hu
      simp only [List.map_map, List.getElem?_map, List.getElem?_take] at hu
      split at hu
      · rename_i hj
        have hjz : j < zs.length := by omega
        rw [List.getElem?_eq_getElem hjz] at hu
        simp only [Option.map_some, Option.some.injEq] at hu
        have hw := hwf zs[j] (List.getElem_mem hjz)
        rw [hc j hjz, ← hu]
        simp only [List.getD_eq_getElem?_getD, List.getElem?_eq_getElem hjz, Option.getD_some, Function.comp]
        have hb : 0 ≤ zs[j] ∧ zs[j] ≤ 255 := by
          simp [Lit.wf, IntKind.signed, IntKind.bits, IntKind.min, IntKind.max] at hw
          omega
        unfold u8
        simp
        omega
      · simp at hu
theorem FnPutComplex64_walk (A : Option Addr) (n cap : Nat) (zs : List Int) (x y : Int) (w : World) (hE : ∃ t v, w.cell? ⟨2, 0, none⟩ = some (.iface t v)) (hrow : (A = none ∧ n = 0 ∧ cap = 0 ∧ zs = []) ∨ ∃ x, A = some x ∧ n ≤ cap ∧ cap ≤ maxLen ∧ zs.length = cap ∧ (∀ i, i < zs.length → w.cell? (x.add i) = some (.int .u8 (zs.getD i 0))) ∧ ∀ n ∈ zs, (Lit.int .u8 n).wf = true) (hx : (Lit.int .u32 x).wf = true) (hy : (Lit.int .u32 y).wf = true) :
    Calls Tryd.prog 3 #[.slice A n cap, .int .u32 x, .int .u32 y] w fun e w' => e = .returned (.bool true) ∧ Below w.heap.size w w' := by
  obtain ⟨bs, rfl, hr, hc, hm⟩ := rb_rowC hrow
  have hm' : cap ≤ 9223372036854775807 := hm
  simp [Lit.wf, IntKind.signed, IntKind.bits, IntKind.min, IntKind.max] at hx hy
  obtain ⟨X, rfl⟩ := Int.eq_ofNat_of_zero_le hx.1
  obtain ⟨Y, rfl⟩ := Int.eq_ofNat_of_zero_le hy.1
  by_cases hf : 2147483647 < bs.length
  · exact FnPutComplex64_far A _ cap X Y w hf (by omega)
  by_cases h2 : 200 < bs.length
  · exact FnPutComplex64_many A _ cap X Y w h2 (by omega)
  · exact FnPutComplex64_few A bs cap X Y w (by omega) hc hm hr (by omega) (by omega)
end Go.Proofs.YtloaaffkjhkpaaaDoor
