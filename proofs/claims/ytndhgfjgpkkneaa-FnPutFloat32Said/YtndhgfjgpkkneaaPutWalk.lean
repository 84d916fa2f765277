/-
  The walks of the laws that append a number: they answer true and write nothing that was there.
-/
import Derived.Test.YtndhgfjgpkkneaaPutLaw
namespace Go.Proofs.Ytndhgfjgpkkneaa
open Go.RowKit
theorem few_true (A : Option Addr) (n cap : Nat) (h : n ≤ 200) (w : World) : Calls Try.prog 9 #[.slice A n cap] w fun e w' => e = .returned (.bool true) ∧ w = w' := by
  refine (few_any A n cap w (by omega)).mono ?_
  rintro e w' ⟨rfl, rfl⟩
  exact ⟨by simp [h], rfl⟩
theorem few_false (A : Option Addr) (n cap : Nat) (h : 200 < n) (h' : n ≤ 9223372036854775807) (w : World) : Calls Try.prog 9 #[.slice A n cap] w fun e w' => e = .returned (.bool false) ∧ w = w' := by
  refine (few_any A n cap w h').mono ?_
  rintro e w' ⟨rfl, rfl⟩
  exact ⟨by simp; omega, rfl⟩
theorem out_below {w w' : World} {bs : List UInt8} {e : Ending} (h : Out w bs e w') : Below w.heap.size w w' := by
  obtain ⟨_, _, _, _, _, _, h⟩ := h
  exact h
theorem old_lt_below {B : Nat} {w : World} (h : B ≤ w.heap.size) : Old w (Lt B) := fun _ hb => Nat.lt_of_lt_of_le hb h
theorem FnPutIntN_far (A : Option Addr) (n cap : Nat) (x : Int) (_N : Nat) (w : World) (h : 2147483647 < n) (hm : n ≤ 9223372036854775807) : Calls Try.prog 6 #[.slice A n cap, .int .i64 x] w fun e w' => e = .returned (.bool true) ∧ Below w.heap.size w w' := by
  go_enter Try.func6, Try.ntmps6
  go_wp2
  go_ret
  exact ⟨rfl, Below.refl _ _⟩
theorem PutIntN_awake (w : World) : Calls Try.prog 13 #[.slice none 0 0, .int .i64 5] w fun e w' => ∃ A c, e = .returned (.slice A 1 c) ∧ 1 ≤ c ∧ c ≤ maxLen ∧ Below w.heap.size w w' := by
  refine (PutIntN_any (Lt 0) none [] 0 0 5 (by omega) (by omega) w rfl ⟨rfl, fun h => absurd h (by simp)⟩ (fun b hb => absurd hb (Nat.not_lt_zero b)) (by omega)).mono ?_
  rintro e w' ⟨A, c, rfl, h1, h2, h3, h4⟩
  exact ⟨A, c, rfl, h1, h2, h4⟩
theorem FnPutIntN_many (A : Option Addr) (n cap : Nat) (x : Int) (_N : Nat) (w : World) (h : 200 < n) (h' : n ≤ 2147483647) : Calls Try.prog 6 #[.slice A n cap, .int .i64 x] w fun e w' => e = .returned (.bool true) ∧ Below w.heap.size w w' := by
  go_enter Try.func6, Try.ntmps6
  go_wp2_with (first
    | (go_at_call 13; refine (PutIntN_awake _).mono ?_; rintro e w1 ⟨A1, c1, rfl, hc1, hcm1, hb1⟩)
    | (go_at_call 9; refine (few_false A n cap h (by omega) _).mono ?_; rintro e w2 ⟨rfl, rfl⟩))
  go_ret
  exact ⟨rfl, hb1⟩
set_option maxHeartbeats 800000 in
theorem FnPutIntN_few (A : Option Addr) (bs : List UInt8) (cap : Nat) (x : Int) (N : Nat) (w : World) (h : bs.length ≤ 200) (hc : bs.length ≤ cap) (hm : cap ≤ maxLen) (hr : RB w (Lt w.heap.size) A bs) (hx1 : -9223372036854775808 ≤ x) (hx2 : x ≤ 9223372036854775807) (hwrap : IntKind.u64.wrap x = (N : Int)) (hread : ∃ q, tPack 1 (encI x) = some (q, []) ∧ (encI x).length ≤ 1099511627776 ∧ ((encI x).length : Int) ≤ 9 ∧ GoodP (.mk 2 N [] 0 []) ∧ GoodP q ∧ samePk (.mk 2 N [] 0 []) q = true) :
    Calls Try.prog 6 #[.slice A bs.length cap, .int .i64 x] w fun e w' => e = .returned (.bool true) ∧ Below w.heap.size w w' := by
  have HR := hide hread
  clear hread
  have hm : cap ≤ 9223372036854775807 := hm
  go_enter Try.func6, Try.ntmps6
  go_wp2_with (first
    | (go_at_call 13; refine (PutIntN_awake _).mono ?_; rintro e w1 ⟨A1, c1, rfl, hc1, hcm1, hb1⟩; have HB1 := hide hb1; have hr1 := hr.keep (stays_below (Stays.refl _ _) hb1 (Old.lt _)); have ho1 := old_lt_below (B := w.heap.size) hb1.size)
    | (go_at_call 9; refine (few_true A bs.length cap h _).mono ?_; rintro e w2 ⟨rfl, rfl⟩)
    | (at_builtin; obtain ⟨i0, hi0, hz0, hz1', hz2⟩ := info_parts info5; refine wpList_append_any (S := Lt w.heap.size) _ rfl _ _ _ rfl w1.heap.size 5 i0 _ 1 1 Try.underlying22 hi0 hz0 hz1' hz2 ?x1 ?x2 (.slice (some ⟨w1.heap.size, 0, none⟩) 0 0) 0 [] ?x3 ?x8 A bs.length cap (bs.map u8) ?x4 ?x5 (u8_one bs) ?c3 ?x7 ?c4 ?_; (case x1 => rfl); (case x2 => omega); (case x3 => rfl); (case x4 => rfl); (case x5 => exact hr1.keep (by go_simp)); (case x7 => omega); (case x8 => exact World.ownsRow_made _ #[] 0 (Nat.le_refl _) (Nat.zero_le _) rfl); (case c3 => unfold maxLen; omega); (case c4 => simp); clear hi0 hz0 hz1' hz2; intro v3 w3 hown3 hgrow3 hat3; have hb3 : Below w1.heap.size w1 w3 := ((by repeat (first | with_reducible exact Below.refl _ _ | with_reducible refine Below.alloc ?_ (by first | omega | (simp; omega) | (simp; done)) _ | with_reducible refine Below.drew ?_ | with_reducible refine below_drewN ?_ _)) : Below w1.heap.size w1 (w1.alloc _)).grown hgrow3 (by simp) (fun k hk => by simp [Value.ownBlock] at hk; omega); obtain ⟨A3, c3, rfl, hc3, hcm3, hr3⟩ := own_slice hown3)
    | (go_at_call 13; go_loud (refine (PutIntN_any (fun b => w1.heap.size ≤ b ∧ b < w3.heap.size) A3 bs _ c3 x (by omega) (by omega) _ (by first | rfl | simp) (by unfold RB; simpa using hr3) (fun b hb => hb.2) (by first | omega | (simp; omega))).mono ?_; rintro e w4 ⟨A4, c4, rfl, hc4, hcm4, hr4, hb4⟩; have hr5 := hr1.keep (stays_below (stays_below (Stays.refl _ _) hb3 ho1) hb4 (old_below hb3 ho1)); have ho5 := old_below hb4 (old_below hb3 ho1)))
    | (go_at_call 10; obtain ⟨q, hq1, hq2, hq3, hq4, hq5⟩ := unhide HR; refine (appended_ok bs (encI x) (.mk 2 N [] 0 []) q A A4 bs.length (bs.length + (encI x).length) cap c4 9 _ _ _ _ _ (Lt w.heap.size) (Made w3 w4) (Lt w.heap.size) w4 ho5 ?x1 ho5 rfl rfl hr5 hr4 hc ?x4 hm ?x2 hq2 (.inr hq3) ?x3 hq4 hq5.1 hq1 hq5.2).mono ?_; (case x1 => exact fun b hb => hb.2); (case x2 => exact hcm4); (case x4 => simpa using hc4); (case x3 => exact PackC.flat _ _ _ _ _ _); rintro e w5 ⟨rfl, hb5⟩))
  go_ret
  refine ⟨rfl, ?_⟩
  have k1 := unhide HB1
  have k3 := hb3.mono k1.size
  have k4 := hb4.mono (Nat.le_trans k1.size hb3.size)
  have k5 := hb5.mono (Nat.le_trans (Nat.le_trans k1.size hb3.size) hb4.size)
  exact ((k1.trans k3).trans k4).trans k5
theorem FnPutDuration_far (A : Option Addr) (n cap : Nat) (x : Int) (_N : Nat) (w : World) (h : 2147483647 < n) (hm : n ≤ 9223372036854775807) : Calls Try.prog 7 #[.slice A n cap, .int .i64 x] w fun e w' => e = .returned (.bool true) ∧ Below w.heap.size w w' := by
  go_enter Try.func7, Try.ntmps7
  go_wp2
  go_ret
  exact ⟨rfl, Below.refl _ _⟩
theorem PutDuration_awake (w : World) : Calls Try.prog 14 #[.slice none 0 0, .int .i64 5] w fun e w' => ∃ A c, e = .returned (.slice A 1 c) ∧ 1 ≤ c ∧ c ≤ maxLen ∧ Below w.heap.size w w' := by
  refine (PutDuration_any (Lt 0) none [] 0 0 5 (by omega) (by omega) w rfl ⟨rfl, fun h => absurd h (by simp)⟩ (fun b hb => absurd hb (Nat.not_lt_zero b)) (by omega)).mono ?_
  rintro e w' ⟨A, c, rfl, h1, h2, h3, h4⟩
  exact ⟨A, c, rfl, h1, h2, h4⟩
theorem FnPutDuration_many (A : Option Addr) (n cap : Nat) (x : Int) (_N : Nat) (w : World) (h : 200 < n) (h' : n ≤ 2147483647) : Calls Try.prog 7 #[.slice A n cap, .int .i64 x] w fun e w' => e = .returned (.bool true) ∧ Below w.heap.size w w' := by
  go_enter Try.func7, Try.ntmps7
  go_wp2_with (first
    | (go_at_call 14; refine (PutDuration_awake _).mono ?_; rintro e w1 ⟨A1, c1, rfl, hc1, hcm1, hb1⟩)
    | (go_at_call 9; refine (few_false A n cap h (by omega) _).mono ?_; rintro e w2 ⟨rfl, rfl⟩))
  go_ret
  exact ⟨rfl, hb1⟩
set_option maxHeartbeats 800000 in
theorem FnPutDuration_few (A : Option Addr) (bs : List UInt8) (cap : Nat) (x : Int) (N : Nat) (w : World) (h : bs.length ≤ 200) (hc : bs.length ≤ cap) (hm : cap ≤ maxLen) (hr : RB w (Lt w.heap.size) A bs) (hx1 : -9223372036854775808 ≤ x) (hx2 : x ≤ 9223372036854775807) (hwrap : IntKind.u64.wrap x = (N : Int)) (hread : ∃ q, tPack 1 (encI x) = some (q, []) ∧ (encI x).length ≤ 1099511627776 ∧ ((encI x).length : Int) ≤ 9 ∧ GoodP (.mk 2 N [] 0 []) ∧ GoodP q ∧ samePk (.mk 2 N [] 0 []) q = true) :
    Calls Try.prog 7 #[.slice A bs.length cap, .int .i64 x] w fun e w' => e = .returned (.bool true) ∧ Below w.heap.size w w' := by
  have HR := hide hread
  clear hread
  have hm : cap ≤ 9223372036854775807 := hm
  go_enter Try.func7, Try.ntmps7
  go_wp2_with (first
    | (go_at_call 14; refine (PutDuration_awake _).mono ?_; rintro e w1 ⟨A1, c1, rfl, hc1, hcm1, hb1⟩; have HB1 := hide hb1; have hr1 := hr.keep (stays_below (Stays.refl _ _) hb1 (Old.lt _)); have ho1 := old_lt_below (B := w.heap.size) hb1.size)
    | (go_at_call 9; refine (few_true A bs.length cap h _).mono ?_; rintro e w2 ⟨rfl, rfl⟩)
    | (at_builtin; obtain ⟨i0, hi0, hz0, hz1', hz2⟩ := info_parts info5; refine wpList_append_any (S := Lt w.heap.size) _ rfl _ _ _ rfl w1.heap.size 5 i0 _ 1 1 Try.underlying22 hi0 hz0 hz1' hz2 ?x1 ?x2 (.slice (some ⟨w1.heap.size, 0, none⟩) 0 0) 0 [] ?x3 ?x8 A bs.length cap (bs.map u8) ?x4 ?x5 (u8_one bs) ?c3 ?x7 ?c4 ?_; (case x1 => rfl); (case x2 => omega); (case x3 => rfl); (case x4 => rfl); (case x5 => exact hr1.keep (by go_simp)); (case x7 => omega); (case x8 => exact World.ownsRow_made _ #[] 0 (Nat.le_refl _) (Nat.zero_le _) rfl); (case c3 => unfold maxLen; omega); (case c4 => simp); clear hi0 hz0 hz1' hz2; intro v3 w3 hown3 hgrow3 hat3; have hb3 : Below w1.heap.size w1 w3 := ((by repeat (first | with_reducible exact Below.refl _ _ | with_reducible refine Below.alloc ?_ (by first | omega | (simp; omega) | (simp; done)) _ | with_reducible refine Below.drew ?_ | with_reducible refine below_drewN ?_ _)) : Below w1.heap.size w1 (w1.alloc _)).grown hgrow3 (by simp) (fun k hk => by simp [Value.ownBlock] at hk; omega); obtain ⟨A3, c3, rfl, hc3, hcm3, hr3⟩ := own_slice hown3)
    | (go_at_call 14; go_loud (refine (PutDuration_any (fun b => w1.heap.size ≤ b ∧ b < w3.heap.size) A3 bs _ c3 x (by omega) (by omega) _ (by first | rfl | simp) (by unfold RB; simpa using hr3) (fun b hb => hb.2) (by first | omega | (simp; omega))).mono ?_; rintro e w4 ⟨A4, c4, rfl, hc4, hcm4, hr4, hb4⟩; have hr5 := hr1.keep (stays_below (stays_below (Stays.refl _ _) hb3 ho1) hb4 (old_below hb3 ho1)); have ho5 := old_below hb4 (old_below hb3 ho1)))
    | (go_at_call 10; obtain ⟨q, hq1, hq2, hq3, hq4, hq5⟩ := unhide HR; refine (appended_ok bs (encI x) (.mk 2 N [] 0 []) q A A4 bs.length (bs.length + (encI x).length) cap c4 9 _ _ _ _ _ (Lt w.heap.size) (Made w3 w4) (Lt w.heap.size) w4 ho5 ?x1 ho5 rfl rfl hr5 hr4 hc ?x4 hm ?x2 hq2 (.inr hq3) ?x3 hq4 hq5.1 hq1 hq5.2).mono ?_; (case x1 => exact fun b hb => hb.2); (case x2 => exact hcm4); (case x4 => simpa using hc4); (case x3 => exact PackC.flat _ _ _ _ _ _); rintro e w5 ⟨rfl, hb5⟩))
  go_ret
  refine ⟨rfl, ?_⟩
  have k1 := unhide HB1
  have k3 := hb3.mono k1.size
  have k4 := hb4.mono (Nat.le_trans k1.size hb3.size)
  have k5 := hb5.mono (Nat.le_trans (Nat.le_trans k1.size hb3.size) hb4.size)
  exact ((k1.trans k3).trans k4).trans k5
theorem FnPutUintN_far (A : Option Addr) (n cap : Nat) (X : Nat) (w : World) (h : 2147483647 < n) (hm : n ≤ 9223372036854775807) : Calls Try.prog 4 #[.slice A n cap, .int .u64 (X : Int)] w fun e w' => e = .returned (.bool true) ∧ Below w.heap.size w w' := by
  go_enter Try.func4, Try.ntmps4
  go_wp2
  go_ret
  exact ⟨rfl, Below.refl _ _⟩
theorem PutUintN_awake (w : World) : Calls Try.prog 11 #[.slice none 0 0, .int .u64 5] w fun e w' => ∃ A c, e = .returned (.slice A 1 c) ∧ 1 ≤ c ∧ c ≤ maxLen ∧ Below w.heap.size w w' := by
  refine (PutUintN_any (Lt 0) none [] 0 0 5 (by omega) (by omega) w rfl ⟨rfl, fun h => absurd h (by simp)⟩ (fun b hb => absurd hb (Nat.not_lt_zero b)) (by omega)).mono ?_
  rintro e w' ⟨A, c, rfl, h1, h2, h3, h4⟩
  exact ⟨A, c, rfl, h1, h2, h4⟩
theorem FnPutUintN_many (A : Option Addr) (n cap : Nat) (X : Nat) (w : World) (h : 200 < n) (h' : n ≤ 2147483647) : Calls Try.prog 4 #[.slice A n cap, .int .u64 (X : Int)] w fun e w' => e = .returned (.bool true) ∧ Below w.heap.size w w' := by
  go_enter Try.func4, Try.ntmps4
  go_wp2_with (first
    | (go_at_call 11; refine (PutUintN_awake _).mono ?_; rintro e w1 ⟨A1, c1, rfl, hc1, hcm1, hb1⟩)
    | (go_at_call 9; refine (few_false A n cap h (by omega) _).mono ?_; rintro e w2 ⟨rfl, rfl⟩))
  go_ret
  exact ⟨rfl, hb1⟩
set_option maxHeartbeats 800000 in
theorem FnPutUintN_few (A : Option Addr) (bs : List UInt8) (cap : Nat) (X : Nat) (w : World) (h : bs.length ≤ 200) (hc : bs.length ≤ cap) (hm : cap ≤ maxLen) (hr : RB w (Lt w.heap.size) A bs) (hX : (X : Int) ≤ 18446744073709551615) (hread : ∃ q, tPack 1 (encU (X : Int)) = some (q, []) ∧ (encU (X : Int)).length ≤ 1099511627776 ∧ ((encU (X : Int)).length : Int) ≤ 9 ∧ GoodP (.mk 3 X [] 0 []) ∧ GoodP q ∧ samePk (.mk 3 X [] 0 []) q = true) :
    Calls Try.prog 4 #[.slice A bs.length cap, .int .u64 (X : Int)] w fun e w' => e = .returned (.bool true) ∧ Below w.heap.size w w' := by
  have HR := hide hread
  clear hread
  have hm : cap ≤ 9223372036854775807 := hm
  go_enter Try.func4, Try.ntmps4
  go_wp2_with (first
    | (go_at_call 11; refine (PutUintN_awake _).mono ?_; rintro e w1 ⟨A1, c1, rfl, hc1, hcm1, hb1⟩; have HB1 := hide hb1; have hr1 := hr.keep (stays_below (Stays.refl _ _) hb1 (Old.lt _)); have ho1 := old_lt_below (B := w.heap.size) hb1.size)
    | (go_at_call 9; refine (few_true A bs.length cap h _).mono ?_; rintro e w2 ⟨rfl, rfl⟩)
    | (at_builtin; obtain ⟨i0, hi0, hz0, hz1', hz2⟩ := info_parts info5; refine wpList_append_any (S := Lt w.heap.size) _ rfl _ _ _ rfl w1.heap.size 5 i0 _ 1 1 Try.underlying22 hi0 hz0 hz1' hz2 ?x1 ?x2 (.slice (some ⟨w1.heap.size, 0, none⟩) 0 0) 0 [] ?x3 ?x8 A bs.length cap (bs.map u8) ?x4 ?x5 (u8_one bs) ?c3 ?x7 ?c4 ?_; (case x1 => rfl); (case x2 => omega); (case x3 => rfl); (case x4 => rfl); (case x5 => exact hr1.keep (by go_simp)); (case x7 => omega); (case x8 => exact World.ownsRow_made _ #[] 0 (Nat.le_refl _) (Nat.zero_le _) rfl); (case c3 => unfold maxLen; omega); (case c4 => simp); clear hi0 hz0 hz1' hz2; intro v3 w3 hown3 hgrow3 hat3; have hb3 : Below w1.heap.size w1 w3 := ((by repeat (first | with_reducible exact Below.refl _ _ | with_reducible refine Below.alloc ?_ (by first | omega | (simp; omega) | (simp; done)) _ | with_reducible refine Below.drew ?_ | with_reducible refine below_drewN ?_ _)) : Below w1.heap.size w1 (w1.alloc _)).grown hgrow3 (by simp) (fun k hk => by simp [Value.ownBlock] at hk; omega); obtain ⟨A3, c3, rfl, hc3, hcm3, hr3⟩ := own_slice hown3)
    | (go_at_call 11; go_loud (refine (PutUintN_any (fun b => w1.heap.size ≤ b ∧ b < w3.heap.size) A3 bs _ c3 (X : Int) (by omega) (by omega) _ (by first | rfl | simp) (by unfold RB; simpa using hr3) (fun b hb => hb.2) (by first | omega | (simp; omega))).mono ?_; rintro e w4 ⟨A4, c4, rfl, hc4, hcm4, hr4, hb4⟩; have hr5 := hr1.keep (stays_below (stays_below (Stays.refl _ _) hb3 ho1) hb4 (old_below hb3 ho1)); have ho5 := old_below hb4 (old_below hb3 ho1)))
    | (go_at_call 10; obtain ⟨q, hq1, hq2, hq3, hq4, hq5⟩ := unhide HR; refine (appended_ok bs (encU (X : Int)) (.mk 3 X [] 0 []) q A A4 bs.length (bs.length + (encU (X : Int)).length) cap c4 9 _ _ _ _ _ (Lt w.heap.size) (Made w3 w4) (Lt w.heap.size) w4 ho5 ?x1 ho5 rfl rfl hr5 hr4 hc ?x4 hm ?x2 hq2 (.inr hq3) ?x3 hq4 hq5.1 hq1 hq5.2).mono ?_; (case x1 => exact fun b hb => hb.2); (case x2 => exact hcm4); (case x4 => simpa using hc4); (case x3 => exact PackC.flat _ _ _ _ _ _); rintro e w5 ⟨rfl, hb5⟩))
  go_ret
  refine ⟨rfl, ?_⟩
  have k1 := unhide HB1
  have k3 := hb3.mono k1.size
  have k4 := hb4.mono (Nat.le_trans k1.size hb3.size)
  have k5 := hb5.mono (Nat.le_trans (Nat.le_trans k1.size hb3.size) hb4.size)
  exact ((k1.trans k3).trans k4).trans k5
end Go.Proofs.Ytndhgfjgpkkneaa
