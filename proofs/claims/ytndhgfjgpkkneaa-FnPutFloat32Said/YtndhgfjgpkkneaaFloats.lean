/-
  AppendFloat32, impl.PutFloat32 and the walk of the law FnPutFloat32: a float of 32 bits is written as its bits behind 202.
-/
import Derived.Test.YtndhgfjgpkkneaaPutWalk
import Derived.Laws.Externs
import Derived.StillTailTactics
namespace Go.Proofs.Ytndhgfjgpkkneaa
open Go.RowKit
theorem f32_read (X : Nat) (hX : X < 4294967296) : tPack 1 (202 :: be (X : Int) 4) = some (.mk 4 X [] 0 [], []) := by
  rw [tPack_coded 0 _ _ (by decide) (by decide)]
  show tCoded (tPack 0) 202 _ = _
  rw [tCoded_float32, bigN_be4]
  congr 3
  omega
theorem frombits32 (n : Int) (w : World) : (callFunc 17 #[.int .u32 n]).run Try.prog w = .ok (.value (.float .f32 n.toNat)) w := by
  rw [run_callFunc_extern (e := Extern.MathFloatBits.float32frombits) Try.func17 (by kernel_rfl) (by kernel_rfl) (by kernel_rfl) (by kernel_rfl)]
  rfl
theorem bits32 (n : Nat) (w : World) : (callFunc 26 #[.float .f32 n]).run Try.prog w = .ok (.value (.int .u32 n)) w := by
  rw [run_callFunc_extern (e := Extern.MathFloatBits.float32bits) Try.func26 (by kernel_rfl) (by kernel_rfl) (by kernel_rfl) (by kernel_rfl)]
  rfl
set_option maxHeartbeats 400000 in
theorem AppendFloat32_any (b : Nat) (hb : b < 4294967296) (B : Nat) (A : Option Addr) (n cap : Nat) (xs : List Value) (w : World) (hown : w.ownsRow B 5 1 (.slice A n cap) n xs) (hone : ∀ u ∈ xs, u.oneCell' = true) (hB : B ≤ w.heap.size) (hlen : n ≤ 1099511627776) :
    Calls Try.prog 15 #[.slice A n cap, .float .f32 b] w (Appd B n xs w (.slice A n cap) (202 :: be b 4)) := by
  have hbits := bits32 b
  go_enter Try.func15, Try.ntmps15
  go_wp2_with (go_at_call 24; refine (ensure_any B A n cap 5 _ xs _ (by simp) (by omega) hown hone hB (by omega)).mono ?_; rintro e w1 ⟨g, c', rfl, hgc, hcm, hBg, hxl, hrow, hbel, hat⟩; have HX := hide hxl; have HA := hide hat; clear hxl hat; unfold maxLen at hcm; have hcut := cutA_at g c' n (by omega))
  go_still_tail 5, (by kernel_rfl)
  refine wpStill_step (fun K hK => ?_)
  go_simp
  rw [if_pos (show (n : Int) ≤ (n : Int) + 5 by omega)]
  refine ⟨rfl, hK _ ?_⟩
  clear hK K
  repeat still_step
  refine wpStill_nil ?_
  change wpList _ _ _ _ _ w1.drew
  generalize hw4 : w1.drew = w4
  have hrow4 : Row w4 5 g c' xs := by rw [← hw4]; exact hrow.keep rfl
  have hbel4 : Below w.heap.size w w4 := by rw [← hw4]; exact hbel.drew
  clear hw4 hrow hbel
  go_wp2_with (go_at_call 25; go_loud (refine (w_prefixu32 202 202 rfl g n c' 5 _ (b : Int) (by omega) (by omega) xs _ hrow4 (unhide HX) (by omega) (by omega) (by omega)).mono ?_; rintro e w2 ⟨rfl, hrow2, hg2, hz2⟩))
  go_ret
  exact append_done (unhide HX) hbel4 (unhide HA) hBg (by unfold maxLen; omega) hrow2 hg2 (by simp [be])
theorem PutFloat32_any (S : Nat → Prop) (A : Option Addr) (bs : List UInt8) (n cap : Nat) (x : Int) (h1 : 0 ≤ x) (h2 : x ≤ 4294967295) (w : World) (hn : n = bs.length) (hr : RB w S A bs) (hS : Old w S) (hlen : n ≤ 1099511627776) :
    Calls Try.prog 8 #[.slice A n cap, .int .u32 x] w (Out w (bs ++ 202 :: be x 4)) := by
  subst hn
  have hfrom := frombits32 x
  have hx : ((x.toNat : Nat) : Int) = x := by omega
  have HH := hide hx
  clear hx
  go_enter Try.func8, Try.ntmps8
  go_wp2_with (first
    | (go_at_call 16; refine (copied_any S A bs bs.length cap _ rfl hr hS (by omega)).mono ?_; rintro e w1 ⟨v, rfl, hown, hbel⟩; have hbl := hide (own_blocks hown); obtain ⟨A1, c1, rfl, hc1, hc1m, _⟩ := own_slice hown)
    | (go_at_call 15; refine (AppendFloat32_any x.toNat (by omega) _ A1 bs.length c1 (bs.map u8) _ hown (u8_one bs) hbel.size (by omega)).mono ?_; rw [unhide HH]; rintro e w2 ⟨A', c', rfl, h3, h4, h5, h6⟩))
  go_ret
  exact out_of_appd rfl rfl hbel (unhide hbl) rfl h3 h4 h5 h6
theorem FnPutFloat32_far (A : Option Addr) (n cap : Nat) (X : Nat) (w : World) (h : 2147483647 < n) (hm : n ≤ 9223372036854775807) : Calls Try.prog 3 #[.slice A n cap, .int .u32 (X : Int)] w fun e w' => e = .returned (.bool true) ∧ Below w.heap.size w w' := by
  go_enter Try.func3, Try.ntmps3
  go_wp2
  go_ret
  exact ⟨rfl, Below.refl _ _⟩
theorem PutFloat32_awake (w : World) : Calls Try.prog 8 #[.slice none 0 0, .int .u32 7] w fun e w' => ∃ A c, e = .returned (.slice A 5 c) ∧ 5 ≤ c ∧ c ≤ maxLen ∧ Below w.heap.size w w' := by
  refine (PutFloat32_any (Lt 0) none [] 0 0 7 (by omega) (by omega) w rfl ⟨rfl, fun h => absurd h (by simp)⟩ (fun b hb => absurd hb (Nat.not_lt_zero b)) (by omega)).mono ?_
  rintro e w' ⟨A, c, rfl, h1, h2, h3, h4⟩
  exact ⟨A, c, by simp [be_length], by simpa [be_length] using h1, h2, h4⟩
theorem FnPutFloat32_many (A : Option Addr) (n cap : Nat) (X : Nat) (w : World) (h : 200 < n) (h' : n ≤ 2147483647) : Calls Try.prog 3 #[.slice A n cap, .int .u32 (X : Int)] w fun e w' => e = .returned (.bool true) ∧ Below w.heap.size w w' := by
  go_enter Try.func3, Try.ntmps3
  go_wp2_with (first
    | (go_at_call 8; refine (PutFloat32_awake _).mono ?_; rintro e w1 ⟨A1, c1, rfl, hc1, hcm1, hb1⟩)
    | (go_at_call 9; refine (few_false A n cap h (by omega) _).mono ?_; rintro e w2 ⟨rfl, rfl⟩))
  go_ret
  exact ⟨rfl, hb1⟩
set_option maxHeartbeats 800000 in
theorem FnPutFloat32_few (A : Option Addr) (bs : List UInt8) (cap : Nat) (X : Nat) (w : World) (h : bs.length ≤ 200) (hc : bs.length ≤ cap) (hm : cap ≤ maxLen) (hr : RB w (Lt w.heap.size) A bs) (hX : (X : Int) ≤ 4294967295) (hread : ∃ q, tPack 1 (202 :: be (X : Int) 4) = some (q, []) ∧ (202 :: be (X : Int) 4).length ≤ 1099511627776 ∧ ((202 :: be (X : Int) 4).length : Int) ≤ 5 ∧ GoodP (.mk 4 X [] 0 []) ∧ GoodP q ∧ samePk (.mk 4 X [] 0 []) q = true) :
    Calls Try.prog 3 #[.slice A bs.length cap, .int .u32 (X : Int)] w fun e w' => e = .returned (.bool true) ∧ Below w.heap.size w w' := by
  have HR := hide hread
  clear hread
  have hm : cap ≤ 9223372036854775807 := hm
  go_enter Try.func3, Try.ntmps3
  go_wp2_with (first
    | (go_at_call 8; refine (PutFloat32_awake _).mono ?_; rintro e w1 ⟨A1, c1, rfl, hc1, hcm1, hb1⟩; have HB1 := hide hb1; have hr1 := hr.keep (stays_below (Stays.refl _ _) hb1 (Old.lt _)); have ho1 := old_lt_below (B := w.heap.size) hb1.size)
    | (go_at_call 9; refine (few_true A bs.length cap h _).mono ?_; rintro e w2 ⟨rfl, rfl⟩)
    | (at_builtin; obtain ⟨i0, hi0, hz0, hz1', hz2⟩ := info_parts info5; refine wpList_append_any (S := Lt w.heap.size) _ rfl _ _ _ rfl w1.heap.size 5 i0 _ 1 1 Try.underlying22 hi0 hz0 hz1' hz2 ?x1 ?x2 (.slice (some ⟨w1.heap.size, 0, none⟩) 0 0) 0 [] ?x3 ?x8 A bs.length cap (bs.map u8) ?x4 ?x5 (u8_one bs) ?c3 ?x7 ?c4 ?_; (case x1 => rfl); (case x2 => omega); (case x3 => rfl); (case x4 => rfl); (case x5 => exact hr1.keep (by go_simp)); (case x7 => omega); (case x8 => exact World.ownsRow_made _ #[] 0 (Nat.le_refl _) (Nat.zero_le _) rfl); (case c3 => unfold maxLen; omega); (case c4 => simp); clear hi0 hz0 hz1' hz2; intro v3 w3 hown3 hgrow3 hat3; have hb3 : Below w1.heap.size w1 w3 := ((by repeat (first | with_reducible exact Below.refl _ _ | with_reducible refine Below.alloc ?_ (by first | omega | (simp; omega) | (simp; done)) _ | with_reducible refine Below.drew ?_ | with_reducible refine below_drewN ?_ _)) : Below w1.heap.size w1 (w1.alloc _)).grown hgrow3 (by simp) (fun k hk => by simp [Value.ownBlock] at hk; omega); obtain ⟨A3, c3, rfl, hc3, hcm3, hr3⟩ := own_slice hown3)
    | (go_at_call 8; go_loud (refine (PutFloat32_any (fun b => w1.heap.size ≤ b ∧ b < w3.heap.size) A3 bs _ c3 (X : Int) (by omega) (by omega) _ (by first | rfl | simp) (by unfold RB; simpa using hr3) (fun b hb => hb.2) (by first | omega | (simp; omega))).mono ?_; rintro e w4 ⟨A4, c4, rfl, hc4, hcm4, hr4, hb4⟩; have hr5 := hr1.keep (stays_below (stays_below (Stays.refl _ _) hb3 ho1) hb4 (old_below hb3 ho1)); have ho5 := old_below hb4 (old_below hb3 ho1)))
    | (go_at_call 10; obtain ⟨q, hq1, hq2, hq3, hq4, hq5⟩ := unhide HR; refine (appended_ok bs (202 :: be (X : Int) 4) (.mk 4 X [] 0 []) q A A4 bs.length (bs.length + (202 :: be (X : Int) 4).length) cap c4 5 _ _ _ _ _ (Lt w.heap.size) (Made w3 w4) (Lt w.heap.size) w4 ho5 ?x1 ho5 rfl rfl hr5 hr4 hc ?x4 hm ?x2 hq2 (.inr hq3) ?x3 hq4 hq5.1 hq1 hq5.2).mono ?_; (case x1 => exact fun b hb => hb.2); (case x2 => exact hcm4); (case x4 => simpa using hc4); (case x3 => exact PackC.flat _ _ _ _ _ _); rintro e w5 ⟨rfl, hb5⟩))
  go_ret
  refine ⟨rfl, ?_⟩
  have k1 := unhide HB1
  have k3 := hb3.mono k1.size
  have k4 := hb4.mono (Nat.le_trans k1.size hb3.size)
  have k5 := hb5.mono (Nat.le_trans (Nat.le_trans k1.size hb3.size) hb4.size)
  exact ((k1.trans k3).trans k4).trans k5
end Go.Proofs.Ytndhgfjgpkkneaa
