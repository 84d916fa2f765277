/-
  The laws' own test 'appended' answers true where the bytes behind what was there are a value that is read back as the same one. Conditions: the arguments read as bytes and as a value.
-/
import Derived.Test.YtloaaffkjhkpaaaPackReadT
import Derived.Test.YtloaaffkjhkpaaaPackSame
import Derived.BigQuiet
import Derived.Deep.DeepCutAuto
import Derived.Deep.QuietTactic
namespace Go.Proofs.Ytloaaffkjhkpaaa
set_option linter.unusedSimpArgs false
set_option linter.unusedVariables false
open Go.RowKit
set_option maxHeartbeats 800000 in
theorem few_any (a : Option Addr) (len cap : Nat) (w : World) (_h : len ≤ 9223372036854775807) :
    Calls Try.prog 9 #[.slice a len cap] w fun e w' => e = .returned (.bool (decide (len ≤ 200))) ∧ w = w' := by
  go_enter Try.func9, Try.ntmps9
  go_wp2
  go_ret
  refine ⟨?_, rfl⟩
  show Ending.returned (Value.bool (decide ((len : Int) ≤ 200))) = _
  congr 2
  simp
  omega
set_option maxHeartbeats 1600000 in
theorem appended_ok (bef enc : List UInt8) (p q : Pack) (A1 A2 : Option Addr) (n1 n2 cap1 cap2 : Nat) (most : Int) (c0 c1 c2 c3 c4 : Value) (S1 S2 S3 : Nat → Prop) (w : World) (hS1 : Old w S1) (hS2 : Old w S2) (hS3 : Old w S3)
    (hn1 : n1 = bef.length) (hn2 : n2 = bef.length + enc.length) (hr1 : RB w S1 A1 bef) (hr2 : RB w S2 A2 (bef ++ enc)) (hc1 : n1 ≤ cap1) (hc2 : n2 ≤ cap2) (hm1 : cap1 ≤ 9223372036854775807) (hm2 : cap2 ≤ 9223372036854775807) (hlen : enc.length ≤ 1099511627776)
    (hmost : most < 0 ∨ (enc.length : Int) ≤ most) (hp : PackC w S3 p [c0, c1, c2, c3, c4]) (hg : GoodP p) (hg' : GoodP q) (ht : tPack 1 enc = some (q, [])) (hs : samePk p q = true) :
    Calls Try.prog 10 #[.slice A1 n1 cap1, .slice A2 n2 cap2, .agg #[c0, c1, c2, c3, c4], .int .i64 most] w fun e w' => e = .returned (.bool true) ∧ Below w.heap.size w w' := by
  subst hn1 hn2
  have hcv1 : ∀ (W : World) (c : Nat), Stays S1 w W → (convert 22 9 (.slice A1 bef.length c)).run Try.prog W = .ok (.string ⟨bef.toArray⟩) W := fun W c hw =>
    run_string_of_bytes (P := Try.prog) 22 9 5 Try.underlying22 Try.underlying5 Try.underlying9 (hr1.keep hw) c
  have hcv2 : ∀ (W : World) (c : Nat), Stays S2 w W → (convert 22 9 (.slice A2 bef.length c)).run Try.prog W = .ok (.string ⟨bef.toArray⟩) W := fun W c hw => by
    have := run_string_of_bytes (P := Try.prog) 22 9 5 Try.underlying22 Try.underlying5 Try.underlying9 ((hr2.keep hw).take (k := bef.length) (by simp)) c
    simpa using this
  have hP := hide hp
  have HT := hide ht
  have HSM := hide hs
  clear ht hs hp
  have hb1 : ¬ ((bef.length : Int) + enc.length < bef.length) := by omega
  go_enter Try.func10, Try.ntmps10
  go_upto_region 1 with fail
  go_cut [39] (fun s wx => s = .bool false ∧ Quiet (w.alloc (.cells #[c0, c1, c2, c3, c4] 30)) wx)
  case first =>
    have d1 : decide ((bef.length : Int) + enc.length < bef.length) = false := by simp; omega
    have d2 : decide (bef.length + enc.length < bef.length) = false := by simp
    rcases hmost with hm | hm
    · have d3 : decide (0 ≤ most) = false := by simpa using hm
      go_quiet (fail)
      go_wp2
      go_meet
      exact ⟨rfl, Quiet.drewN _ _⟩
    · by_cases hm0 : 0 ≤ most
      · have d3 : decide (0 ≤ most) = true := by simpa using hm0
        have d4 : decide (most < (bef.length : Int) + enc.length - bef.length) = false := by simp; omega
        go_quiet (fail)
        go_wp2
        go_meet
        exact ⟨rfl, Quiet.drewN _ _⟩
      · have d3 : decide (0 ≤ most) = false := by simpa using hm0
        go_quiet (fail)
        go_wp2
        go_meet
        exact ⟨rfl, Quiet.drewN _ _⟩
  case rest =>
  obtain ⟨rfl, hq⟩ := hcut
  have hb3 := hq.below ((Below.refl w.heap.size w).alloc (Nat.le_refl _) _)
  have hst2 : Stays S2 w wc := hq.stays (by go_simp)
  have ho2 : Old wc S2 := hq.old (by go_simp)
  have hB0 := hq.blk (Blk.new w 30 _)
  have hz3 := hq.size
  simp only [World.size_alloc] at hz3
  clear hq
  have hcut2 := (hr2.keep hst2).cut (k := bef.length) (cap := cap2) (by simp) (by simpa using hc2)
  rw [List.drop_left] at hcut2
  go_wp2_with fail
  refine (takesPack 1 (by omega) _ S2 _ enc _ _ _ rfl (by simp) hcut2 (by omega) (by omega) hlen ho2).mono ?_
  rintro e w4 ⟨kind, num, text, ext, K, kl, kc, A3, n3, cap3, bo, rfl, hbel, htr⟩
  rw [unhide HT] at htr
  obtain ⟨rfl, rfl, hr3, hc3, hm3, hpk⟩ := htr
  obtain ⟨⟨a0, a1, a2, a3, a4⟩, _⟩ := five_cells (hB0.below hbel (by first | omega | (simp; omega) | (simp; done)))
  have hz4 := hbel.size
  have l0 : w.heap.size < w4.heap.size := by omega
  go_wp2_with fail
  have hbel4 : Below w.heap.size w w4 := hb3.trans (hbel.mono (by first | omega | (simp; omega) | (simp; done)))
  refine (samePack_any p q _ _ _ _ _ _ _ _ _ _ S3 _ _ (old_alloc (old_below hbel4 hS3) _) (old_alloc (fun b hb => hb.2) _)
    (PackC.keep (stays_alloc (old_below hbel4 hS3) (stays_below (Stays.refl _ _) hbel4 hS3) _) _ _ (unhide hP)) (PackC.keep (stays_alloc (fun b hb => hb.2) (Stays.refl _ _) _) _ _ hpk) hg hg').mono ?_
  rintro e w5 ⟨rfl, hbel5⟩
  rw [unhide HSM]
  go_wp2
  go_ret
  exact ⟨rfl, hbel4.trans ((((Below.refl w4.heap.size w4).alloc (Nat.le_refl _) _).trans (hbel5.mono (by first | omega | (simp; omega) | (simp; done)))).mono hbel4.size)⟩
end Go.Proofs.Ytloaaffkjhkpaaa
