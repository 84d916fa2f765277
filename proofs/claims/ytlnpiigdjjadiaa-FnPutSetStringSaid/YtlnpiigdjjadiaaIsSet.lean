/-
  The laws' own test 'isSet' answers true where the bytes behind what was there are an array that is read back as the one that is told. Conditions: the arguments read as bytes and as values.
-/
import Derived.Test.YtlnpiigdjjadiaaAppended
import Derived.BigGuardPart
namespace Go.Proofs.Ytlnpiigdjjadiaa
set_option linter.unusedSimpArgs false
set_option linter.unusedVariables false
open Go.RowKit
set_option maxRecDepth 100000 in
set_option maxHeartbeats 3200000 in
theorem isSet_ok (bef enc : List UInt8) (q : Pack) (kids : List Pack) (A1 A2 A3 : Option Addr) (n1 n2 n3 cap1 cap2 cap3 : Nat) (xs : List Value) (S1 S2 S3 : Nat → Prop) (w : World) (hS1 : Old w S1) (hS2 : Old w S2) (hS3 : Old w S3)
    (hn1 : n1 = bef.length) (hn2 : n2 = bef.length + enc.length) (hn3 : n3 = kids.length) (hr1 : RB w S1 A1 bef) (hr2 : RB w S2 A2 (bef ++ enc)) (hc1 : n1 ≤ cap1) (hc2 : n2 ≤ cap2) (hm1 : cap1 ≤ 9223372036854775807) (hm2 : cap2 ≤ 9223372036854775807) (hlen : enc.length ≤ 1099511627776)
    (hc3 : kids.length ≤ cap3) (hm3 : cap3 ≤ maxLen) (hr3 : Reads w S3 5 A3 kids.length xs) (hpk : PacksC w S3 kids xs) (hg : GoodP q) (hg' : GoodPs kids) (hk40 : kids.length ≤ 1099511627776) (ht : tPack 3 enc = some (q, [])) (hs : samePk q (.mk 8 0 [] 0 kids) = true) :
    Calls Try.prog 10 #[.slice A1 n1 cap1, .slice A2 n2 cap2, .slice A3 n3 cap3] w fun e w' => e = .returned (.bool true) ∧ Below w.heap.size w w' := by
  have hq3 : PackC w S3 (.mk 8 0 [] 0 kids) [.int .i64 8, .int .u64 0, .string ⟨#[]⟩, .int .i64 0, .slice A3 n3 cap3] := by
    unfold PackC
    exact ⟨A3, cap3, xs, by rw [hn3]; rfl, hc3, hm3, hr3, hpk⟩
  subst hn1 hn2
  have hcv1 : ∀ (W : World) (c : Nat), Stays S1 w W → (convert 22 9 (.slice A1 bef.length c)).run Try.prog W = .ok (.string ⟨bef.toArray⟩) W := fun W c hw =>
    run_string_of_bytes (P := Try.prog) 22 9 5 Try.underlying22 Try.underlying5 Try.underlying9 (hr1.keep hw) c
  have hcv2 : ∀ (W : World) (c : Nat), Stays S2 w W → (convert 22 9 (.slice A2 bef.length c)).run Try.prog W = .ok (.string ⟨bef.toArray⟩) W := fun W c hw => by
    have := run_string_of_bytes (P := Try.prog) 22 9 5 Try.underlying22 Try.underlying5 Try.underlying9 ((hr2.keep hw).take (k := bef.length) (by simp)) c
    simpa using this
  have HQ := hide hq3
  have HT := hide ht
  have HSM := hide hs
  have HR3 := hide hr3
  clear ht hs hq3 hr3 hpk hn3
  have hb1 : ¬ ((bef.length : Int) + enc.length < bef.length) := by omega
  have d1 : decide ((bef.length : Int) + enc.length < bef.length) = false := by simp; omega
  have d2 : decide (bef.length + enc.length < bef.length) = false := by simp
  go_enter Try.func10, Try.ntmps10
  go_upto_region 1 with fail
  go_cut [24] (fun s wx => s = .bool false ∧ Quiet w wx)
  case first =>
    go_quiet (fail)
    go_wp2
    go_meet
    exact ⟨rfl, Quiet.drewN _ _⟩
  case rest =>
  obtain ⟨rfl, hq⟩ := hcut
  have hb3 := hq.below (Below.refl w.heap.size w)
  have hst2 : Stays S2 w wc := hq.stays (by go_simp)
  have ho2 : Old wc S2 := hq.old (by go_simp)
  have hz3 := hq.size
  clear hq
  have hcut2 := (hr2.keep hst2).cut (k := bef.length) (cap := cap2) (by simp) (by simpa using hc2)
  rw [List.drop_left] at hcut2
  go_wp2_with fail
  refine (takesPack 3 (by omega) _ S2 _ enc _ _ _ rfl (by simp) hcut2 (by omega) (by omega) hlen ho2).mono ?_
  rintro e w4 ⟨kind, num, text, ext, K, kl, kc, A3', n3', cap3', bo, rfl, hbel, htr⟩
  rw [unhide HT] at htr
  obtain ⟨rfl, rfl, hr3', hc3', hm3', hpk'⟩ := htr
  have hz4 := hbel.size
  go_wp2_with fail
  have hbel4 : Below w.heap.size w w4 := hb3.trans (hbel.mono (by first | omega | (simp; omega) | (simp; done)))
  refine (samePack_any q (.mk 8 0 [] 0 kids) _ _ _ _ _ _ _ _ _ _ (fun b => wc.heap.size ≤ b ∧ b < w4.heap.size) S3 _ (old_alloc (fun b hb => hb.2) _) (old_alloc (old_below hbel4 hS3) _)
    (PackC.keep (stays_alloc (fun b hb => hb.2) (Stays.refl _ _) _) _ _ hpk') (PackC.keep (stays_alloc (old_below hbel4 hS3) (stays_below (Stays.refl _ _) hbel4 hS3) _) _ _ (unhide HQ)) hg ⟨by omega, hk40, hg'⟩).mono ?_
  rintro e w5 ⟨rfl, hbel5⟩
  rw [unhide HSM]
  go_wp2
  go_ret
  exact ⟨rfl, hbel4.trans ((((Below.refl w4.heap.size w4).alloc (Nat.le_refl _) _).trans (hbel5.mono (by first | omega | (simp; omega) | (simp; done)))).mono hbel4.size)⟩
end Go.Proofs.Ytlnpiigdjjadiaa
