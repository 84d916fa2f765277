/-
  msgp.AppendExtension over a *RawExtension, further lengths. Conditions: at most 2^17 bytes; at most 2^40 bytes before.
-/
import Derived.Test.YtloaaffkjhkpaaaExt
namespace Go.Proofs.Ytloaaffkjhkpaaa
set_option linter.unusedSimpArgs false
set_option linter.unusedVariables false
set_option linter.unusedVariables false
open Go.RowKit
theorem be_len32 : ∀ (k : Nat) (x : Int), (be x k).length = k
  | 0, _ => rfl
  | k + 1, x => by
    rw [show be x (k + 1) = be (x / 256) k ++ [UInt8.ofNat (x % 256).toNat] from rfl, List.length_append, be_len32 k]
    rfl
set_option maxRecDepth 100000 in
set_option maxHeartbeats 3200000 in
theorem AppendExtension_b32 (S : Nat → Prop) (R cd l : Nat) (kind : Int) (hk0 : -128 ≤ kind) (hk1 : kind ≤ 127) (Ad : Option Addr) (ds : List UInt8) (B : Nat) (A : Option Addr) (n cap : Nat) (xs : List Value) (w : World) (hl : ds.length = l) (hlo : 65535 ≤ l) (hhi : l < 131073) (h0 : w.cell? ⟨R, 0, none⟩ = some (.slice Ad l cd)) (h1 : w.cell? ⟨R, 1, none⟩ = some (.int .i8 kind)) (hSR : S R) (hr : RB w S Ad ds) (hS : Old w S) (hsep : ∀ b, S b → (Value.slice A n cap).ownBlock ≠ some b)
    (hown : w.ownsRow B 5 1 (.slice A n cap) n xs) (hone : ∀ u ∈ xs, u.oneCell' = true) (hB : B ≤ w.heap.size) (hlen : n ≤ 1099511627776) :
    Calls Try.prog 21 #[.slice A n cap, .iface 53 (.pointer (some ⟨R, 0, none⟩))] w fun e w' => ∃ v, e = .returned (.tuple #[v, .nilIface]) ∧ Appd B n xs w (.slice A n cap) (201 :: (be (l : Int) 4 ++ UInt8.ofNat (kind + 256).toNat :: ds)) (.returned v) w' := by
  have hm1 := mLen R
  have hm2 := mType R
  have hmB := mBin R
  have hm4 := mNil R
  obtain ⟨L, hL⟩ : ∃ L : Int, L = (l : Int) := ⟨_, rfl⟩
  have HL := hide hL
  have e0 : (L == 0) = false := by simp; omega
  have e1 : (L == 1) = false := by simp; omega
  have e2 : (L == 2) = false := by simp; omega
  have e4 : (L == 4) = false := by simp; omega
  have e8 : (L == 8) = false := by simp; omega
  have e16 : (L == 16) = false := by simp; omega
  have t5 : ¬ L < 255 := by omega
  have t6 : ¬ L < 65535 := by omega
  have hcv : IntKind.u32.wrap L = L := by simp [IntKind.wrap, IntKind.bits, IntKind.signed]; omega
  have HLO := hide hlo
  have HHI := hide hhi
  have hp0 : 0 < l := by omega
  have hL2 : L ≤ 131072 := by omega
  have hL1 : 0 ≤ L := by omega
  clear hlo hhi hL
  go_enter Try.func21, Try.ntmps21
  go_wp2_with (first
    | (go_at_call 63; go_loud (refine (extLen_any R l cd Ad _ h0).mono ?_; rw [← unhide HL]; rintro e w1 ⟨rfl, rfl⟩))
    | (go_at_call 24; go_loud (refine (ensure_any B A n cap (l + 6) _ xs _ (by have := unhide HL; omega) (by omega) hown hone hB (by have := unhide HHI; omega)).mono ?_; rintro e w1 ⟨g, c', rfl, hgc, hcm, hBg, hxl, hrow, hbel, hat⟩; obtain ⟨m, hm⟩ : ∃ m, n + (l + 6) = m := ⟨_, rfl⟩; rw [hm]; have hgR : R ≠ g := (by intro e; subst e; rcases hat with h | h; exact hsep _ hSR h; have := hS _ hSR; omega); have h0' : w1.cell? ⟨R, 0, none⟩ = some (.slice Ad l cd) := (hbel.cell (p := ⟨R, 0, none⟩) (hS _ hSR)).trans h0; have h1' : w1.cell? ⟨R, 1, none⟩ = some (.int .i8 kind) := (hbel.cell (p := ⟨R, 1, none⟩) (hS _ hSR)).trans h1; have hr' := hr.keep (stays_below (Stays.refl _ _) hbel hS); obtain ⟨y0, hy0⟩ := hrow.cell (n := n) (by omega); have hf0 := hrow.frozen n; have hgR' : ¬ g = R := fun e => hgR e.symm; have hSg : ¬ S g := (fun hb => by rcases hat with h | h; exact hsep _ hb h; have := hS _ hb; omega); have HX := hide hxl; have HA := hide hat; clear hxl hat; unfold maxLen at hcm; have hnm : (n : Int) < (m : Int) := (by omega))))
  have hlo := unhide HLO
  have hhi := unhide HHI
  have hrow2 : Row (w1.setCell ⟨g, n, none⟩ (.int .u8 201)) 5 g c' (xs ++ [u8 201]) := Row.cast (by simp [u8]) (hrow.push (n := n) (unhide HX) (by omega) _)
  have hg2 : w1.grownBy (w1.setCell ⟨g, n, none⟩ (.int .u8 201)) (some g) := grown_setCell (World.grownBy.refl _ _) _ _
  have h02 := hg2.cell h0' (by simp [hgR])
  have h12 := hg2.cell h1' (by simp [hgR])
  have hr2 : RB (w1.setCell ⟨g, n, none⟩ (.int .u8 201)) S Ad ds := hr'.keep (stays_setCell hSg (Stays.refl _ _) _)
  generalize w1.setCell ⟨g, n, none⟩ (.int .u8 201) = w2 at *
  have HR2 := hide hrow2
  have HG2 := hide hg2
  have HB2 := hide hr2
  have HO2 : Hid (Old w2 S) := hide fun b hb => Nat.lt_of_lt_of_le (hS b hb) (Nat.le_trans hbel.size hg2.size)
  have hp1 : (0 : Int) ≤ (n : Int) + 1 := by omega
  have hq1 : (n : Int) + 1 ≤ (m : Int) := by omega
  have hx1 : IntKind.i64.wrap ((n : Int) + 1) = (n : Int) + 1 := by simp [IntKind.wrap, IntKind.bits, IntKind.signed]; omega
  have ht1 : ((n : Int) + 1).toNat = n + 1 := by omega
  have hd1 : m - (n + 1) = l + 5 := by omega
  have hcut1 := cutA_at g c' (n + 1) (by omega)
  clear hy0 hf0 hrow hrow2 hg2 hr2 h0' h1' hr' hlo hhi
  go_region_held3 (fun _ => True) (trivial) ((go_at_call 32; go_loud (refine (w_BE32 g (n + 1) c' (l + 5) _ L (by omega) (by omega) (xs ++ [u8 201]) w2.drew ((unhide HR2).keep rfl) (by simp [unhide HX]) (by omega) (by omega) (by omega)).mono ?_; rintro e w3 ⟨rfl, hrow3, hg3⟩; rw [unhide HL] at hrow3; have HR3 := hide hrow3; have HG3 := hide hg3; clear hrow3 hg3)))
  have hg3 := unhide HG3
  have hrow3 := unhide HR3
  have h03 : w3.cell? ⟨R, 0, none⟩ = some (.slice Ad l cd) := hg3.cell h02 (by simp [hgR])
  have h13 : w3.cell? ⟨R, 1, none⟩ = some (.int .i8 kind) := hg3.cell h12 (by simp [hgR])
  have hr3 : RB w3 S Ad ds := (unhide HB2).keep (fun b hb => hg3.block b (unhide HO2 b hb) (fun e => hSg (by injection e with e; rw [← e]; exact hb)))
  have HG31 := hide (grown_trans' (grown_drew (unhide HG2)) hg3 (fun k hk => .inl hk))
  obtain ⟨y3, hy3⟩ := hrow3.cell (n := n + 5) (by omega)
  have hf3 := hrow3.frozen (n + 5)
  have hn3 : (n : Int) + 5 < (m : Int) := by omega
  have HB3 := hide hr3
  clear hg3 hrow3 hr3 h02 h12
  go_wp2_with (go_at_call 62; refine (extType_any R kind _ ?x1).mono ?_; (case x1 => first | go_simp | simp [hgR, hgR', h13]); rintro e w4 ⟨rfl, rfl⟩)
  generalize hw4 : World.setCell w3 _ _ = w4
  have hrow4 : Row w4 5 g c' (xs ++ [u8 201] ++ (be (l : Int) 4).map u8 ++ [u8 (UInt8.ofNat (kind + 256).toNat)]) := by
    rw [← hw4]
    refine Row.cast ?_ ((unhide HR3).push (n := n + 5) (by simp [unhide HX, be_len32]; done) (by omega) _)
    simp [u8]
    omega
  have hg4 : w1.grownBy w4 (some g) := by rw [← hw4]; exact grown_setCell (unhide HG31) _ _
  have h04 : w4.cell? ⟨R, 0, none⟩ = some (.slice Ad l cd) := by rw [← hw4]; exact (grown_setCell (g := g) (World.grownBy.refl w3 _) (n + 5) _).cell h03 (by simp [hgR])
  have hr4 : RB w4 S Ad ds := by rw [← hw4]; exact (unhide HB3).keep (stays_setCell hSg (Stays.refl _ _) _)
  clear hw4 hy3 hf3 h03 h13
  have hM : ∀ cc, Calls Try.prog 64 #[.pointer (some ⟨R, 0, none⟩), .slice (some ⟨g, n + 6, none⟩) l cc] w4.drew fun e w' => e = .returned .nilIface ∧ Row w' 5 g c' ((xs ++ [u8 201] ++ (be (l : Int) 4).map u8 ++ [u8 (UInt8.ofNat (kind + 256).toNat)]) ++ ds.map u8) ∧ w4.drew.grownBy w' (some g) ∧ w'.heap.size = w4.drew.heap.size :=
    fun cc => marshal_any S R g (n + 6) c' l cd cc Ad ds _ w4.drew h04 hl.symm (by omega) (hr4.keep fun _ _ => rfl) (hrow4.keep rfl) (by simp [unhide HX, be_len32] <;> omega) (by omega)
  have HM := hide hM
  clear hM
  have hp3 : (0 : Int) ≤ (n : Int) + 6 := by omega
  have hq3 : (n : Int) + 6 ≤ (m : Int) := by omega
  have ht3 : ((n : Int) + 6).toNat = n + 6 := by omega
  have hd3 : m - (n + 6) = l := by omega
  have hx3 : IntKind.i64.wrap ((n : Int) + 6) = (n : Int) + 6 := by simp [IntKind.wrap, IntKind.bits, IntKind.signed]; omega
  have hcut := cutA_at g c' (n + 6) (by omega)
  go_region_held3 (fun _ => True) (trivial) ((go_at_call 64; go_loud (refine (unhide HM _).mono ?_; rintro e w5 ⟨rfl, hrow5, hg5, hz5⟩)))
  all_goals
    subst hm
    have hg6 : w4.grownBy w5 (some g) := ⟨hg5.os, hg5.tape, hg5.output, hg5.size, hg5.block⟩
    go_wp2
    go_ret2
    exact ⟨_, rfl, append_done (unhide HX) hbel (unhide HA) hBg (by unfold maxLen; omega) (Row.cast (by simp) hrow5) (hg4.trans hg6) (by simp [hl, be_len32]; omega)⟩
end Go.Proofs.Ytloaaffkjhkpaaa
