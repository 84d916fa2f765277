/-
  msgp.AppendExtension over a *RawExtension, further lengths. Conditions: at most 2^17 bytes; at most 2^40 bytes before.
-/
import Derived.Test.YtloaaffkjhkpaaaExt
namespace Go.Proofs.Ytloaaffkjhkpaaa
set_option linter.unusedSimpArgs false
set_option linter.unusedVariables false
set_option linter.unusedVariables false
open Go.RowKit
set_option maxRecDepth 100000 in
set_option maxHeartbeats 1600000 in
theorem AppendExtension_0 (S : Nat → Prop) (R cd : Nat) (kind : Int) (hk0 : -128 ≤ kind) (hk1 : kind ≤ 127) (Ad : Option Addr) (ds : List UInt8) (B : Nat) (A : Option Addr) (n cap : Nat) (xs : List Value) (w : World) (hl : ds.length = 0) (h0 : w.cell? ⟨R, 0, none⟩ = some (.slice Ad 0 cd)) (h1 : w.cell? ⟨R, 1, none⟩ = some (.int .i8 kind)) (hSR : S R) (hr : RB w S Ad ds) (hS : Old w S) (hsep : ∀ b, S b → (Value.slice A n cap).ownBlock ≠ some b)
    (hown : w.ownsRow B 5 1 (.slice A n cap) n xs) (hone : ∀ u ∈ xs, u.oneCell' = true) (hB : B ≤ w.heap.size) (hlen : n ≤ 1099511627776) :
    Calls Try.prog 21 #[.slice A n cap, .iface 53 (.pointer (some ⟨R, 0, none⟩))] w fun e w' => ∃ v, e = .returned (.tuple #[v, .nilIface]) ∧ Appd B n xs w (.slice A n cap) (199 :: 0 :: UInt8.ofNat (kind + 256).toNat :: ds) (.returned v) w' := by
  have hm1 := mLen R
  have hm2 := mType R
  go_enter Try.func21, Try.ntmps21
  go_wp2_with (first
    | (go_at_call 63; refine (extLen_any R 0 cd Ad _ h0).mono ?_; rintro e w1 ⟨rfl, rfl⟩)
    | (go_at_call 24; go_loud (refine (ensure_any B A n cap 3 _ xs _ (by simp) (by omega) hown hone hB (by omega)).mono ?_; rintro e w1 ⟨g, c', rfl, hgc, hcm, hBg, hxl, hrow, hbel, hat⟩; have hgR : R ≠ g := (by intro e; subst e; rcases hat with h | h; exact hsep _ hSR h; have := hS _ hSR; omega); have h0' : w1.cell? ⟨R, 0, none⟩ = some (.slice Ad 0 cd) := (hbel.cell (p := ⟨R, 0, none⟩) (hS _ hSR)).trans h0; have h1' : w1.cell? ⟨R, 1, none⟩ = some (.int .i8 kind) := (hbel.cell (p := ⟨R, 1, none⟩) (hS _ hSR)).trans h1; have hr' := hr.keep (stays_below (Stays.refl _ _) hbel hS); obtain ⟨y0, hy0⟩ := hrow.cell (n := n) (by omega); obtain ⟨y1, hy1⟩ := hrow.cell (n := n + 1) (by omega); obtain ⟨y2, hy2⟩ := hrow.cell (n := n + 2) (by omega); have hf0 := hrow.frozen n; have hf1 := hrow.frozen (n + 1); have hf2 := hrow.frozen (n + 2); have hgR' : ¬ g = R := fun e => hgR e.symm; have hSg : ¬ S g := (fun hb => by rcases hat with h | h; exact hsep _ hb h; have := hS _ hb; omega); have HX := hide hxl; have HA := hide hat; clear hxl hat; unfold maxLen at hcm))
    | (go_at_call 62; refine (extType_any R kind _ ?x1).mono ?_; (case x1 => first | go_simp | simp [hgR, hgR', h1']); rintro e w2 ⟨rfl, rfl⟩))
  generalize hw3 : World.setCell (World.setCell (World.setCell w1 _ _) _ _) _ _ = w3
  have hrow3 : Row w3 5 g c' (xs ++ [u8 199, u8 0, u8 (UInt8.ofNat (kind + 256).toNat)]) := by
    rw [← hw3]
    refine Row.cast ?_ (((hrow.push (n := n) (unhide HX) (by omega) _).push (n := n + 1) (by simp [unhide HX]) (by omega) _).push (n := n + 2) (by simp [unhide HX]) (by omega) _)
    simp [u8]
    omega
  have hg3 : w1.grownBy w3 (some g) := by rw [← hw3]; exact grown_setCell (grown_setCell (grown_setCell (World.grownBy.refl _ _) _ _) _ _) _ _
  obtain rfl := List.eq_nil_of_length_eq_zero hl
  clear hw3 hrow
  go_wp2
  go_ret2
  exact ⟨_, rfl, append_done (unhide HX) hbel (unhide HA) hBg (by unfold maxLen; omega) (Row.cast (by simp) hrow3) hg3 rfl⟩
end Go.Proofs.Ytloaaffkjhkpaaa
