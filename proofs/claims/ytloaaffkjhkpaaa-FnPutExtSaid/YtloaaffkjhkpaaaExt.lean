/-
  msgp.AppendExtension over a *RawExtension: what it puts behind a slice of the call's own: a head that tells the length and the type, and the bytes. Conditions: at most 2^17 bytes; at most 2^40 bytes before.
-/
import Derived.Test.YtloaaffkjhkpaaaPutBE
import Derived.Laws.CopyRow
import Derived.Deep.RegionWith
import Derived.Deep.RegionHeld3
import Derived.BigRegion
namespace Go.Proofs.Ytloaaffkjhkpaaa
set_option linter.unusedSimpArgs false
set_option linter.unusedVariables false
open Go.RowKit
/-- News are copied behind what a row holds. -/
theorem Row.splice {w : World} {t : TypeId} {g cap n : Nat} {xs : List Value} (h : Row w t g cap xs) (hn : xs.length = n) (news : List Value) (hc : n + news.length ≤ cap) :
    ∃ cur : Array Value, w.heap[g]? = some (.cells cur t (0, 0)) ∧ cur.size = cap ∧ Row (w.setRow g (cur.toList.take n ++ news ++ cur.toList.drop (n + news.length)).toArray) t g cap (xs ++ news) := by
  obtain ⟨cur, hb, hs, hl, ht⟩ := h
  subst hn
  have hcl : cur.toList.length = cap := by simpa using hs
  refine ⟨cur, hb, hs, _, setRow_heap w g cur _ t _ hb, ?_, by simp; omega, ?_⟩
  · simp
    omega
  · rw [ht]
    simp [List.take_append, List.take_of_length_le]
theorem grown_setRow (w : World) (g : Nat) (cs : Array Value) : w.grownBy (w.setRow g cs) (some g) := by
  refine ⟨rfl, rfl, rfl, by simp [World.setRow], fun k hk hne => ?_⟩
  have hk' : ¬ g = k := fun e => hne (by rw [e])
  simp [World.setRow, Array.getElem?_modify, hk']
theorem marshal_any (S : Nat → Prop) (R g n c' l cd cap2 : Nat) (A : Option Addr) (ds : List UInt8) (xs : List Value) (w : World) (h0 : w.cell? ⟨R, 0, none⟩ = some (.slice A l cd)) (hl : l = ds.length) (hpos : 0 < l) (hr : RB w S A ds) (hrow : Row w 5 g c' xs) (hn : xs.length = n) (hc : n + l ≤ c') :
    Calls Try.prog 64 #[.pointer (some ⟨R, 0, none⟩), .slice (some ⟨g, n, none⟩) l cap2] w fun e w' => e = .returned .nilIface ∧ Row w' 5 g c' (xs ++ ds.map u8) ∧ w.grownBy w' (some g) ∧ w'.heap.size = w.heap.size := by
  subst hl
  obtain ⟨ad, rfl, _, hcell⟩ := hr.2 hpos
  obtain ⟨cur, hb, hs, hrow'⟩ := hrow.splice hn (ds.map u8) (by simpa using hc)
  have hcp : ∀ ty, (Builtin.copy_ #[22, 22] ty #[.slice (some ⟨g, n, none⟩) ds.length cap2, .slice (some ad) ds.length cd]).run Try.prog w = .ok (goInt (ds.map u8).length) (w.setRow g (cur.toList.take n ++ ds.map u8 ++ cur.toList.drop (n + (ds.map u8).length)).toArray) :=
    fun ty => run_copy_row (P := Try.prog) w 22 22 ty 5 g n ds.length cap2 ad ds.length cd cur 5 (ds.map u8) Try.underlying22 (by kernel_rfl) hb (by simp) hcell (by simp; omega) (u8_one ds)
  have HR := hide hrow'
  clear hrow' hrow hb hs
  go_enter Try.func64, Try.ntmps64
  go_wp2
  go_ret
  exact ⟨rfl, by simpa using unhide HR, grown_setRow _ _ _, by simp [World.setRow]⟩
theorem extLen_any (R l cd : Nat) (A : Option Addr) (w : World) (h0 : w.cell? ⟨R, 0, none⟩ = some (.slice A l cd)) :
    Calls Try.prog 63 #[.pointer (some ⟨R, 0, none⟩)] w fun e w' => e = .returned (.int .i64 l) ∧ w = w' := by
  go_enter Try.func63, Try.ntmps63
  go_wp2
  go_ret
  exact ⟨rfl, rfl⟩
theorem extType_any (R : Nat) (kind : Int) (w : World) (h1 : w.cell? ⟨R, 1, none⟩ = some (.int .i8 kind)) :
    Calls Try.prog 62 #[.pointer (some ⟨R, 0, none⟩)] w fun e w' => e = .returned (.int .i8 kind) ∧ w = w' := by
  go_enter Try.func62, Try.ntmps62
  go_wp2
  go_ret
  exact ⟨rfl, rfl⟩
theorem mLen (R : Nat) (w : World) : (method 205 53 (.pointer (some ⟨R, 0, none⟩)) "Len").run Try.prog w = .ok (63, .pointer (some ⟨R, 0, none⟩)) w := by kernel_rfl
theorem mType (R : Nat) (w : World) : (method 205 53 (.pointer (some ⟨R, 0, none⟩)) "ExtensionType").run Try.prog w = .ok (62, .pointer (some ⟨R, 0, none⟩)) w := by kernel_rfl
theorem mBin (R : Nat) (w : World) : (method 205 53 (.pointer (some ⟨R, 0, none⟩)) "MarshalBinaryTo").run Try.prog w = .ok (64, .pointer (some ⟨R, 0, none⟩)) w := by kernel_rfl
theorem mNil (R : Nat) (w : World) : (nilAhead 205 53 (.pointer (some ⟨R, 0, none⟩)) "MarshalBinaryTo").run Try.prog w = .ok (some false) w := by kernel_rfl
set_option maxRecDepth 100000 in
set_option maxHeartbeats 800000 in
theorem AppendExtension_1 (S : Nat → Prop) (R cd : Nat) (kind : Int) (hk0 : -128 ≤ kind) (hk1 : kind ≤ 127) (Ad : Option Addr) (ds : List UInt8) (B : Nat) (A : Option Addr) (n cap : Nat) (xs : List Value) (w : World) (hl : ds.length = 1) (h0 : w.cell? ⟨R, 0, none⟩ = some (.slice Ad 1 cd)) (h1 : w.cell? ⟨R, 1, none⟩ = some (.int .i8 kind)) (hSR : S R) (hr : RB w S Ad ds) (hS : Old w S) (hsep : ∀ b, S b → (Value.slice A n cap).ownBlock ≠ some b)
    (hown : w.ownsRow B 5 1 (.slice A n cap) n xs) (hone : ∀ u ∈ xs, u.oneCell' = true) (hB : B ≤ w.heap.size) (hlen : n ≤ 1099511627776) :
    Calls Try.prog 21 #[.slice A n cap, .iface 53 (.pointer (some ⟨R, 0, none⟩))] w fun e w' => ∃ v, e = .returned (.tuple #[v, .nilIface]) ∧ Appd B n xs w (.slice A n cap) (212 :: UInt8.ofNat (kind + 256).toNat :: ds) (.returned v) w' := by
  have hm1 := mLen R
  have hm2 := mType R
  have hm3 := mBin R
  have hm4 := mNil R
  go_enter Try.func21, Try.ntmps21
  go_wp2_with (first
    | (go_at_call 63; refine (extLen_any R 1 cd Ad _ h0).mono ?_; rintro e w1 ⟨rfl, rfl⟩)
    | (go_at_call 24; refine (ensure_any B A n cap 3 _ xs _ (by simp) (by omega) hown hone hB (by omega)).mono ?_; rintro e w1 ⟨g, c', rfl, hgc, hcm, hBg, hxl, hrow, hbel, hat⟩; have hgR : R ≠ g := (by intro e; subst e; rcases hat with h | h; exact hsep _ hSR h; have := hS _ hSR; omega); have h0' : w1.cell? ⟨R, 0, none⟩ = some (.slice Ad 1 cd) := (hbel.cell (p := ⟨R, 0, none⟩) (hS _ hSR)).trans h0; have h1' : w1.cell? ⟨R, 1, none⟩ = some (.int .i8 kind) := (hbel.cell (p := ⟨R, 1, none⟩) (hS _ hSR)).trans h1; have hr' := hr.keep (stays_below (Stays.refl _ _) hbel hS); obtain ⟨y0, hy0⟩ := hrow.cell (n := n) (by omega); obtain ⟨y1, hy1⟩ := hrow.cell (n := n + 1) (by omega); have hf0 := hrow.frozen n; have hf1 := hrow.frozen (n + 1); have hgR' : ¬ g = R := fun e => hgR e.symm; have hSg : ¬ S g := (fun hb => by rcases hat with h | h; exact hsep _ hb h; have := hS _ hb; omega); have HX := hide hxl; have HA := hide hat; clear hxl hat; unfold maxLen at hcm; have hcut := cutA_at g c' (n + 2) (by omega))
    | (go_at_call 62; refine (extType_any R kind _ ?x1).mono ?_; (case x1 => first | go_simp | simp [hgR, hgR', h1']); rintro e w2 ⟨rfl, rfl⟩))
  generalize hw3 : World.setCell (World.setCell w1 _ _) _ _ = w3
  have hrow3 : Row w3 5 g c' (xs ++ [u8 212, u8 (UInt8.ofNat (kind + 256).toNat)]) := by
    rw [← hw3]
    refine Row.cast ?_ ((hrow.push (n := n) (unhide HX) (by omega) _).push (n := n + 1) (by simp [unhide HX]) (by omega) _)
    simp [u8]
    omega
  have hg3 : w1.grownBy w3 (some g) := by rw [← hw3]; exact grown_setCell (grown_setCell (World.grownBy.refl _ _) _ _) _ _
  have h03 : w3.cell? ⟨R, 0, none⟩ = some (.slice Ad 1 cd) := hg3.cell h0' (by simp [hgR])
  have hr3 : RB w3 S Ad ds := by rw [← hw3]; exact hr'.keep (stays_setCell hSg (stays_setCell hSg (Stays.refl _ _) _) _)
  clear hw3 hrow
  have hM : ∀ cc, Calls Try.prog 64 #[.pointer (some ⟨R, 0, none⟩), .slice (some ⟨g, n + 2, none⟩) 1 cc] w3.drew fun e w' => e = .returned .nilIface ∧ Row w' 5 g c' ((xs ++ [u8 212, u8 (UInt8.ofNat (kind + 256).toNat)]) ++ ds.map u8) ∧ w3.drew.grownBy w' (some g) ∧ w'.heap.size = w3.drew.heap.size :=
    fun cc => marshal_any S R g (n + 2) c' 1 cd cc Ad ds _ w3.drew h03 hl.symm (by omega) (hr3.keep fun _ _ => rfl) (hrow3.keep rfl) (by simp [unhide HX]) (by omega)
  have HM := hide hM
  clear hM
  have hp2 : (0 : Int) ≤ (n : Int) + 2 := by omega
  have hq2 : (n : Int) + 2 ≤ (n : Int) + 3 := by omega
  have hw2 : IntKind.i64.wrap ((n : Int) + 2) = (n : Int) + 2 := by simp [IntKind.wrap, IntKind.bits, IntKind.signed]; omega
  have ht2 : ((n : Int) + 2).toNat = n + 2 := by omega
  have hd2 : n + 3 - (n + 2) = 1 := by omega
  go_region_held3 (fun _ => True) (trivial) ((go_at_call 64; go_loud (refine (unhide HM _).mono ?_; rintro e w4 ⟨rfl, hrow4, hg4, hz4⟩)))
  all_goals
    have hg5 : w3.grownBy w4 (some g) := ⟨hg4.os, hg4.tape, hg4.output, hg4.size, hg4.block⟩
    go_wp2
    go_ret2
    exact ⟨_, rfl, append_done (unhide HX) hbel (unhide HA) hBg (by unfold maxLen; omega) (Row.cast (by simp) hrow4) (hg3.trans hg5) (by simp [hl])⟩
set_option maxRecDepth 100000 in
set_option maxHeartbeats 800000 in
theorem AppendExtension_2 (S : Nat → Prop) (R cd : Nat) (kind : Int) (hk0 : -128 ≤ kind) (hk1 : kind ≤ 127) (Ad : Option Addr) (ds : List UInt8) (B : Nat) (A : Option Addr) (n cap : Nat) (xs : List Value) (w : World) (hl : ds.length = 2) (h0 : w.cell? ⟨R, 0, none⟩ = some (.slice Ad 2 cd)) (h1 : w.cell? ⟨R, 1, none⟩ = some (.int .i8 kind)) (hSR : S R) (hr : RB w S Ad ds) (hS : Old w S) (hsep : ∀ b, S b → (Value.slice A n cap).ownBlock ≠ some b)
    (hown : w.ownsRow B 5 1 (.slice A n cap) n xs) (hone : ∀ u ∈ xs, u.oneCell' = true) (hB : B ≤ w.heap.size) (hlen : n ≤ 1099511627776) :
    Calls Try.prog 21 #[.slice A n cap, .iface 53 (.pointer (some ⟨R, 0, none⟩))] w fun e w' => ∃ v, e = .returned (.tuple #[v, .nilIface]) ∧ Appd B n xs w (.slice A n cap) (213 :: UInt8.ofNat (kind + 256).toNat :: ds) (.returned v) w' := by
  have hm1 := mLen R
  have hm2 := mType R
  have hm3 := mBin R
  have hm4 := mNil R
  go_enter Try.func21, Try.ntmps21
  go_wp2_with (first
    | (go_at_call 63; refine (extLen_any R 2 cd Ad _ h0).mono ?_; rintro e w1 ⟨rfl, rfl⟩)
    | (go_at_call 24; refine (ensure_any B A n cap 4 _ xs _ (by simp) (by omega) hown hone hB (by omega)).mono ?_; rintro e w1 ⟨g, c', rfl, hgc, hcm, hBg, hxl, hrow, hbel, hat⟩; have hgR : R ≠ g := (by intro e; subst e; rcases hat with h | h; exact hsep _ hSR h; have := hS _ hSR; omega); have h0' : w1.cell? ⟨R, 0, none⟩ = some (.slice Ad 2 cd) := (hbel.cell (p := ⟨R, 0, none⟩) (hS _ hSR)).trans h0; have h1' : w1.cell? ⟨R, 1, none⟩ = some (.int .i8 kind) := (hbel.cell (p := ⟨R, 1, none⟩) (hS _ hSR)).trans h1; have hr' := hr.keep (stays_below (Stays.refl _ _) hbel hS); obtain ⟨y0, hy0⟩ := hrow.cell (n := n) (by omega); obtain ⟨y1, hy1⟩ := hrow.cell (n := n + 1) (by omega); have hf0 := hrow.frozen n; have hf1 := hrow.frozen (n + 1); have hgR' : ¬ g = R := fun e => hgR e.symm; have hSg : ¬ S g := (fun hb => by rcases hat with h | h; exact hsep _ hb h; have := hS _ hb; omega); have HX := hide hxl; have HA := hide hat; clear hxl hat; unfold maxLen at hcm; have hcut := cutA_at g c' (n + 2) (by omega))
    | (go_at_call 62; refine (extType_any R kind _ ?x1).mono ?_; (case x1 => first | go_simp | simp [hgR, hgR', h1']); rintro e w2 ⟨rfl, rfl⟩))
  generalize hw3 : World.setCell (World.setCell w1 _ _) _ _ = w3
  have hrow3 : Row w3 5 g c' (xs ++ [u8 213, u8 (UInt8.ofNat (kind + 256).toNat)]) := by
    rw [← hw3]
    refine Row.cast ?_ ((hrow.push (n := n) (unhide HX) (by omega) _).push (n := n + 1) (by simp [unhide HX]) (by omega) _)
    simp [u8]
    omega
  have hg3 : w1.grownBy w3 (some g) := by rw [← hw3]; exact grown_setCell (grown_setCell (World.grownBy.refl _ _) _ _) _ _
  have h03 : w3.cell? ⟨R, 0, none⟩ = some (.slice Ad 2 cd) := hg3.cell h0' (by simp [hgR])
  have hr3 : RB w3 S Ad ds := by rw [← hw3]; exact hr'.keep (stays_setCell hSg (stays_setCell hSg (Stays.refl _ _) _) _)
  clear hw3 hrow
  have hM : ∀ cc, Calls Try.prog 64 #[.pointer (some ⟨R, 0, none⟩), .slice (some ⟨g, n + 2, none⟩) 2 cc] w3.drew fun e w' => e = .returned .nilIface ∧ Row w' 5 g c' ((xs ++ [u8 213, u8 (UInt8.ofNat (kind + 256).toNat)]) ++ ds.map u8) ∧ w3.drew.grownBy w' (some g) ∧ w'.heap.size = w3.drew.heap.size :=
    fun cc => marshal_any S R g (n + 2) c' 2 cd cc Ad ds _ w3.drew h03 hl.symm (by omega) (hr3.keep fun _ _ => rfl) (hrow3.keep rfl) (by simp [unhide HX]) (by omega)
  have HM := hide hM
  clear hM
  have hp2 : (0 : Int) ≤ (n : Int) + 2 := by omega
  have hq2 : (n : Int) + 2 ≤ (n : Int) + 4 := by omega
  have hw2 : IntKind.i64.wrap ((n : Int) + 2) = (n : Int) + 2 := by simp [IntKind.wrap, IntKind.bits, IntKind.signed]; omega
  have ht2 : ((n : Int) + 2).toNat = n + 2 := by omega
  have hd2 : n + 4 - (n + 2) = 2 := by omega
  go_region_held3 (fun _ => True) (trivial) ((go_at_call 64; go_loud (refine (unhide HM _).mono ?_; rintro e w4 ⟨rfl, hrow4, hg4, hz4⟩)))
  all_goals
    have hg5 : w3.grownBy w4 (some g) := ⟨hg4.os, hg4.tape, hg4.output, hg4.size, hg4.block⟩
    go_wp2
    go_ret2
    exact ⟨_, rfl, append_done (unhide HX) hbel (unhide HA) hBg (by unfold maxLen; omega) (Row.cast (by simp) hrow4) (hg3.trans hg5) (by simp [hl])⟩
set_option maxRecDepth 100000 in
set_option maxHeartbeats 800000 in
theorem AppendExtension_4 (S : Nat → Prop) (R cd : Nat) (kind : Int) (hk0 : -128 ≤ kind) (hk1 : kind ≤ 127) (Ad : Option Addr) (ds : List UInt8) (B : Nat) (A : Option Addr) (n cap : Nat) (xs : List Value) (w : World) (hl : ds.length = 4) (h0 : w.cell? ⟨R, 0, none⟩ = some (.slice Ad 4 cd)) (h1 : w.cell? ⟨R, 1, none⟩ = some (.int .i8 kind)) (hSR : S R) (hr : RB w S Ad ds) (hS : Old w S) (hsep : ∀ b, S b → (Value.slice A n cap).ownBlock ≠ some b)
    (hown : w.ownsRow B 5 1 (.slice A n cap) n xs) (hone : ∀ u ∈ xs, u.oneCell' = true) (hB : B ≤ w.heap.size) (hlen : n ≤ 1099511627776) :
    Calls Try.prog 21 #[.slice A n cap, .iface 53 (.pointer (some ⟨R, 0, none⟩))] w fun e w' => ∃ v, e = .returned (.tuple #[v, .nilIface]) ∧ Appd B n xs w (.slice A n cap) (214 :: UInt8.ofNat (kind + 256).toNat :: ds) (.returned v) w' := by
  have hm1 := mLen R
  have hm2 := mType R
  have hm3 := mBin R
  have hm4 := mNil R
  go_enter Try.func21, Try.ntmps21
  go_wp2_with (first
    | (go_at_call 63; refine (extLen_any R 4 cd Ad _ h0).mono ?_; rintro e w1 ⟨rfl, rfl⟩)
    | (go_at_call 24; refine (ensure_any B A n cap 6 _ xs _ (by simp) (by omega) hown hone hB (by omega)).mono ?_; rintro e w1 ⟨g, c', rfl, hgc, hcm, hBg, hxl, hrow, hbel, hat⟩; have hgR : R ≠ g := (by intro e; subst e; rcases hat with h | h; exact hsep _ hSR h; have := hS _ hSR; omega); have h0' : w1.cell? ⟨R, 0, none⟩ = some (.slice Ad 4 cd) := (hbel.cell (p := ⟨R, 0, none⟩) (hS _ hSR)).trans h0; have h1' : w1.cell? ⟨R, 1, none⟩ = some (.int .i8 kind) := (hbel.cell (p := ⟨R, 1, none⟩) (hS _ hSR)).trans h1; have hr' := hr.keep (stays_below (Stays.refl _ _) hbel hS); obtain ⟨y0, hy0⟩ := hrow.cell (n := n) (by omega); obtain ⟨y1, hy1⟩ := hrow.cell (n := n + 1) (by omega); have hf0 := hrow.frozen n; have hf1 := hrow.frozen (n + 1); have hgR' : ¬ g = R := fun e => hgR e.symm; have hSg : ¬ S g := (fun hb => by rcases hat with h | h; exact hsep _ hb h; have := hS _ hb; omega); have HX := hide hxl; have HA := hide hat; clear hxl hat; unfold maxLen at hcm; have hcut := cutA_at g c' (n + 2) (by omega))
    | (go_at_call 62; refine (extType_any R kind _ ?x1).mono ?_; (case x1 => first | go_simp | simp [hgR, hgR', h1']); rintro e w2 ⟨rfl, rfl⟩))
  generalize hw3 : World.setCell (World.setCell w1 _ _) _ _ = w3
  have hrow3 : Row w3 5 g c' (xs ++ [u8 214, u8 (UInt8.ofNat (kind + 256).toNat)]) := by
    rw [← hw3]
    refine Row.cast ?_ ((hrow.push (n := n) (unhide HX) (by omega) _).push (n := n + 1) (by simp [unhide HX]) (by omega) _)
    simp [u8]
    omega
  have hg3 : w1.grownBy w3 (some g) := by rw [← hw3]; exact grown_setCell (grown_setCell (World.grownBy.refl _ _) _ _) _ _
  have h03 : w3.cell? ⟨R, 0, none⟩ = some (.slice Ad 4 cd) := hg3.cell h0' (by simp [hgR])
  have hr3 : RB w3 S Ad ds := by rw [← hw3]; exact hr'.keep (stays_setCell hSg (stays_setCell hSg (Stays.refl _ _) _) _)
  clear hw3 hrow
  have hM : ∀ cc, Calls Try.prog 64 #[.pointer (some ⟨R, 0, none⟩), .slice (some ⟨g, n + 2, none⟩) 4 cc] w3.drew fun e w' => e = .returned .nilIface ∧ Row w' 5 g c' ((xs ++ [u8 214, u8 (UInt8.ofNat (kind + 256).toNat)]) ++ ds.map u8) ∧ w3.drew.grownBy w' (some g) ∧ w'.heap.size = w3.drew.heap.size :=
    fun cc => marshal_any S R g (n + 2) c' 4 cd cc Ad ds _ w3.drew h03 hl.symm (by omega) (hr3.keep fun _ _ => rfl) (hrow3.keep rfl) (by simp [unhide HX]) (by omega)
  have HM := hide hM
  clear hM
  have hp2 : (0 : Int) ≤ (n : Int) + 2 := by omega
  have hq2 : (n : Int) + 2 ≤ (n : Int) + 6 := by omega
  have hw2 : IntKind.i64.wrap ((n : Int) + 2) = (n : Int) + 2 := by simp [IntKind.wrap, IntKind.bits, IntKind.signed]; omega
  have ht2 : ((n : Int) + 2).toNat = n + 2 := by omega
  have hd2 : n + 6 - (n + 2) = 4 := by omega
  go_region_held3 (fun _ => True) (trivial) ((go_at_call 64; go_loud (refine (unhide HM _).mono ?_; rintro e w4 ⟨rfl, hrow4, hg4, hz4⟩)))
  all_goals
    have hg5 : w3.grownBy w4 (some g) := ⟨hg4.os, hg4.tape, hg4.output, hg4.size, hg4.block⟩
    go_wp2
    go_ret2
    exact ⟨_, rfl, append_done (unhide HX) hbel (unhide HA) hBg (by unfold maxLen; omega) (Row.cast (by simp) hrow4) (hg3.trans hg5) (by simp [hl])⟩
set_option maxRecDepth 100000 in
set_option maxHeartbeats 800000 in
theorem AppendExtension_8 (S : Nat → Prop) (R cd : Nat) (kind : Int) (hk0 : -128 ≤ kind) (hk1 : kind ≤ 127) (Ad : Option Addr) (ds : List UInt8) (B : Nat) (A : Option Addr) (n cap : Nat) (xs : List Value) (w : World) (hl : ds.length = 8) (h0 : w.cell? ⟨R, 0, none⟩ = some (.slice Ad 8 cd)) (h1 : w.cell? ⟨R, 1, none⟩ = some (.int .i8 kind)) (hSR : S R) (hr : RB w S Ad ds) (hS : Old w S) (hsep : ∀ b, S b → (Value.slice A n cap).ownBlock ≠ some b)
    (hown : w.ownsRow B 5 1 (.slice A n cap) n xs) (hone : ∀ u ∈ xs, u.oneCell' = true) (hB : B ≤ w.heap.size) (hlen : n ≤ 1099511627776) :
    Calls Try.prog 21 #[.slice A n cap, .iface 53 (.pointer (some ⟨R, 0, none⟩))] w fun e w' => ∃ v, e = .returned (.tuple #[v, .nilIface]) ∧ Appd B n xs w (.slice A n cap) (215 :: UInt8.ofNat (kind + 256).toNat :: ds) (.returned v) w' := by
  have hm1 := mLen R
  have hm2 := mType R
  have hm3 := mBin R
  have hm4 := mNil R
  go_enter Try.func21, Try.ntmps21
  go_wp2_with (first
    | (go_at_call 63; refine (extLen_any R 8 cd Ad _ h0).mono ?_; rintro e w1 ⟨rfl, rfl⟩)
    | (go_at_call 24; refine (ensure_any B A n cap 10 _ xs _ (by simp) (by omega) hown hone hB (by omega)).mono ?_; rintro e w1 ⟨g, c', rfl, hgc, hcm, hBg, hxl, hrow, hbel, hat⟩; have hgR : R ≠ g := (by intro e; subst e; rcases hat with h | h; exact hsep _ hSR h; have := hS _ hSR; omega); have h0' : w1.cell? ⟨R, 0, none⟩ = some (.slice Ad 8 cd) := (hbel.cell (p := ⟨R, 0, none⟩) (hS _ hSR)).trans h0; have h1' : w1.cell? ⟨R, 1, none⟩ = some (.int .i8 kind) := (hbel.cell (p := ⟨R, 1, none⟩) (hS _ hSR)).trans h1; have hr' := hr.keep (stays_below (Stays.refl _ _) hbel hS); obtain ⟨y0, hy0⟩ := hrow.cell (n := n) (by omega); obtain ⟨y1, hy1⟩ := hrow.cell (n := n + 1) (by omega); have hf0 := hrow.frozen n; have hf1 := hrow.frozen (n + 1); have hgR' : ¬ g = R := fun e => hgR e.symm; have hSg : ¬ S g := (fun hb => by rcases hat with h | h; exact hsep _ hb h; have := hS _ hb; omega); have HX := hide hxl; have HA := hide hat; clear hxl hat; unfold maxLen at hcm; have hcut := cutA_at g c' (n + 2) (by omega))
    | (go_at_call 62; refine (extType_any R kind _ ?x1).mono ?_; (case x1 => first | go_simp | simp [hgR, hgR', h1']); rintro e w2 ⟨rfl, rfl⟩))
  generalize hw3 : World.setCell (World.setCell w1 _ _) _ _ = w3
  have hrow3 : Row w3 5 g c' (xs ++ [u8 215, u8 (UInt8.ofNat (kind + 256).toNat)]) := by
    rw [← hw3]
    refine Row.cast ?_ ((hrow.push (n := n) (unhide HX) (by omega) _).push (n := n + 1) (by simp [unhide HX]) (by omega) _)
    simp [u8]
    omega
  have hg3 : w1.grownBy w3 (some g) := by rw [← hw3]; exact grown_setCell (grown_setCell (World.grownBy.refl _ _) _ _) _ _
  have h03 : w3.cell? ⟨R, 0, none⟩ = some (.slice Ad 8 cd) := hg3.cell h0' (by simp [hgR])
  have hr3 : RB w3 S Ad ds := by rw [← hw3]; exact hr'.keep (stays_setCell hSg (stays_setCell hSg (Stays.refl _ _) _) _)
  clear hw3 hrow
  have hM : ∀ cc, Calls Try.prog 64 #[.pointer (some ⟨R, 0, none⟩), .slice (some ⟨g, n + 2, none⟩) 8 cc] w3.drew fun e w' => e = .returned .nilIface ∧ Row w' 5 g c' ((xs ++ [u8 215, u8 (UInt8.ofNat (kind + 256).toNat)]) ++ ds.map u8) ∧ w3.drew.grownBy w' (some g) ∧ w'.heap.size = w3.drew.heap.size :=
    fun cc => marshal_any S R g (n + 2) c' 8 cd cc Ad ds _ w3.drew h03 hl.symm (by omega) (hr3.keep fun _ _ => rfl) (hrow3.keep rfl) (by simp [unhide HX]) (by omega)
  have HM := hide hM
  clear hM
  have hp2 : (0 : Int) ≤ (n : Int) + 2 := by omega
  have hq2 : (n : Int) + 2 ≤ (n : Int) + 10 := by omega
  have hw2 : IntKind.i64.wrap ((n : Int) + 2) = (n : Int) + 2 := by simp [IntKind.wrap, IntKind.bits, IntKind.signed]; omega
  have ht2 : ((n : Int) + 2).toNat = n + 2 := by omega
  have hd2 : n + 10 - (n + 2) = 8 := by omega
  go_region_held3 (fun _ => True) (trivial) ((go_at_call 64; go_loud (refine (unhide HM _).mono ?_; rintro e w4 ⟨rfl, hrow4, hg4, hz4⟩)))
  all_goals
    have hg5 : w3.grownBy w4 (some g) := ⟨hg4.os, hg4.tape, hg4.output, hg4.size, hg4.block⟩
    go_wp2
    go_ret2
    exact ⟨_, rfl, append_done (unhide HX) hbel (unhide HA) hBg (by unfold maxLen; omega) (Row.cast (by simp) hrow4) (hg3.trans hg5) (by simp [hl])⟩
set_option maxRecDepth 100000 in
set_option maxHeartbeats 800000 in
theorem AppendExtension_16 (S : Nat → Prop) (R cd : Nat) (kind : Int) (hk0 : -128 ≤ kind) (hk1 : kind ≤ 127) (Ad : Option Addr) (ds : List UInt8) (B : Nat) (A : Option Addr) (n cap : Nat) (xs : List Value) (w : World) (hl : ds.length = 16) (h0 : w.cell? ⟨R, 0, none⟩ = some (.slice Ad 16 cd)) (h1 : w.cell? ⟨R, 1, none⟩ = some (.int .i8 kind)) (hSR : S R) (hr : RB w S Ad ds) (hS : Old w S) (hsep : ∀ b, S b → (Value.slice A n cap).ownBlock ≠ some b)
    (hown : w.ownsRow B 5 1 (.slice A n cap) n xs) (hone : ∀ u ∈ xs, u.oneCell' = true) (hB : B ≤ w.heap.size) (hlen : n ≤ 1099511627776) :
    Calls Try.prog 21 #[.slice A n cap, .iface 53 (.pointer (some ⟨R, 0, none⟩))] w fun e w' => ∃ v, e = .returned (.tuple #[v, .nilIface]) ∧ Appd B n xs w (.slice A n cap) (216 :: UInt8.ofNat (kind + 256).toNat :: ds) (.returned v) w' := by
  have hm1 := mLen R
  have hm2 := mType R
  have hm3 := mBin R
  have hm4 := mNil R
  go_enter Try.func21, Try.ntmps21
  go_wp2_with (first
    | (go_at_call 63; refine (extLen_any R 16 cd Ad _ h0).mono ?_; rintro e w1 ⟨rfl, rfl⟩)
    | (go_at_call 24; refine (ensure_any B A n cap 18 _ xs _ (by simp) (by omega) hown hone hB (by omega)).mono ?_; rintro e w1 ⟨g, c', rfl, hgc, hcm, hBg, hxl, hrow, hbel, hat⟩; have hgR : R ≠ g := (by intro e; subst e; rcases hat with h | h; exact hsep _ hSR h; have := hS _ hSR; omega); have h0' : w1.cell? ⟨R, 0, none⟩ = some (.slice Ad 16 cd) := (hbel.cell (p := ⟨R, 0, none⟩) (hS _ hSR)).trans h0; have h1' : w1.cell? ⟨R, 1, none⟩ = some (.int .i8 kind) := (hbel.cell (p := ⟨R, 1, none⟩) (hS _ hSR)).trans h1; have hr' := hr.keep (stays_below (Stays.refl _ _) hbel hS); obtain ⟨y0, hy0⟩ := hrow.cell (n := n) (by omega); obtain ⟨y1, hy1⟩ := hrow.cell (n := n + 1) (by omega); have hf0 := hrow.frozen n; have hf1 := hrow.frozen (n + 1); have hgR' : ¬ g = R := fun e => hgR e.symm; have hSg : ¬ S g := (fun hb => by rcases hat with h | h; exact hsep _ hb h; have := hS _ hb; omega); have HX := hide hxl; have HA := hide hat; clear hxl hat; unfold maxLen at hcm; have hcut := cutA_at g c' (n + 2) (by omega))
    | (go_at_call 62; refine (extType_any R kind _ ?x1).mono ?_; (case x1 => first | go_simp | simp [hgR, hgR', h1']); rintro e w2 ⟨rfl, rfl⟩))
  generalize hw3 : World.setCell (World.setCell w1 _ _) _ _ = w3
  have hrow3 : Row w3 5 g c' (xs ++ [u8 216, u8 (UInt8.ofNat (kind + 256).toNat)]) := by
    rw [← hw3]
    refine Row.cast ?_ ((hrow.push (n := n) (unhide HX) (by omega) _).push (n := n + 1) (by simp [unhide HX]) (by omega) _)
    simp [u8]
    omega
  have hg3 : w1.grownBy w3 (some g) := by rw [← hw3]; exact grown_setCell (grown_setCell (World.grownBy.refl _ _) _ _) _ _
  have h03 : w3.cell? ⟨R, 0, none⟩ = some (.slice Ad 16 cd) := hg3.cell h0' (by simp [hgR])
  have hr3 : RB w3 S Ad ds := by rw [← hw3]; exact hr'.keep (stays_setCell hSg (stays_setCell hSg (Stays.refl _ _) _) _)
  clear hw3 hrow
  have hM : ∀ cc, Calls Try.prog 64 #[.pointer (some ⟨R, 0, none⟩), .slice (some ⟨g, n + 2, none⟩) 16 cc] w3.drew fun e w' => e = .returned .nilIface ∧ Row w' 5 g c' ((xs ++ [u8 216, u8 (UInt8.ofNat (kind + 256).toNat)]) ++ ds.map u8) ∧ w3.drew.grownBy w' (some g) ∧ w'.heap.size = w3.drew.heap.size :=
    fun cc => marshal_any S R g (n + 2) c' 16 cd cc Ad ds _ w3.drew h03 hl.symm (by omega) (hr3.keep fun _ _ => rfl) (hrow3.keep rfl) (by simp [unhide HX]) (by omega)
  have HM := hide hM
  clear hM
  have hp2 : (0 : Int) ≤ (n : Int) + 2 := by omega
  have hq2 : (n : Int) + 2 ≤ (n : Int) + 18 := by omega
  have hw2 : IntKind.i64.wrap ((n : Int) + 2) = (n : Int) + 2 := by simp [IntKind.wrap, IntKind.bits, IntKind.signed]; omega
  have ht2 : ((n : Int) + 2).toNat = n + 2 := by omega
  have hd2 : n + 18 - (n + 2) = 16 := by omega
  go_region_held3 (fun _ => True) (trivial) ((go_at_call 64; go_loud (refine (unhide HM _).mono ?_; rintro e w4 ⟨rfl, hrow4, hg4, hz4⟩)))
  all_goals
    have hg5 : w3.grownBy w4 (some g) := ⟨hg4.os, hg4.tape, hg4.output, hg4.size, hg4.block⟩
    go_wp2
    go_ret2
    exact ⟨_, rfl, append_done (unhide HX) hbel (unhide HA) hBg (by unfold maxLen; omega) (Row.cast (by simp) hrow4) (hg3.trans hg5) (by simp [hl])⟩
set_option maxRecDepth 100000 in
set_option maxHeartbeats 1600000 in
theorem AppendExtension_mid (S : Nat → Prop) (R cd l : Nat) (kind : Int) (hk0 : -128 ≤ kind) (hk1 : kind ≤ 127) (Ad : Option Addr) (ds : List UInt8) (B : Nat) (A : Option Addr) (n cap : Nat) (xs : List Value) (w : World) (hl : ds.length = l) (hpos : 0 < l) (h255 : l < 255) (t1 : ¬ l = 1) (t2 : ¬ l = 2) (t4 : ¬ l = 4) (t8 : ¬ l = 8) (t16 : ¬ l = 16) (h0 : w.cell? ⟨R, 0, none⟩ = some (.slice Ad l cd)) (h1 : w.cell? ⟨R, 1, none⟩ = some (.int .i8 kind)) (hSR : S R) (hr : RB w S Ad ds) (hS : Old w S) (hsep : ∀ b, S b → (Value.slice A n cap).ownBlock ≠ some b)
    (hown : w.ownsRow B 5 1 (.slice A n cap) n xs) (hone : ∀ u ∈ xs, u.oneCell' = true) (hB : B ≤ w.heap.size) (hlen : n ≤ 1099511627776) :
    Calls Try.prog 21 #[.slice A n cap, .iface 53 (.pointer (some ⟨R, 0, none⟩))] w fun e w' => ∃ v, e = .returned (.tuple #[v, .nilIface]) ∧ Appd B n xs w (.slice A n cap) (199 :: UInt8.ofNat l :: UInt8.ofNat (kind + 256).toNat :: ds) (.returned v) w' := by
  have hm1 := mLen R
  have hm2 := mType R
  have hm3 := mBin R
  have hm4 := mNil R
  go_enter Try.func21, Try.ntmps21
  go_wp2_with (first
    | (go_at_call 63; refine (extLen_any R l cd Ad _ h0).mono ?_; rintro e w1 ⟨rfl, rfl⟩)
    | (go_at_call 24; refine (ensure_any B A n cap (l + 3) _ xs _ (by first | omega | simp) (by omega) hown hone hB (by omega)).mono ?_; rintro e w1 ⟨g, c', rfl, hgc, hcm, hBg, hxl, hrow, hbel, hat⟩; obtain ⟨m, hm⟩ : ∃ m, n + (l + 3) = m := ⟨_, rfl⟩; rw [hm]; have hm3 : (n : Int) + 3 ≤ (m : Int) := (by omega); have hgR : R ≠ g := (by intro e; subst e; rcases hat with h | h; exact hsep _ hSR h; have := hS _ hSR; omega); have h0' : w1.cell? ⟨R, 0, none⟩ = some (.slice Ad l cd) := (hbel.cell (p := ⟨R, 0, none⟩) (hS _ hSR)).trans h0; have h1' : w1.cell? ⟨R, 1, none⟩ = some (.int .i8 kind) := (hbel.cell (p := ⟨R, 1, none⟩) (hS _ hSR)).trans h1; have hr' := hr.keep (stays_below (Stays.refl _ _) hbel hS); obtain ⟨y0, hy0⟩ := hrow.cell (n := n) (by omega); obtain ⟨y1, hy1⟩ := hrow.cell (n := n + 1) (by omega); obtain ⟨y2, hy2⟩ := hrow.cell (n := n + 2) (by omega); have hf0 := hrow.frozen n; have hf1 := hrow.frozen (n + 1); have hf2 := hrow.frozen (n + 2); have hgR' : ¬ g = R := fun e => hgR e.symm; have hSg : ¬ S g := (fun hb => by rcases hat with h | h; exact hsep _ hb h; have := hS _ hb; omega); have HX := hide hxl; have HA := hide hat; clear hxl hat; unfold maxLen at hcm; have hcut := cutA_at g c' (n + 3) (by omega))
    | (go_at_call 62; refine (extType_any R kind _ ?x1).mono ?_; (case x1 => first | go_simp | simp [hgR, hgR', h1']); rintro e w2 ⟨rfl, rfl⟩))
  generalize hw3 : World.setCell (World.setCell (World.setCell w1 _ _) _ _) _ _ = w3
  have hrow3 : Row w3 5 g c' (xs ++ [u8 199, u8 (UInt8.ofNat l), u8 (UInt8.ofNat (kind + 256).toNat)]) := by
    rw [← hw3]
    refine Row.cast ?_ (((hrow.push (n := n) (unhide HX) (by omega) _).push (n := n + 1) (by simp [unhide HX]) (by omega) _).push (n := n + 2) (by simp [unhide HX]) (by omega) _)
    simp [u8]
    omega
  have hg3 : w1.grownBy w3 (some g) := by rw [← hw3]; exact grown_setCell (grown_setCell (grown_setCell (World.grownBy.refl _ _) _ _) _ _) _ _
  have h03 : w3.cell? ⟨R, 0, none⟩ = some (.slice Ad l cd) := hg3.cell h0' (by simp [hgR])
  have hr3 : RB w3 S Ad ds := by rw [← hw3]; exact hr'.keep (stays_setCell hSg (stays_setCell hSg (stays_setCell hSg (Stays.refl _ _) _) _) _)
  clear hw3 hrow
  have hM : ∀ cc, Calls Try.prog 64 #[.pointer (some ⟨R, 0, none⟩), .slice (some ⟨g, n + 3, none⟩) l cc] w3.drew fun e w' => e = .returned .nilIface ∧ Row w' 5 g c' ((xs ++ [u8 199, u8 (UInt8.ofNat l), u8 (UInt8.ofNat (kind + 256).toNat)]) ++ ds.map u8) ∧ w3.drew.grownBy w' (some g) ∧ w'.heap.size = w3.drew.heap.size :=
    fun cc => marshal_any S R g (n + 3) c' l cd cc Ad ds _ w3.drew h03 hl.symm hpos (hr3.keep fun _ _ => rfl) (hrow3.keep rfl) (by simp [unhide HX]) (by omega)
  have HM := hide hM
  clear hM
  have hp3 : (0 : Int) ≤ (n : Int) + 3 := by omega
  have ht3 : ((n : Int) + 3).toNat = n + 3 := by omega
  have hd3 : m - (n + 3) = l := by omega
  have hw3' : IntKind.i64.wrap ((n : Int) + 3) = (n : Int) + 3 := by simp [IntKind.wrap, IntKind.bits, IntKind.signed]; omega
  go_region_held3 (fun _ => True) (trivial) ((go_at_call 64; go_loud (refine (unhide HM _).mono ?_; rintro e w4 ⟨rfl, hrow4, hg4, hz4⟩)))
  all_goals
    subst hm
    have hg5 : w3.grownBy w4 (some g) := ⟨hg4.os, hg4.tape, hg4.output, hg4.size, hg4.block⟩
    go_wp2
    go_ret2
    exact ⟨_, rfl, append_done (unhide HX) hbel (unhide HA) hBg (by unfold maxLen; omega) (Row.cast (by simp) hrow4) (hg3.trans hg5) (by simp [hl])⟩
end Go.Proofs.Ytloaaffkjhkpaaa
