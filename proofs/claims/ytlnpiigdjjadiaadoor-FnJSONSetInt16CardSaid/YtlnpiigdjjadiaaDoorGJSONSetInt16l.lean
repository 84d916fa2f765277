/-
  spec's reader of JSON: blanks, signs, words. Conditions: the text is at most 2^40 bytes.
-/
import Derived.Test.YtlnpiigdjjadiaaDoorGJSONSetInt16a
import Derived.Test.YtlnpiigdjjadiaaDoorProg
import Derived.BigRegion
import Derived.BigQuiet
import Derived.BigGuardPart
import Derived.Deep.QuietTactic
import Derived.Deep.RegionHeld3
namespace Go.Proofs.YtlnpiigdjjadiaaDoor
set_option linter.unusedSimpArgs false
set_option linter.unusedVariables false
set_option linter.unusedVariables false
open Go.RowKit
/-- A reader of S that stands at p. -/
def JT (w : World) (g : Nat) (S : ByteArray) (p : Nat) : Prop := Blk w g 81 #[.string S, .int .i64 (p : Int), .bool false]
theorem JT.cells {w : World} {g p : Nat} {S : ByteArray} (h : JT w g S p) :
    (w.cell? ⟨g, 0, none⟩ = some (.string S) ∧ w.cell? ⟨g, 1, none⟩ = some (.int .i64 (p : Int)) ∧ w.cell? ⟨g, 2, none⟩ = some (.bool false)) ∧ (w.frozen? ⟨g, 0, none⟩ = false ∧ w.frozen? ⟨g, 1, none⟩ = false ∧ w.frozen? ⟨g, 2, none⟩ = false) :=
  ⟨⟨Blk.cell h 0, Blk.cell h 1, Blk.cell h 2⟩, Blk.frozen h 0, Blk.frozen h 1, Blk.frozen h 2⟩
/-- Bytes that no blank is. -/
def NoBlank (c : UInt8) : Prop := (c.toNat : Int) ≠ 32 ∧ (c.toNat : Int) ≠ 10 ∧ (c.toNat : Int) ≠ 13 ∧ (c.toNat : Int) ≠ 9
theorem JT.drewN {w : World} {g p : Nat} {S : ByteArray} (h : JT w g S p) (q : Nat) : JT (w.drewN q) g S p := Blk.drewN h q
theorem JT.step {w : World} {g p : Nat} {S : ByteArray} (h : JT w g S p) (r : Nat) (v : Value) (hv : v = .int .i64 (r : Int)) : JT (w.setCell ⟨g, 1, none⟩ v) g S r := by
  subst hv
  have := Blk.set_ h 1 (.int .i64 (r : Int))
  simpa [JT] using this
theorem grownSetJ (w : World) (p : Addr) (v : Value) : w.grownBy (w.setCell p v) (some p.block) :=
  ⟨rfl, rfl, rfl, by simp [World.setCell], fun k _ hne => Below.heap_setCell w p v k (fun e => hne (by rw [e]))⟩
theorem grownDrewJ (w : World) (q : Nat) (row : Option Nat) : w.grownBy (w.drewN q) row := ⟨rfl, rfl, rfl, by simp, fun _ _ _ => rfl⟩
/-- The reader stands at r now; of what was there its own block alone has turned. -/
def JOn (S : ByteArray) (g r : Nat) (w w' : World) : Prop := JT w' g S r ∧ w.grownBy w' (some g)
theorem JOn.quiet {S : ByteArray} {g p : Nat} {w w' : World} (h : JT w g S p) (hq : Quiet w w') : JOn S g p w w' := by
  obtain ⟨q, rfl⟩ := hq
  exact ⟨h.drewN q, grownDrewJ w q _⟩
theorem JOn.trans {S : ByteArray} {g p r : Nat} {a b c : World} (h : JOn S g p a b) (k : JOn S g r b c) : JOn S g r a c := ⟨k.1, grown_trans' h.2 k.2 (fun _ h => .inl h)⟩
theorem JOn.step {S : ByteArray} {g p : Nat} {a b : World} (h : JOn S g p a b) (q r : Nat) (v : Value) (hv : v = .int .i64 (r : Int)) : JOn S g r a ((b.drewN q).setCell ⟨g, 1, none⟩ v) :=
  ⟨(h.1.drewN q).step r v hv, grown_trans' (grown_trans' h.2 (grownDrewJ b q (some g)) (fun _ h => .inl h)) (grownSetJ _ _ _) (fun _ h => .inl h)⟩
set_option maxRecDepth 100000 in
set_option maxHeartbeats 1600000 in
theorem blank_no (S : ByteArray) (g p : Nat) (w : World) (hS : S.size ≤ 1099511627776) (hJ : JT w g S p) (hp : p < S.size) (hc : NoBlank S[p]) :
    Calls Tryd.prog 36 #[.pointer (some ⟨g, 0, none⟩)] w fun e w' => e = .returned (.tuple #[]) ∧ Quiet w w' := by
  obtain ⟨n1, n2, n3, n4⟩ := hc
  obtain ⟨⟨c0, c1, c2⟩, f0, f1, f2⟩ := hJ.cells
  have hp1 : (p : Int) < (S.size : Int) := by omega
  have hp0 : (0 : Int) ≤ (p : Int) := by omega
  have b1 : ((S[p].toNat : Int) == 32) = false := by simpa using n1
  have b2 : ((S[p].toNat : Int) == 10) = false := by simpa using n2
  have b3 : ((S[p].toNat : Int) == 13) = false := by simpa using n3
  have b4 : ((S[p].toNat : Int) == 9) = false := by simpa using n4
  go_enter Tryd.func36, Tryd.ntmps36
  go_wp2_with fail
  go_loopw [] (fun wr => Quiet w wr) (fun _ => 0)
  case atStart => exact Quiet.refl _
  case round =>
    obtain ⟨q, rfl⟩ := hrel
    go_wp2_with fail
    go_quiet (fail)
    go_wp2
    go_end0
    exact ⟨rfl, (Quiet.drewN w q).trans (Quiet.drewN _ _)⟩
set_option maxRecDepth 100000 in
set_option maxHeartbeats 1600000 in
theorem blank_end (S : ByteArray) (g p : Nat) (w : World) (hS : S.size ≤ 1099511627776) (hJ : JT w g S p) (hp : p = S.size) :
    Calls Tryd.prog 36 #[.pointer (some ⟨g, 0, none⟩)] w fun e w' => e = .returned (.tuple #[]) ∧ Quiet w w' := by
  obtain ⟨⟨c0, c1, c2⟩, f0, f1, f2⟩ := hJ.cells
  have hp1 : ¬ (p : Int) < (S.size : Int) := by omega
  have d1 : decide ((p : Int) < (S.size : Int)) = false := by simp; omega
  have d2 : decide (p < S.size) = false := by simp; omega
  have hp0 : (0 : Int) ≤ (p : Int) := by omega
  clear hp
  go_enter Tryd.func36, Tryd.ntmps36
  go_wp2_with fail
  go_loopw [] (fun wr => Quiet w wr) (fun _ => 0)
  case atStart => exact Quiet.refl _
  case round =>
    obtain ⟨q, rfl⟩ := hrel
    go_wp2_with fail
    go_quiet (fail)
    go_wp2
    go_end0
    exact ⟨rfl, (Quiet.drewN w q).trans (Quiet.drewN _ _)⟩
set_option maxRecDepth 100000 in
set_option maxHeartbeats 1600000 in
theorem eat_yes (S : ByteArray) (g p : Nat) (c : UInt8) (w : World) (hS : S.size ≤ 1099511627776) (hJ : JT w g S p) (hp : p < S.size) (hc : S[p] = c) (hcb : NoBlank c) :
    Calls Tryd.prog 75 #[.pointer (some ⟨g, 0, none⟩), .int .u8 (c.toNat : Int)] w fun e w' => e = .returned (.bool true) ∧ JOn S g (p + 1) w w' := by
  have HB := hide (blank_no S g p w hS hJ hp (hc ▸ hcb))
  have hp1 : (p : Int) < (S.size : Int) := by omega
  have hp0 : (0 : Int) ≤ (p : Int) := by omega
  have hcc : ((S[p].toNat : Int) == (c.toNat : Int)) = true := by rw [hc]; simp
  clear hc hcb
  go_enter Tryd.func75, Tryd.ntmps75
  go_wp2_with (go_at_call 36; go_loud (refine (unhide HB).mono ?_; rintro e w1 ⟨rfl, ⟨q1, rfl⟩⟩))
  obtain ⟨⟨c0, c1, c2⟩, f0, f1, f2⟩ := hJ.cells
  have d1 : decide ((p : Int) < (S.size : Int)) = true := by simp; omega
  go_quiet (fail)
  go_wp2
  go_ret
  exact ⟨rfl, JOn.step (JOn.quiet hJ (Quiet.refl w)) _ (p + 1) _ (by first | rfl | simp)⟩
set_option maxRecDepth 100000 in
set_option maxHeartbeats 1600000 in
theorem eat_no (S : ByteArray) (g p : Nat) (c : UInt8) (w : World) (hS : S.size ≤ 1099511627776) (hJ : JT w g S p) (hp : p < S.size) (hc : S[p] ≠ c) (hcb : NoBlank S[p]) :
    Calls Tryd.prog 75 #[.pointer (some ⟨g, 0, none⟩), .int .u8 (c.toNat : Int)] w fun e w' => e = .returned (.bool false) ∧ Quiet w w' := by
  have HB := hide (blank_no S g p w hS hJ hp hcb)
  have hp1 : (p : Int) < (S.size : Int) := by omega
  have hp0 : (0 : Int) ≤ (p : Int) := by omega
  have hne : S[p].toNat ≠ c.toNat := fun h => hc (UInt8.toNat_inj.1 h)
  have hcc : ((S[p].toNat : Int) == (c.toNat : Int)) = false := by simp; omega
  obtain ⟨⟨c0, c1, c2⟩, f0, f1, f2⟩ := hJ.cells
  have d1 : decide ((p : Int) < (S.size : Int)) = true := by simp; omega
  clear hc hcb hne
  go_enter Tryd.func75, Tryd.ntmps75
  go_wp2_with (go_at_call 36; go_loud (refine (unhide HB).mono ?_; rintro e w1 ⟨rfl, ⟨q1, rfl⟩⟩))
  go_quiet (fail)
  go_wp2
  go_ret
  exact ⟨rfl, (Quiet.drewN w q1).trans (Quiet.drewN _ _)⟩
end Go.Proofs.YtlnpiigdjjadiaaDoor
