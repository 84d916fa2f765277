/-
  spec.takeConstructor computes its plain function, over a contract of spec.TakeValue. Conditions: the data read as bytes, at most 2^40.
-/
import Derived.Test.YtkokeohlbmccpaaGreatDoorTake1
import Derived.BigRegion
import Derived.StillTailTactics
namespace Go.Proofs.YtkokeohlbmccpaaGreatDoor
set_option linter.unusedSimpArgs false
set_option linter.unusedVariables false
open Go.RowKit
/-- Blocks that are new in w'. -/
def Made (w w' : World) : Nat → Prop := fun b => w.heap.size ≤ b ∧ b < w'.heap.size
/-- A struct impl.Value by value. -/
abbrev avV (kind : Int) (num : Nat) (text : List UInt8) (K : Option Addr) (kn kc : Nat) (of : Int) (D : Option Addr) (dn dc : Nat) : Value := .agg #[.int .i64 kind, .int .u64 num, .string ⟨text.toArray⟩, .slice K kn kc, .int .i64 of, .slice D dn dc]
def TookVR (Q S : Nat → Prop) (w w' : World) (r : VRes) (cs : List Value) (A : Option Addr) (n cap : Nat) (b : Bool) : Prop :=
  match r with
  | none => b = false
  | some (v, bs) => b = true ∧ n = bs.length ∧ RB w' S A bs ∧ bs.length ≤ cap ∧ cap ≤ maxLen ∧ AVC w' (fun x => Q x ∨ Made w w' x) v cs
/-- What a reader of a value answers. -/
def TookV (Q S : Nat → Prop) (w : World) (r : VRes) (e : Ending) (w' : World) : Prop :=
  ∃ kind num text K kn kc of D dn dc A n cap b, e = .returned (.tuple #[avV kind num text K kn kc of D dn dc, .slice A n cap, .bool b]) ∧ Below w.heap.size w w' ∧
    TookVR Q S w w' r [.int .i64 kind, .int .u64 num, .string ⟨text.toArray⟩, .slice K kn kc, .int .i64 of, .slice D dn dc] A n cap b
def TookCR (S : Nat → Prop) (w w' : World) (r : CRes) (D : Option Addr) (dn dc : Nat) (code : Int) (A : Option Addr) (n cap : Nat) (b : Bool) : Prop :=
  match r with
  | none => b = false
  | some (desc, c, bs) => b = true ∧ code = c ∧ c < 256 ∧ dn = desc.length ∧ desc.length ≤ dc ∧ dc ≤ maxLen ∧ (∃ ys, Reads w' (Made w w') 6 D desc.length ys ∧ AVsC w' (Made w w') desc ys) ∧ n = bs.length ∧ RB w' S A bs ∧ bs.length ≤ cap ∧ cap ≤ maxLen
/-- What spec.takeConstructor answers. -/
def TookC (S : Nat → Prop) (w : World) (r : CRes) (e : Ending) (w' : World) : Prop :=
  ∃ D dn dc code A n cap b, e = .returned (.tuple #[.agg #[.slice D dn dc, .int .i64 code], .slice A n cap, .bool b]) ∧ Below w.heap.size w w' ∧ TookCR S w w' r D dn dc code A n cap b
theorem tookC_none {S : Nat → Prop} {w w' : World} {D : Option Addr} {dn dc : Nat} {code : Int} {A : Option Addr} {n cap : Nat} (h : Below w.heap.size w w') : TookC S w none (.returned (.tuple #[.agg #[.slice D dn dc, .int .i64 code], .slice A n cap, .bool false])) w' :=
  ⟨_, _, _, _, _, _, _, _, rfl, h, rfl⟩
theorem tookV_none {Q S : Nat → Prop} {w w' : World} {kind : Int} {num : Nat} {text : List UInt8} {K : Option Addr} {kn kc : Nat} {of : Int} {D : Option Addr} {dn dc : Nat} {A : Option Addr} {n cap : Nat} (h : Below w.heap.size w w') :
    TookV Q S w none (.returned (.tuple #[avV kind num text K kn kc of D dn dc, .slice A n cap, .bool false])) w' :=
  ⟨_, _, _, _, _, _, _, _, _, _, _, _, _, _, rfl, h, rfl⟩
def NoQ : Nat → Prop := fun _ => False
def TakesVal (lv : Nat) : Prop := ∀ (lv' : Int) (S : Nat → Prop) (A : Option Addr) (bs : List UInt8) (m cap : Nat) (w : World), lv' = lv → m = bs.length → RB w S A bs → bs.length ≤ cap → cap ≤ 9223372036854775807 → bs.length ≤ 1099511627776 → Old w S → ∀ r, (lvl lv).val bs = some r →
  Calls Tryz.prog 15 #[.slice A m cap, .int .i64 lv'] w (TookV NoQ S w r)
def TakesCons (lv : Nat) : Prop := ∀ (lv' : Int) (S : Nat → Prop) (A : Option Addr) (bs : List UInt8) (m cap : Nat) (w : World), lv' = lv → m = bs.length → RB w S A bs → bs.length ≤ cap → cap ≤ 9223372036854775807 → bs.length ≤ 1099511627776 → Old w S → ∀ r, (lvl lv).cons bs = some r →
  Calls Tryz.prog 22 #[.slice A m cap, .int .i64 lv'] w (TookC S w r)
set_option maxHeartbeats 400000 in
/-- No data, or no level. -/
theorem cons_none (S : Nat → Prop) (A : Option Addr) (n cap : Nat) (lv : Int) (w : World) (_hn : n ≤ 9223372036854775807) (h : n = 0 ∨ lv ≤ 0) :
    Calls Tryz.prog 22 #[.slice A n cap, .int .i64 lv] w (TookC S w none) := by
  by_cases h0 : n = 0
  · subst h0
    go_enter Tryz.func22, Tryz.ntmps22
    go_wp2
    exact bodyPost_ret (v := .tuple #[.agg #[.slice none 0 0, .int .i64 0], .slice none 0 0, .bool false]) (by simp [results, Tryz.results22, go_sem]) rfl (tookC_none ((Below.refl _ _).alloc (Nat.le_refl _) _))
  · have h1 : ((n : Int) == 0) = false := by simp; omega
    have h2 : lv ≤ 0 := by omega
    go_enter Tryz.func22, Tryz.ntmps22
    go_wp2
    exact bodyPost_ret (v := .tuple #[.agg #[.slice none 0 0, .int .i64 0], .slice none 0 0, .bool false]) (by simp [results, Tryz.results22, go_sem]) rfl (tookC_none ((Below.refl _ _).alloc (Nat.le_refl _) _))
set_option maxHeartbeats 400000 in
/-- A code without a descriptor. -/
theorem cons_code (S : Nat → Prop) (A : Option Addr) (b : UInt8) (bs : List UInt8) (cap : Nat) (lv : Int) (w : World) (hlv : 0 < lv) (hr : RB w S A (b :: bs)) (hc : bs.length + 1 ≤ cap) (hcap : cap ≤ 9223372036854775807) (hS : Old w S) (hb : b ≠ 0) :
    Calls Tryz.prog 22 #[.slice A (bs.length + 1) cap, .int .i64 lv] w (TookC S w (some ([], b.toNat, bs))) := by
  obtain ⟨ad, rfl, hB, hcell⟩ := hr.at_ (k := 0) (by simp)
  simp only [u8, add_zero_, List.getElem_cons_zero] at hcell
  have hlt := hS _ hB
  have hb0 : b.toNat ≠ 0 := fun e => hb (UInt8.toNat_inj.1 e)
  have h1 : ((bs.length : Int) + 1 == 0) = false := by simp; omega
  have h2 : ((b.toNat : Int) != 0) = true := by simp; omega
  have hv := b.toNat_lt
  have HB := hide hb0
  clear hb hb0
  go_enter Tryz.func22, Tryz.ntmps22
  go_wp2
  go_region
  go_wp2
  refine bodyPost_ret (v := .tuple #[.agg #[.slice none 0 0, .int .i64 b.toNat], .slice (cutA (some ad) cap 1 1) bs.length (cap - 1), .bool true]) (by simp [results, Tryz.results22, go_sem]) rfl ?_
  have hcut := hr.cut (k := 1) (cap := cap) (by simp) (by simpa using hc)
  simp only [List.drop_succ_cons, List.drop_zero] at hcut
  exact ⟨_, _, _, _, _, _, _, _, rfl, ((Below.refl _ _).alloc (Nat.le_refl _) _).drew, rfl, rfl, hv, rfl, Nat.le_refl _, Nat.zero_le _, ⟨[], Reads.none_, by unfold AVsC; rfl⟩, rfl, hcut.keep (by go_simp), by omega, by unfold maxLen; omega⟩
theorem Blk.new' {w : World} {t : TypeId} {cs : Array Value} {g : Nat} (h : w.heap.size = g) : Blk (w.alloc (.cells cs t)) g t cs := h ▸ Blk.new _ _ _
theorem Reads.of_blk {w : World} {S : Nat → Prop} {g : Nat} {t : TypeId} {cs : Array Value} (h : Blk w g t cs) (hS : S g) (size n : Nat) (hn : cs.size = n * size) : Reads w S size (some ⟨g, 0, none⟩) n cs.toList := by
  refine ⟨by simpa using hn, fun _ => ⟨_, rfl, hS, fun j u hu => ?_⟩⟩
  have := h.cell j
  rw [Array.getElem?_toList] at hu
  rw [hu] at this
  rcases j with _ | j
  · exact this
  · simpa [Addr.add] using this
set_option maxRecDepth 100000 in
set_option maxHeartbeats 1600000 in
/-- A descriptor. -/
theorem cons_desc (lv : Nat) (hv : TakesVal lv) (S : Nat → Prop) (A : Option Addr) (bs : List UInt8) (cap : Nat) (lv' : Int) (w : World) (hlv : lv' = (lv : Int) + 1) (hr : RB w S A (0 :: bs)) (hc : bs.length + 1 ≤ cap) (hcap : cap ≤ 9223372036854775807) (h40 : bs.length ≤ 1099511627776) (hS : Old w S) (hlvb : lv ≤ 1000) (res : CRes) (hres0 : consW (lvl lv).val (0 :: bs) = some res) :
    Calls Tryz.prog 22 #[.slice A (bs.length + 1) cap, .int .i64 lv'] w (TookC S w res) := by
  obtain ⟨ad, rfl, hB, hcell⟩ := hr.at_ (k := 0) (by simp)
  simp only [u8, add_zero_, List.getElem_cons_zero] at hcell
  have hlt := hS _ hB
  have h1 : ((bs.length : Int) + 1 == 0) = false := by simp; omega
  have hcut := hr.cut (k := 1) (cap := cap) (by simp) (by simpa using hc)
  simp only [List.drop_succ_cons, List.drop_zero] at hcut
  have hpos : 0 < lv' := by omega
  have hlo : lv' ≤ 1001 := by omega
  have HLV := hide hlv
  clear hlv
  obtain ⟨T, hT⟩ : ∃ T, T = TookC S w res := ⟨_, rfl⟩
  rw [← hT]
  have HT := hide hT
  clear hT
  go_enter Tryz.func22, Tryz.ntmps22
  go_wp2_with fail
  have hst : Stays S w (w.alloc (Obj.cells #[.slice none 0 0, .int .i64 0] 65)) := stays_alloc hS (Stays.refl _ _) _
  rcases hq0 : (lvl lv).val bs with _ | q0
  · simp [consW, hq0] at hres0
  refine (hv _ S _ bs bs.length (cap - 1) _ (by have := unhide HLV; omega) rfl (hcut.keep hst) (by omega) (by omega) h40 (old_alloc hS _) q0 hq0).mono ?_
  rintro e w1 ⟨kind, num, text, K, kn, kc, of, D, dn, dc, A1, n1, cap1, b1, rfl, hb1, hres⟩
  have hw1 : Below w.heap.size w w1 := ((Below.refl _ _).alloc (Nat.le_refl _) _).trans (hb1.mono (by simp))
  have hB0 : Blk w1 w.heap.size 65 #[.slice none 0 0, .int .i64 0] := (Blk.new w 65 _).below hb1 (by simp)
  have hz1 : w.heap.size < w1.heap.size := by have := hb1.size; simp at this; omega
  have c0 := hB0.cell 0
  have c1 := hB0.cell 1
  have f0 := hB0.frozen 0
  have f1 := hB0.frozen 1
  simp only [List.getElem?_toArray, List.getElem?_cons_zero, List.getElem?_cons_succ] at c0 c1
  have HB0 := hide hB0
  have HB1 := hide hb1
  have HW1 := hide hw1
  clear hB0 hb1 hw1 hcell
  have hz2 : ¬ w1.heap.size = w.heap.size := by omega
  rcases q0 with _ | ⟨d, r⟩
  · have hcw : res = none := by simpa [consW, hq0] using hres0.symm
    rw [hcw] at HT
    clear hcw hq0 hres0
    simp only [TookVR] at hres
    subst hres
    go_wp2
    rw [unhide HT]
    refine bodyPost_ret (v := .tuple #[.agg #[.slice none 0 0, .int .i64 0], .slice none 0 0, .bool false]) (by simp [results, Tryz.results22, go_sem, c0, c1, hz1, hz2]) rfl (tookC_none ?_)
    have hw1 := unhide HW1
    exact (by repeat (first | with_reducible exact Below.refl _ _ | with_reducible exact hw1 | with_reducible refine Below.alloc ?_ (by first | omega | (simp; omega) | (simp; done)) _ | with_reducible refine Below.setCell ?_ (by first | omega | (simp; omega) | (simp; done)) _ | with_reducible refine Below.drew ?_ | with_reducible refine below_drewN ?_ _))
  simp only [TookVR] at hres
  obtain ⟨rfl, rfl, hr1, hrc1, hrm1, hav⟩ := hres
  rcases r with _ | ⟨c, r⟩
  · have hcw : res = none := by simpa [consW, hq0] using hres0.symm
    rw [hcw] at HT
    clear hcw hq0 hres0 hr1 hav
    simp only [List.length_nil]
    go_wp2
    rw [unhide HT]
    refine bodyPost_ret (v := .tuple #[.agg #[.slice none 0 0, .int .i64 0], .slice none 0 0, .bool false]) (by simp [results, Tryz.results22, go_sem, c0, c1, hz1, hz2]) rfl (tookC_none ?_)
    have hw1 := unhide HW1
    exact (by repeat (first | with_reducible exact Below.refl _ _ | with_reducible exact hw1 | with_reducible refine Below.alloc ?_ (by first | omega | (simp; omega) | (simp; done)) _ | with_reducible refine Below.setCell ?_ (by first | omega | (simp; omega) | (simp; done)) _ | with_reducible refine Below.drew ?_ | with_reducible refine below_drewN ?_ _))
  obtain ⟨ad1, rfl, hB1, hcell1⟩ := hr1.at_ (k := 0) (by simp)
  simp only [u8, add_zero_, List.getElem_cons_zero] at hcell1
  have hS1 : Old w1 S := old_below (unhide HB1) (old_alloc hS _)
  have hlt1 := hS1 _ hB1
  have hlc : (((c :: r).length : Int) == 0) = false := by simp; omega
  have hv := c.toNat_lt
  have hrl : r.length + 1 ≤ cap1 := by simpa using hrc1
  simp only [List.length_cons] at hlc ⊢
  by_cases hc0 : c = 0
  · have hcw : res = none := by simpa [consW, hq0, hc0] using hres0.symm
    rw [hcw] at HT
    have hc1 : ((c.toNat : Int) == 0) = true := by simp [hc0]
    clear hcw hq0 hres0 hr1 hav hc0
    go_wp2
    rw [unhide HT]
    refine bodyPost_ret (v := .tuple #[.agg #[.slice none 0 0, .int .i64 0], .slice none 0 0, .bool false]) (by simp [results, Tryz.results22, go_sem, c0, c1, hz1, hz2]) rfl (tookC_none ?_)
    have hw1 := unhide HW1
    exact (by repeat (first | with_reducible exact Below.refl _ _ | with_reducible exact hw1 | with_reducible refine Below.alloc ?_ (by first | omega | (simp; omega) | (simp; done)) _ | with_reducible refine Below.setCell ?_ (by first | omega | (simp; omega) | (simp; done)) _ | with_reducible refine Below.drew ?_ | with_reducible refine below_drewN ?_ _))
  have hcw : res = some ([d], c.toNat, r) := by simpa [consW, hq0, hc0] using hres0.symm
  rw [hcw] at HT
  have hc1 : ((c.toNat : Int) == 0) = false := by
    have : c.toNat ≠ 0 := fun e => hc0 (UInt8.toNat_inj.1 e)
    simp; omega
  have HR1 := hide hr1
  have HAV := hide hav
  clear hcw hq0 hres0 hr1 hav hc0
  go_wp2
  go_region
  go_wp2
  rw [unhide HT]
  have hw1 := unhide HW1
  have hb1 := unhide HB1
  have hav := unhide HAV
  have hoQ : Old w1 (fun x => NoQ x ∨ Made (w.alloc (Obj.cells #[.slice none 0 0, .int .i64 0] 65)) w1 x) := fun b hb => hb.elim (fun h => h.elim) (fun h => h.2)
  have hnQ : ¬ (fun x => NoQ x ∨ Made (w.alloc (Obj.cells #[.slice none 0 0, .int .i64 0] 65)) w1 x) w.heap.size := fun h => h.elim (fun h => h.elim) (fun h => absurd h.1 (by rw [World.size_alloc]; omega))
  refine bodyPost_ret (v := .tuple #[.agg #[.slice (some ⟨w1.heap.size + 1, 0, none⟩) 1 1, .int .i64 c.toNat], .slice (cutA (some ad1) cap1 1 1) r.length (cap1 - 1), .bool true]) (by simp [results, Tryz.results22, go_sem, c0, c1, hz1, hz2]) rfl ?_
  have hcut1 := (unhide HR1).cut (k := 1) (cap := cap1) (by simp) (by simpa using hrl)
  simp only [List.drop_succ_cons, List.drop_zero] at hcut1
  refine ⟨_, _, _, _, _, _, _, _, rfl, (by repeat (first | with_reducible exact Below.refl _ _ | with_reducible exact hw1 | with_reducible refine Below.alloc ?_ (by first | omega | (simp; omega) | (simp; done)) _ | with_reducible refine Below.setCell ?_ (by first | omega | (simp; omega) | (simp; done)) _ | with_reducible refine Below.drew ?_ | with_reducible refine below_drewN ?_ _)), rfl, rfl, hv, rfl, Nat.le_refl _, by unfold maxLen; omega, ⟨_, Reads.of_blk (t := 30) (cs := #[.int .i64 kind, .int .u64 num, .string ⟨text.toArray⟩, .slice K kn kc, .int .i64 of, .slice D dn dc]) (Blk.drew (Blk.new' (by simp))) ⟨by omega, by simp⟩ 6 1 rfl, AVsC.one ?_ rfl⟩, rfl, ?_, by omega, by unfold maxLen at hrm1 ⊢; omega⟩
  · refine AVC.sub (AVC.keep hav ?_) (fun b hb => ?_)
    · (repeat (first | exact Stays.refl _ _ | rw [stays_drew] | refine stays_alloc (by go_simp) ?_ _ | refine stays_setCell (by exact hnQ) ?_ _))
    · rcases hb with hb | hb
      · exact hb.elim
      · have := hb.1
        have := hb.2
        simp at *
        exact ⟨by omega, by simp; omega⟩
  · refine hcut1.keep ?_
    have hnS : ¬ S w.heap.size := fun h => by have := hS _ h; omega
    (repeat (first | exact Stays.refl _ _ | rw [stays_drew] | refine stays_alloc (by go_simp) ?_ _ | refine stays_setCell (by exact hnS) ?_ _))
theorem takesCons_any (lv : Nat) (hlvb : lv ≤ 1000) (hv : TakesVal lv) : TakesCons (lv + 1) := by
  intro lv' S A bs m cap w hlv hm hr hc hcap h40 hS res hres
  subst hm
  rcases bs with _ | ⟨b, bs⟩
  · have : res = none := by simpa [lvl, consW] using hres.symm
    subst this
    exact cons_none S A 0 cap lv' w (by omega) (.inl rfl)
  · by_cases hb : b = 0
    · subst hb
      simp only [List.length_cons] at hc h40 ⊢
      exact cons_desc lv hv S A bs cap lv' w (by omega) hr hc hcap (by omega) hS hlvb res hres
    · have : res = some ([], b.toNat, bs) := by simpa [lvl, consW, hb] using hres.symm
      subst this
      exact cons_code S A b bs cap lv' w (by omega) hr (by simpa using hc) hcap hS hb
theorem takesCons_zero : TakesCons 0 := by
  intro lv' S A bs m cap w hlv hm hr hc hcap h40 hS res hres
  subst hm
  have : res = none := by simpa [lvl] using hres.symm
  subst this
  exact cons_none S A _ cap lv' w (by omega) (.inr (by omega))
end Go.Proofs.YtkokeohlbmccpaaGreatDoor
