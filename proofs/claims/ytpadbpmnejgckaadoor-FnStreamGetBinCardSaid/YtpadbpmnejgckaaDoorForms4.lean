/-
  Forms.putHead: which form is chosen is left open. Conditions: sizes of 1, 2, 4 or 8 bytes, one of which holds the number.
-/
import Derived.Test.YtpadbpmnejgckaaDoorForms3
namespace Go.Proofs.YtpadbpmnejgckaaDoor
set_option linter.unusedSimpArgs false
set_option linter.unusedVariables false
open Go.RowKit
def HeadOK (fixed : Int) (under n : Nat) (fs : List (Nat × Nat)) (bs : List UInt8) : Prop :=
  (0 ≤ fixed ∧ n < under ∧ bs = [UInt8.ofNat (fixed.toNat + n)]) ∨ ∃ f ∈ fs, goodF f ∧ (f.2 = 8 ∨ n < 256 ^ f.2) ∧ bs = UInt8.ofNat f.1 :: beL n f.2
/-- What a writer with Forms behind block g answers: bytes of its own that P takes. -/
def PutH (P : List UInt8 → Prop) (g : Nat) (w : World) (e : Ending) (w' : World) : Prop :=
  ∃ v bs, P bs ∧ e = .returned v ∧ w'.ownsRow w.heap.size 5 1 v bs.length (bs.map u8) ∧ w.grownBy w' (some g) ∧ FormsAt w' g
theorem mayF_mem {u : Nat} {fs : List (Nat × Nat)} {f : Nat × Nat} (h : f ∈ mayF u fs) : f ∈ fs ∧ (f.2 = 8 ∨ u < 256 ^ f.2) := by
  unfold mayF at h
  rw [List.mem_filter] at h
  exact ⟨h.1, by simpa [fitsF] using h.2⟩
theorem stays_grown {S : Nat → Prop} {w w' : World} {g : Nat} (h : w.grownBy w' (some g)) (ho : Old w S) (hg : ¬ S g) : Stays S w w' := fun b hb => h.block b (ho b hb) (fun e => hg (by injection e with e; rw [← e]; exact hb))
theorem headed_put {w w2 w3 : World} {g c s n : Nat} {v : Value} (hg2 : w.grownBy w2 (some g)) (hgl : g < w.heap.size) (hF2 : FormsAt w2 g) (hs : s = 1 ∨ s = 2 ∨ s = 4 ∨ s = 8) (hc : c < 256)
    (hown : w3.ownsRow w2.heap.size 5 1 v (1 + s) ([.int .u8 (c : Int)] ++ (beL n s).map u8)) (hbel : Below w2.heap.size w2 w3) {P : List UInt8 → Prop} (hP : P (UInt8.ofNat c :: beL n s)) : PutH P g w (.returned v) w3 := by
  refine ⟨v, _, hP, rfl, ?_, grown_trans' hg2 (only_of_below hbel none) (fun _ h => by cases h), hF2.below hbel hF2.lt⟩
  have h1 : ([.int .u8 (c : Int)] ++ (beL n s).map u8) = (UInt8.ofNat c :: beL n s).map u8 := by rw [cellc c hc]; rfl
  rw [h1] at hown
  rw [List.length_cons, beL_len n s hs, Nat.add_comm]
  obtain ⟨hl, h⟩ := hown
  refine ⟨by rw [hl], ?_⟩
  rcases h with ⟨rfl, h2⟩ | ⟨b, cap, cur, rfl, hb, r⟩
  · exact absurd h2 (by simp)
  · exact .inr ⟨b, cap, cur, rfl, Nat.le_trans hg2.size hb, r⟩
set_option maxRecDepth 100000 in
set_option maxHeartbeats 3200000 in
theorem putHead_fixed (g n under : Nat) (fixed : Int) (fs : List (Nat × Nat)) (A : Option Addr) (m c0 : Nat) (S : Nat → Prop) (w : World) (hF : FormsAt w g) (hn : n ≤ 1099511627776) (hf0 : 0 ≤ fixed) (hnu : n < under) (hu100 : under ≤ 100)
    (hor : bits .or .i64 fixed n = fixed + n) (hf255 : fixed + n ≤ 255) (hm : m = fs.length) (hr : Reads w S 2 A m (formC fs)) (hS : Old w S) (hfs : ∀ f ∈ fs, goodF f) (hlen : m ≤ 100) :
    Calls Tryd.prog 93 #[.pointer (some ⟨g, 0, none⟩), .int .i64 n, .int .i64 fixed, .int .i64 under, .slice A m c0] w (PutH (HeadOK fixed under n fs) g w) := by
  have hgl := hF.lt
  have hfle := mayF_le n fs
  have hSZ := sizes_any n fs A m c0 S w (by omega) hm hr hS hfs hlen
  have hnu' : (n : Int) < (under : Int) := by omega
  have HFS := hide hfs
  have HF := hide hF
  clear hfs hF hr
  subst hm
  obtain ⟨T, hT⟩ : ∃ T, T = PutH (HeadOK fixed under n fs) g w := ⟨_, rfl⟩
  rw [← hT]
  have HT := hide hT
  clear hT
  go_enter Tryd.func93, Tryd.ntmps93
  go_wp2_with fail
  refine hSZ.mono ?_
  rintro e w1 ⟨v, rfl, hown, hbel⟩
  obtain ⟨A1, c1, rfl, hc1, hcm1, hr1⟩ := own_slice hown
  unfold maxLen at hcm1
  obtain ⟨ms, hms⟩ : ∃ ms, ms = mayF n fs := ⟨_, rfl⟩
  rw [← hms] at hc1 hfle hr1
  have hPK := pick_any g (ms.length + 1) (by omega) w1 ((unhide HF).below hbel hgl)
  rw [show (((ms.length + 1 : Nat)) : Int) = (ms.length : Int) + 1 by omega] at hPK
  rw [← hms]
  have HMS := hide hms
  have HB := hide hbel
  have HR1 := hide hr1
  clear hms hbel hr1 hown hSZ
  go_wp2_with fail
  refine hPK.mono ?_
  rintro e w2 ⟨k, hk, rfl, hg2, hz2, hF2⟩
  have HZ2 := hide hz2
  clear hz2
  have hw2 : w.grownBy w2 (some g) := grown_trans' (only_of_below (unhide HB) (some g)) hg2 (fun _ h => by injection h with h; subst h; exact .inl rfl)
  have hst : Stays (fun b => w.heap.size ≤ b ∧ b < w1.heap.size) w1 w2 := stays_grown hg2 (fun b hb => hb.2) (fun h => by have := h.1; omega)
  have HW2 := hide hw2
  have HF2 := hide hF2
  have hr2 := (unhide HR1).keep hst
  clear hg2 hF2 hw2 hst hPK
  rcases k with _ | j
  · clear hk hr2
    go_wp2
    rw [unhide HT]
    refine ⟨_, [UInt8.ofNat (fixed.toNat + n)], .inl ⟨hf0, hnu, rfl⟩, rfl, ?_, grown_trans' (unhide HW2) (only_of_below ((Below.refl w2.heap.size w2).alloc (Nat.le_refl _) _) none) (fun _ h => by cases h), (unhide HF2).below ((Below.refl w2.heap.size w2).alloc (Nat.le_refl _) _) (unhide HF2).lt⟩
    have h1 : u8 (UInt8.ofNat (fixed.toNat + n)) = .int .u8 (fixed + n) := by
      simp [u8]
      omega
    show World.ownsRow _ _ _ _ _ 1 [u8 (UInt8.ofNat (fixed.toNat + n))]
    rw [h1]
    exact own_one (Blk.new2 rfl) (unhide HW2).size
  · have hj : j < ms.length := by omega
    obtain ⟨ad, rfl, hSb, hcA, hcB⟩ := form_at hr2 rfl j hj
    have hmem := mayF_mem (u := n) (fs := fs) (f := ms[j]) (by rw [← unhide HMS]; exact List.getElem_mem hj)
    have hgd := unhide HFS ms[j] hmem.1
    have hfit := hmem.2
    have hin : (ms[j].1, ms[j].2) ∈ fs := hmem.1
    rw [show ms[j] = (ms[j].1, ms[j].2) from rfl] at hgd
    generalize ms[j].1 = c at *
    generalize ms[j].2 = s at *
    unfold goodF at hgd
    simp only at hgd
    have HIN := hide (And.intro hin (And.intro hgd hfit))
    have hHD := headed_any c s n hgd.1 hgd.2 (by omega) w2
    have HGD := hide hgd
    clear hmem hgd hfit hin hk hr2
    go_wp2_with fail
    refine hHD.mono ?_
    rintro e w3 ⟨v3, rfl, hown3, hbel3⟩
    have HO3 := hide hown3
    have HB3 := hide hbel3
    clear hown3 hbel3 hHD
    go_wp2
    rw [unhide HT]
    have hq := unhide HIN
    have hfin : PutH (HeadOK fixed under n fs) g w (.returned v3) w3 := headed_put (unhide HW2) hgl (unhide HF2) (unhide HGD).1 (unhide HGD).2 (unhide HO3) (unhide HB3) (.inr ⟨(c, s), hq.1, hq.2.1, hq.2.2, rfl⟩)
    exact hfin
set_option maxRecDepth 100000 in
set_option maxHeartbeats 3200000 in
theorem putHead_coded (g n under : Nat) (fixed : Int) (fs : List (Nat × Nat)) (A : Option Addr) (m c0 : Nat) (S : Nat → Prop) (w : World) (hF : FormsAt w g) (hn : n ≤ 1099511627776) (hcase : fixed < 0 ∨ (0 ≤ fixed ∧ under ≤ n)) (hu100 : under ≤ 100)
    (hm : m = fs.length) (hr : Reads w S 2 A m (formC fs)) (hS : Old w S) (hfs : ∀ f ∈ fs, goodF f) (hlen : m ≤ 100) (hne : 0 < (mayF n fs).length) :
    Calls Tryd.prog 93 #[.pointer (some ⟨g, 0, none⟩), .int .i64 n, .int .i64 fixed, .int .i64 under, .slice A m c0] w (PutH (HeadOK fixed under n fs) g w) := by
  have hgl := hF.lt
  have hfle := mayF_le n fs
  have hSZ := sizes_any n fs A m c0 S w (by omega) hm hr hS hfs hlen
  have hci : (fixed < 0) ∨ (0 ≤ fixed ∧ decide (n < under) = false) := by
    rcases hcase with h | h
    · exact .inl h
    · exact .inr ⟨h.1, by simp; omega⟩
  have HFS := hide hfs
  have HF := hide hF
  clear hfs hF hr hcase
  subst hm
  obtain ⟨T, hT⟩ : ∃ T, T = PutH (HeadOK fixed under n fs) g w := ⟨_, rfl⟩
  rw [← hT]
  have HT := hide hT
  clear hT
  rcases hci with hci | ⟨hci, hci2⟩
  all_goals (
    go_enter Tryd.func93, Tryd.ntmps93
    go_wp2_with fail
    refine hSZ.mono ?_
    rintro e w1 ⟨v, rfl, hown, hbel⟩
    obtain ⟨A1, c1, rfl, hc1, hcm1, hr1⟩ := own_slice hown
    unfold maxLen at hcm1
    obtain ⟨ms, hms⟩ : ∃ ms, ms = mayF n fs := ⟨_, rfl⟩
    rw [← hms] at hc1 hfle hr1 hne
    have hPK := pick_any g ms.length (by omega) w1 ((unhide HF).below hbel hgl)
    rw [← hms]
    have HMS := hide hms
    have HB := hide hbel
    have HR1 := hide hr1
    clear hms hbel hr1 hown hSZ
    go_wp2_with fail
    refine hPK.mono ?_
    rintro e w2 ⟨j, hk, rfl, hg2, hz2, hF2⟩
    have HZ2 := hide hz2
    clear hz2
    have hw2 : w.grownBy w2 (some g) := grown_trans' (only_of_below (unhide HB) (some g)) hg2 (fun _ h => by injection h with h; subst h; exact .inl rfl)
    have hst : Stays (fun b => w.heap.size ≤ b ∧ b < w1.heap.size) w1 w2 := stays_grown hg2 (fun b hb => hb.2) (fun h => by have := h.1; omega)
    have HW2 := hide hw2
    have HF2 := hide hF2
    have hr2 := (unhide HR1).keep hst
    clear hg2 hF2 hw2 hst hPK
    have hj : j < ms.length := by omega
    obtain ⟨ad, rfl, hSb, hcA, hcB⟩ := form_at hr2 rfl j hj
    have hmem := mayF_mem (u := n) (fs := fs) (f := ms[j]) (by rw [← unhide HMS]; exact List.getElem_mem hj)
    have hgd := unhide HFS ms[j] hmem.1
    have hfit := hmem.2
    have hin : (ms[j].1, ms[j].2) ∈ fs := hmem.1
    rw [show ms[j] = (ms[j].1, ms[j].2) from rfl] at hgd
    generalize ms[j].1 = c at *
    generalize ms[j].2 = s at *
    unfold goodF at hgd
    simp only at hgd
    have HIN := hide (And.intro hin (And.intro hgd hfit))
    have hHD := headed_any c s n hgd.1 hgd.2 (by omega) w2
    have HGD := hide hgd
    clear hmem hgd hfit hin hk hr2
    go_wp2_with fail
    refine hHD.mono ?_
    rintro e w3 ⟨v3, rfl, hown3, hbel3⟩
    have HO3 := hide hown3
    have HB3 := hide hbel3
    clear hown3 hbel3 hHD
    go_wp2
    rw [unhide HT]
    have hq := unhide HIN
    have hfin : PutH (HeadOK fixed under n fs) g w (.returned v3) w3 := headed_put (unhide HW2) hgl (unhide HF2) (unhide HGD).1 (unhide HGD).2 (unhide HO3) (unhide HB3) (.inr ⟨(c, s), hq.1, hq.2.1, hq.2.2, rfl⟩)
    exact hfin)
end Go.Proofs.YtpadbpmnejgckaaDoor
