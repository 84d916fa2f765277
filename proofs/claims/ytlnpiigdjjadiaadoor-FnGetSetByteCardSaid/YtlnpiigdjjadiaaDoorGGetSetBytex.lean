/-
  The walk of the law FnGetSetByte. Conditions: msgp.ErrShortBytes is not nil.
-/
import Derived.Test.YtlnpiigdjjadiaaDoorGGetSetBytes
import Derived.Test.YtlnpiigdjjadiaaDoorGGetSetBytec
import Derived.Test.YtlnpiigdjjadiaaDoorGGetSetByter
import Derived.Test.YtlnpiigdjjadiaaDoorGGetSetByteu
import Derived.Test.YtlnpiigdjjadiaaDoorGGetSetBytev
import Derived.Test.YtlnpiigdjjadiaaDoorGGetSetBytea
import Derived.Test.YtlnpiigdjjadiaaDoorGGetSetByteb
import Derived.Test.YtlnpiigdjjadiaaDoorGGetSetBytew
namespace Go.Proofs.YtlnpiigdjjadiaaDoor
set_option linter.unusedSimpArgs false
set_option linter.unusedVariables false
set_option linter.unusedVariables false
open Go.RowKit
def pk_Byte : Int → Pack := fun x => .mk 3 x.toNat [] 0 []
def pc_Byte (x : Int) : List Value := [.int .i64 3, .int .u64 (x), .string ⟨#[]⟩, .int .i64 0, .slice none 0 0]
theorem ps_Byte (w : World) (S : Nat → Prop) : ∀ (xs : List Int), (∀ x ∈ xs, 0 ≤ x ∧ x ≤ 255) → PacksC w S (xs.map pk_Byte) (xs.flatMap pc_Byte)
  | [], _ => by unfold PacksC; rfl
  | x :: xs, h => by
    have hx := h x (by simp)
    rw [List.map_cons, List.flatMap_cons]
    unfold PacksC
    refine ⟨_, _, rfl, rfl, ?_, ps_Byte w S xs fun y hy => h y (by simp [hy])⟩
    have h2 := PackC.flat w S 3 (pk_Byte x).num [] 0
    have e : (((pk_Byte x).num : Nat) : Int) = x := by
      simp only [pk_Byte, Pack.num]
      omega
    rw [e] at h2
    exact h2
theorem hV_Byte (x : Int) (hx : 0 ≤ x ∧ x ≤ 255) (a zs : List UInt8) (h : WrP (pk_Byte x) a) : uint8V (a ++ zs) = some (.int .u8 x, zs) ∧ 1 ≤ a.length := by
  unfold pk_Byte at h
  unfold WrP at h
  rcases h with ⟨h, _⟩ | ⟨h, _⟩ | ⟨h, _, _⟩ | ⟨h1, h2⟩ | ⟨h, _⟩ | ⟨h, _⟩ | ⟨h, _⟩ | ⟨h, _⟩ | ⟨h, _⟩ | ⟨h, _⟩ | ⟨h, _⟩ <;> try exact absurd h (by decide)
  · have hr := (uint64R_pos h2 (by omega) zs).1
    have e : ((x.toNat : Nat) : Int) = x := by omega
    rw [e] at hr
    refine ⟨?_, (posF_len h2).1⟩
    unfold uint8V
    rw [hr]
    simp only
    rw [if_neg (by omega)]
theorem kidsF_Byte : ∀ (xs : List Int), (∀ x ∈ xs, 0 ≤ x ∧ x ≤ 255) → WfPs (xs.map pk_Byte) ∧ FitsPs (xs.map pk_Byte) ∧ cnts (xs.map pk_Byte) = xs.length
  | [], _ => ⟨trivial, trivial, rfl⟩
  | x :: xs, h => by
    have hx := h x (by simp)
    obtain ⟨h1, h2, h3⟩ := kidsF_Byte xs (fun y hy => h y (by simp [hy]))
    refine ⟨⟨?_, h1⟩, ⟨?_, h2⟩, ?_⟩
    · simp only [pk_Byte, WfP, WfPs, and_true]
      omega
    · simp only [pk_Byte, FitsP, FitHd, FitsPs, and_true]
      simp
    · simp only [List.map_cons, cnts, h3, pk_Byte, cnt, List.length_cons]
      omega
theorem arrH_first {bs r0 : List UInt8} {m : Nat} (h : arrH bs = some (m, r0)) : ∃ b r, bs = b :: r ∧ b.toNat ≠ 192 := by
  rcases bs with _ | ⟨b, r⟩
  · cases h
  · refine ⟨b, r, rfl, fun e => ?_⟩
    rw [arrH_no b r (by omega) (by omega) (by omega)] at h
    cases h
/-- What the bytes of an array of such values are read as. -/
theorem arrParts_Byte (xs : List Int) (zb bs : List UInt8) (hx : ∀ x ∈ xs, 0 ≤ x ∧ x ≤ 255) (hl : xs.length ≤ 100) (h : WrP (.mk 8 0 [] 0 (xs.map pk_Byte)) bs) :
    ∃ f : Nat → List UInt8, arrH (bs ++ zb) = some (xs.length, f 0) ∧ f xs.length = zb ∧ xs.length ≤ (f 0).length ∧ bs.length ≤ 30000000 ∧ ∀ k (h : k < xs.length), uint8V (f k) = some (.int .u8 xs[k], f (k + 1)) := by
  obtain ⟨k1, k2, k3⟩ := kidsF_Byte xs hx
  have hlen := (WrP_len _ bs h ⟨by simp only [FitHd, List.length_map]; simp; omega, k2⟩).2
  simp only [cnt, k3] at hlen
  unfold WrP at h
  rcases h with ⟨h, _⟩ | ⟨h, _⟩ | ⟨h, _, _⟩ | ⟨h, _⟩ | ⟨h, _⟩ | ⟨h, _⟩ | ⟨h, _⟩ | ⟨h, _⟩ | ⟨h, _⟩ | ⟨_, hd, r, h1, h2, rfl⟩ | ⟨h, _⟩ <;> try exact absurd h (by decide)
  rw [List.length_map] at h1
  obtain ⟨f, f0, f1, f2, f3, f4⟩ := rest_of uint8V pk_Byte (Value.int .u8) zb xs r h2 (fun x hxm a zs ha => hV_Byte x (hx x hxm) a zs ha)
  refine ⟨f, ?_, f1, by rw [f0]; exact f2, by omega, f4⟩
  rw [List.append_assoc, f0]
  exact (head_arr xs.length (by omega) hd h1 (r ++ zb)).1
theorem awG_Byte (w : World) (hE : ErrAt w) : Calls Tryd.prog 13 #[.slice (some ⟨w.heap.size, 0, none⟩) 2 2] (w.alloc (.cells #[.int .u8 145, .int .u8 5] 5)) fun e w' => ∃ ad cl Ar cr, e = .returned (.tuple #[.slice (some ad) 1 cl, .slice Ar 0 cr, .bool true]) ∧ w'.cell? ad = some (.int .u8 5) ∧ Below w.heap.size w w' := by
  refine (getSet_Byte (fun b => b = w.heap.size) (some ⟨w.heap.size, 0, none⟩) [145, 5] 2 2 1 (fun k => if k = 0 then [5] else []) [5] [5] (w.alloc (.cells #[.int .u8 145, .int .u8 5] 5)) (hE.below ((Below.refl _ _).alloc (Nat.le_refl _) _) hE.pos) rfl (reads_blkT (S := fun b => b = w.heap.size) (t := 5) (cs := #[.int .u8 145, .int .u8 5]) (Blk.newT rfl) rfl 1 2 rfl) (by omega) (by unfold maxLen; omega) (fun b hb => by subst hb; simp) (by simp) ⟨145, [5], rfl, by decide⟩ rfl rfl (by omega) (by simp) (by simp) (fun k h => by
    have hk : k = 0 := by simpa using h
    subst hk
    rfl) (by intro x hx; simp at hx; subst hx; rfl) rfl).mono ?_
  rintro e w' ⟨Al, cl, Ar, cr, rfl, h1, h2, h3, h4, h5⟩
  obtain ⟨ad, u, rfl, _, hu, hc⟩ := h3.at_ (k := 0) (by simp)
  simp at hu
  subst hu
  rw [add_zero_] at hc
  exact ⟨ad, cl, Ar, cr, rfl, hc, Below.trans (by repeat (first | with_reducible exact Below.refl _ _ | with_reducible exact x | with_reducible refine Below.alloc ?_ (by first | omega | (simp; omega) | (simp; done)) _ | with_reducible refine Below.setCell ?_ (by first | omega | (simp; omega) | (simp; done)) _ | with_reducible refine Below.drew ?_ | with_reducible refine below_drewN ?_ _)) (h5.mono (by simp))⟩
set_option maxRecDepth 100000 in
theorem FnGetSetByte_far (A D : Option Addr) (n cap l dcap : Nat) (fm : Int) (w : World) (h : 2147483647 < n ∨ 2147483647 < l) : Calls Tryd.prog 4 #[.slice A n cap, .int .u64 fm, .slice D l dcap] w (TrueR w) := by
  by_cases h1 : 2147483647 < n
  · have h2 : (2147483647 : Int) < (n : Int) := by omega
    clear h
    go_enter Tryd.func4, Tryd.ntmps4
    go_wp2
    go_ret
    exact ⟨rfl, Below.refl _ _⟩
  · have h2 : ¬ (2147483647 : Int) < (n : Int) := by omega
    have h3 : (2147483647 : Int) < (l : Int) := by omega
    clear h
    go_enter Tryd.func4, Tryd.ntmps4
    go_wp2
    go_ret
    exact ⟨rfl, Below.refl _ _⟩
set_option maxRecDepth 100000 in
set_option maxHeartbeats 1600000 in
theorem FnGetSetByte_not (A D : Option Addr) (n cap l dcap : Nat) (fm : Int) (w : World) (hE : ErrAt w) (h' : n ≤ 2147483647) (hl' : l ≤ 2147483647) (h : 100 < n ∨ 100 < l) : Calls Tryd.prog 4 #[.slice A n cap, .int .u64 fm, .slice D l dcap] w (TrueR w) := by
  have h1 : ¬ (2147483647 : Int) < (n : Int) := by omega
  have h2 : ¬ (2147483647 : Int) < (l : Int) := by omega
  have hcase : 100 < n ∨ (n ≤ 100 ∧ 100 < l) := by omega
  have HAW := hide (awG_Byte w hE)
  clear h hE
  rcases hcase with hc | ⟨hc, hc2⟩
  · have h3 : (100 : Int) < (n : Int) := by omega
    clear hc
    go_enter Tryd.func4, Tryd.ntmps4
    go_wp2_with (go_at_call 13; go_loud (refine (unhide HAW).mono ?_; rintro e w1 ⟨ad1, cl1, Ar1, cr1, rfl, hcl1, hb1⟩; have HB1 := hide hb1; clear hb1))
    go_ret
    exact ⟨rfl, unhide HB1⟩
  · have h3 : ¬ (100 : Int) < (n : Int) := by omega
    have h4 : (100 : Int) < (l : Int) := by omega
    clear hc hc2
    go_enter Tryd.func4, Tryd.ntmps4
    go_wp2_with (go_at_call 13; go_loud (refine (unhide HAW).mono ?_; rintro e w1 ⟨ad1, cl1, Ar1, cr1, rfl, hcl1, hb1⟩; have HB1 := hide hb1; clear hb1))
    go_ret
    exact ⟨rfl, unhide HB1⟩
set_option maxRecDepth 100000 in
set_option maxHeartbeats 6400000 in
theorem FnGetSetByte_near (A D : Option Addr) (zs : List Int) (zb : List UInt8) (n cap l dcap : Nat) (fm : Nat) (w : World) (hE : ErrAt w) (hfm : fm < 18446744073709551616) (hn : n = zs.length) (hn2 : n ≤ 100) (hl : l = zb.length) (hl2 : l ≤ 100) (hr : Reads w (Lt w.heap.size) 1 A n (zs.map (Value.int .u8))) (hwf : ∀ x ∈ zs, (Lit.int .u8 x).wf = true) (hrD : RB w (Lt w.heap.size) D zb) (hc : n ≤ cap) (hcD : l ≤ dcap) (hm : cap ≤ maxLen) (hmD : dcap ≤ maxLen) :
    Calls Tryd.prog 4 #[.slice A n cap, .int .u64 fm, .slice D l dcap] w (TrueR w) := by
  have h1 : ¬ (2147483647 : Int) < (n : Int) := by omega
  have h2 : ¬ (2147483647 : Int) < (l : Int) := by omega
  have h3 : ¬ (100 : Int) < (n : Int) := by omega
  have h4 : ¬ (100 : Int) < (l : Int) := by omega
  have hbd : ∀ x ∈ zs, 0 ≤ x ∧ x ≤ 255 := fun x hx => by
    have h := hwf x hx
    simp [Lit.wf, IntKind.signed, IntKind.bits, IntKind.min, IntKind.max] at h
    omega
  have HAW := hide (awG_Byte w hE)
  have HE := hide hE
  have HBD := hide hbd
  have HWF := hide hwf
  have HN := hide hn
  have HL := hide hl
  have HR := hide hr
  have HRD := hide hrD
  have hmD9 : dcap ≤ 9223372036854775807 := by unfold maxLen at hmD; omega
  have hm9 : cap ≤ 9223372036854775807 := by unfold maxLen at hm; omega
  obtain ⟨q, hq⟩ : ∃ q, q = (setL zs).length := ⟨_, rfl⟩
  have hq100 : q ≤ 100 := by have := setL_len zs; omega
  have HQ := hide hq
  clear hE hbd hwf hn hl hr hrD hq hm hmD
  go_enter Tryd.func4, Tryd.ntmps4
  go_wp2_with (go_at_call 13; go_loud (refine (unhide HAW).mono ?_; rintro e w1 ⟨ad1, cl1, Ar1, cr1, rfl, hcl1, hb1⟩; have HB1 := hide hb1; clear hb1))
  go_loopw [55] (fun i wr => ∃ (k : Nat) (KA : Option Addr) (kc : Nat), i = .int .i64 k ∧ k ≤ n ∧ Blk wr w1.heap.size 29 #[.int .i64 8, .int .u64 0, .string ⟨#[]⟩, .int .i64 0, .slice KA k kc] ∧ wr.ownsRow (w1.heap.size + 1) 29 5 (.slice KA k kc) k ((zs.take k).flatMap pc_Byte) ∧ Below w1.heap.size w1 wr) (fun i _ => n - (intOf i).toNat)
  case atStart => exact ⟨0, none, 0, rfl, Nat.zero_le _, by have h := Blk.new w1 29 #[.int .i64 8, .int .u64 0, .string ⟨#[]⟩, .int .i64 0, .slice none 0 0]; simpa using h, World.ownsRow_nil _ _ _ _, (by repeat (first | with_reducible exact Below.refl _ _ | with_reducible exact x | with_reducible refine Below.alloc ?_ (by first | omega | (simp; omega) | (simp; done)) _ | with_reducible refine Below.setCell ?_ (by first | omega | (simp; omega) | (simp; done)) _ | with_reducible refine Below.drew ?_ | with_reducible refine below_drewN ?_ _))⟩
  case round =>
    obtain ⟨k, KA, kc, rfl, hk, hB, hown, hbel⟩ := hrel
    have hbw : Below w.heap.size w wr := (unhide HB1).trans (hbel.mono (unhide HB1).size)
    obtain ⟨⟨a0, a1, a2, a3, a4⟩, ⟨f0, f1, f2, f3, f4⟩⟩ := five_cells hB
    have hBl := hB.lt
    by_cases hlt : k < n
    · obtain ⟨ad, u, rfl, hSb, hu, hcell⟩ := ((unhide HR).below hbw).at_ hlt
      have hln : k < zs.length := by have := unhide HN; omega
      have hux : u = .int .u8 zs[k] := by
        rw [List.getElem?_map, List.getElem?_eq_getElem hln] at hu
        simpa using hu.symm
      have htk : (zs.take (k + 1)).flatMap pc_Byte = (zs.take k).flatMap pc_Byte ++ pc_Byte zs[k] := by
        rw [List.take_succ_eq_append_getElem hln, List.flatMap_append]
        simp
      have hbd := unhide HBD zs[k] (List.getElem_mem hln)
      generalize zs[k] = x at *
      subst hux
      have hw64 : IntKind.u64.wrap x = x := by
        simp only [IntKind.wrap, IntKind.bits, IntKind.signed]
        simp
        omega
      have HTK := hide htk
      have HOWN := hide hown
      have HBEL := hide hbel
      have HBK := hide hB
      have hk0 : (0 : Int) ≤ (k : Int) := by omega
      have hk1 : (k : Int) < (n : Int) := by omega
      clear htk hu hbw hown hbel hB
      go_wp2_with (at_builtin; go_loud (obtain ⟨i0, hi0, hiz, his, hib⟩ := info_parts infoPkT; refine wpList_append_any (S := fun _ => True) _ rfl _ _ 27 rfl (w1.heap.size + 1) 29 i0 _ 5 64 Tryd.underlying27 hi0 hiz his hib ?x1 ?x2 (.slice KA k kc) k ((zs.take k).flatMap pc_Byte) ?x3 ?x4 (some ⟨wr.heap.size, 0, none⟩) 1 1 (pc_Byte x) ?x5 ?x6 (fivesT) ?x7 ?x8 ?x9 ?_; (case x1 => rfl); (case x2 => omega); (case x3 => rfl); (case x4 => exact own_below (unhide HOWN) (by repeat (first | with_reducible exact Below.refl _ _ | with_reducible exact x | with_reducible refine Below.alloc ?_ (by first | omega | (simp; omega) | (simp; done)) _ | with_reducible refine Below.setCell ?_ (by first | omega | (simp; omega) | (simp; done)) _ | with_reducible refine Below.drew ?_ | with_reducible refine below_drewN ?_ _))); (case x5 => rfl); (case x6 => exact reads_blkT (S := fun _ => True) (t := 29) (cs := (pc_Byte x).toArray) (Blk.newT rfl) trivial 5 1 rfl); (case x7 => unfold maxLen; omega); (case x8 => omega); (case x9 => simp; omega); clear hi0 hiz his hib; intro v6 w6 hown6 hgr6 hat6; obtain ⟨K6, kc6, rfl, _, _, _⟩ := own_slice hown6; have hB6 : Below w1.heap.size w1 w6 := (Below.alloc (unhide HBEL) (unhide HBEL).size _).grown hgr6 (by have := (unhide HBEL).size; simp; omega) (fun j hj => by have := (unhide HOWN).lt j hj; omega); have hBk6 := ((unhide HBK).alloc (.cells (pc_Byte x).toArray 29)).grown hgr6 (fun e => by have := ((unhide HOWN).lt _ e.symm).1; omega); have hzk6 := hBk6.lt; obtain ⟨⟨b0, b1, b2, b3, b4⟩, ⟨g0, g1, g2, g3, g4⟩⟩ := five_cells hBk6; have HBK6 := hide hBk6; have HO6 := hide hown6; have HB6 := hide hB6; clear hown6 hB6 hgr6 hat6 hBk6))
      go_roundw
      case rel =>
        refine ⟨k + 1, K6, kc6, by go_num, by omega, ?_, ?_, Below.setCell (unhide HB6) (Nat.le_refl _) _⟩
        · have h := (unhide HBK6).set_ 4 (.slice K6 (k + 1) kc6)
          simpa using h
        · rw [unhide HTK]
          exact (unhide HO6).kept (grown_setCellS _ _ _) (Or.inr (fun e => by have h := ((unhide HO6).lt _ e).1; revert h; simp))
      case measure => simp [intOf]; omega
    · obtain rfl : k = n := by omega
      have hk1 : ¬ (k : Int) < (k : Int) := by omega
      have hall : zs.take k = zs := List.take_of_length_le (by have := unhide HN; omega)
      rw [hall] at hown
      obtain ⟨K', kc', hv, hkc, hkm, hRk⟩ := own_slice hown
      obtain ⟨rfl, _, rfl⟩ := Value.slice.inj hv
      have hpc : PackC wr (fun b => w1.heap.size + 1 ≤ b ∧ b < wr.heap.size) (.mk 8 0 [] 0 (zs.map pk_Byte)) [.int .i64 8, .int .u64 0, .string ⟨#[]⟩, .int .i64 0, .slice KA k kc] := by
        have e : (zs.map pk_Byte).length = k := by rw [List.length_map]; exact (unhide HN).symm
        unfold PackC
        exact ⟨KA, kc, zs.flatMap pc_Byte, by rw [e]; rfl, by rw [e]; exact hkc, hkm, by rw [e]; exact hRk, ps_Byte _ _ zs (unhide HBD)⟩
      obtain ⟨q1, q2, q3⟩ := kidsF_Byte zs (unhide HBD)
      have hPP := putPack_all _ (.mk 8 0 [] 0 (zs.map pk_Byte)) (Nat.le_refl _) ⟨by omega, q1⟩ ⟨by have := unhide HN; simp only [FitHd, List.length_map]; simp; omega, q2⟩ (by have := unhide HN; simp only [cnt, q3]; omega) _ _ _ _ _ (fun b => w1.heap.size + 1 ≤ b ∧ b < wr.heap.size) (wr.alloc (.cells #[.int .u64 fm, .bool false] 33)) wr.heap.size (fun b hb => by have := hb.2; simp; omega) (fun h => by have := h.2; omega) (PackC.keep (stays_alloc (fun b hb => hb.2) (Stays.refl _ _) _) _ _ hpc) ⟨fm, false, hfm, Blk.new _ _ _⟩
      have HPP := hide hPP
      have HW := hide hbw
      have hzr := hbw.size
      clear hPP hpc q1 q2 q3 hv hRk hall hown hbel hbw hB
      go_wp2_with (first
        | (go_at_call 9; go_loud (refine (unhide HPP).mono ?_; rintro e3 w3 ⟨v3, bs, hP3, rfl, hown3, hg3, hF3⟩; obtain ⟨f, hf0, hf1, hf2, hf3, hf4⟩ := arrParts_Byte zs zb bs (unhide HBD) (by have := unhide HN; omega) hP3; rw [← unhide HN] at hf0 hf1 hf2; have hB3 : Below w.heap.size w w3 := ((unhide HW).alloc (unhide HW).size _).grown hg3 (by simp; omega) (fun j hj => by cases hj; omega); have hz3 : wr.heap.size + 1 ≤ w3.heap.size := Nat.le_trans (by simp) hg3.size; simp only [World.size_alloc] at hown3; obtain ⟨A3, c3, rfl, hc3, hcm3, hr3⟩ := own_slice hown3; obtain ⟨lb, hlb⟩ : ∃ lb, lb = bs.length := ⟨_, rfl⟩; rw [← hlb] at hown3 hc3 hf3 ⊢; have HLB := hide hlb; have HOWN3 := hide hown3; have HF0 := hide hf0; have HF1 := hide hf1; have HF4 := hide hf4; have HB3 := hide hB3; have hz30 := hB3.size; clear hown3 hr3 hf0 hf1 hf4 hg3 hF3 hP3 hlb hB3))
        | (at_builtin; go_loud (obtain ⟨i0, hi0, hz0', hz1', hz2⟩ := info_parts info5; refine wpList_append_any (S := Lt w.heap.size) _ rfl _ _ _ rfl (wr.heap.size + 1) 5 i0 _ 1 1 Tryd.underlying24 hi0 hz0' hz1' hz2 ?x1 ?x2 (.slice A3 lb c3) lb (bs.map Go.Proofs.YtlnpiigdjjadiaaDoor.u8) ?x3 (unhide HOWN3) D l dcap (zb.map Go.Proofs.YtlnpiigdjjadiaaDoor.u8) ?x4 ?x5 (u8_one zb) ?c3 ?x7 ?c4 ?_; (case x1 => rfl); (case x2 => omega); (case x3 => rfl); (case x4 => rfl); (case x5 => rw [unhide HL]; exact (unhide HRD).below (unhide HB3)); (case x7 => omega); (case c3 => unfold maxLen; omega); (case c4 => omega); clear hi0 hz0' hz1' hz2; intro v4 w4 hown4 hgrow4 hat4; have hB4 : Below w.heap.size w w4 := (unhide HB3).grown hgrow4 (unhide HB3).size (fun j hj => by have := ((unhide HOWN3).lt j hj).1; omega); obtain ⟨A4, c4, rfl, hc4, hcm4, hr4⟩ := own_slice hown4; have HR4 := hide hr4; have HB4 := hide hB4; have hz4 := hgrow4.size; clear hown4 hgrow4 hat4 hr4 hB4))
        | (go_at_call 13; have hg9 := hz4; clear hg9; go_loud (refine (getSet_Byte (fun b => wr.heap.size + 1 ≤ b ∧ b < w4.heap.size) A4 (bs ++ zb) (lb + l) c4 k f zs (setL zs) w4 ?e1 ?e2 ?e3 hc4 hcm4 ?e4 ?e5 ?e6 (unhide HF0) (unhide HN) hn2 hf2 ?e7 (unhide HF4) (unhide HWF) rfl).mono ?_; (case e1 => exact (unhide HE).on (unhide HB4)); (case e2 => rw [List.length_append, unhide HLB, unhide HL]); (case e3 => unfold RB; rw [List.length_append, List.map_append, ← unhide HLB, ← unhide HL]; exact unhide HR4); (case e4 => exact fun b hb => hb.2); (case e5 => rw [List.length_append, ← unhide HLB, ← unhide HL]; omega); (case e6 => exact arrH_first (unhide HF0)); (case e7 => rw [unhide HF1, ← unhide HL]; omega); rw [unhide HF1]; rintro e w5 ⟨Al, cl, Ar, cr, rfl, hcl5, hcm5, hrl5, hrr5, hb5⟩; rw [← unhide HQ, ← unhide HL]; rw [← unhide HQ] at hcl5 hrl5; have HRL5 := hide hrl5; have HRR5 := hide hrr5; have HB5 := hide ((unhide HB4).trans (hb5.mono (unhide HB4).size)); have hz5 := hb5.size; clear hrl5 hrr5 hb5))
        | (go_at_call 15; go_loud (refine (inSet_byte (Lt w.heap.size) A zs k cap w5 (unhide HN) hn2 ((unhide HR).below (unhide HB5)) (fun b hb => Nat.lt_of_lt_of_le hb (unhide HB5).size)).mono ?_; rintro e w6 ⟨v6, rfl, hown6, hb6⟩; obtain ⟨A6, c6, rfl, hc6, hm6, hrd6⟩ := own_slice hown6; rw [← unhide HQ] at hc6 hrd6 ⊢; have HRD6 := hide hrd6; have HB6 := hide hb6; have hz6 := hb6.size; clear hown6 hb6 hrd6))
        | (go_at_call 14; go_loud (refine (same_byte (Made w4 w5) (fun b => w5.heap.size ≤ b ∧ b < w6.heap.size) Al A6 (setL zs) q cl c6 w6 (unhide HQ) hq100 ((unhide HRL5).keep (fun b hb => (unhide HB6).block b (by have := hb.2; omega))) (unhide HRD6)).mono ?_; rintro e w7 ⟨rfl, hb7⟩; have HB7 := hide hb7; have hz7 := hb7.size; clear hb7))
        | (go_at_call 12; go_loud (refine (left_same (Made w4 w5) (Lt w.heap.size) Ar D zb l l cr dcap w7 (unhide HL) (unhide HL) (((unhide HRR5).keep (fun b hb => (unhide HB6).block b (by have := hb.2; omega))).keep (fun b hb => (unhide HB7).block b (by have := hb.2; omega))) ((((unhide HRD).below (unhide HB5)).keep (fun b hb => (unhide HB6).block b (by have : b < w.heap.size := hb; have := (unhide HB5).size; omega))).keep (fun b hb => (unhide HB7).block b (by have : b < w.heap.size := hb; have := (unhide HB5).size; omega)))).mono ?_; rintro e w8 ⟨rfl, rfl⟩)))
      go_ret
      have h5 := unhide HB5
      have h6 := h5.trans ((unhide HB6).mono h5.size)
      exact ⟨rfl, h6.trans ((unhide HB7).mono h6.size)⟩
theorem FnGetSetByte_walk (A : Option Addr) (n cap : Nat) (zs : List Int) (fm : Int) (D : Option Addr) (l dcap : Nat) (ds : List Int) (w : World) (hE : ErrAt w) (hrow : RowIn .u8 w A n cap zs) (hfm : (Lit.int .u64 fm).wf = true) (hrowD : RowIn .u8 w D l dcap ds) :
    Calls Tryd.prog 4 #[.slice A n cap, .int .u64 fm, .slice D l dcap] w fun e w' => e = .returned (.bool true) ∧ Below w.heap.size w w' := by
  obtain ⟨hr, hl, hc, hm, hwf⟩ := ints_of_row hrow
  obtain ⟨zb, rfl, hrD, hcD, hmD⟩ := bytes_of_row hrowD
  simp [Lit.wf, IntKind.signed, IntKind.bits, IntKind.min, IntKind.max] at hfm
  obtain ⟨m, rfl⟩ := Int.eq_ofNat_of_zero_le (show 0 ≤ fm by omega)
  by_cases hf : 2147483647 < n ∨ 2147483647 < zb.length
  · exact FnGetSetByte_far A D n cap _ dcap _ w hf
  by_cases h2 : 100 < n ∨ 100 < zb.length
  · exact FnGetSetByte_not A D n cap _ dcap _ w hE (by omega) (by omega) h2
  · exact FnGetSetByte_near A D (zs.take n) zb n cap _ dcap m w hE (by omega) hl.symm (by omega) rfl (by omega) hr hwf hrD hc hcD hm hmD
end Go.Proofs.YtlnpiigdjjadiaaDoor
