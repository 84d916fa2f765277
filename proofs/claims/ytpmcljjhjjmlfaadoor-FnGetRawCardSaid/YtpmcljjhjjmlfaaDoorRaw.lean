/-
  msgp.IsNil, msgp.Raw.UnmarshalMsg. Conditions: the data read as bytes; msgp.ErrShortBytes is not nil.
-/
import Derived.Test.YtpmcljjhjjmlfaaDoorSkip
import Derived.Test.YtpmcljjhjjmlfaaDoorGetX
import Derived.BigGuardPart
import Derived.Deep.RegionLaw
namespace Go.Proofs.YtpmcljjhjjmlfaaDoor
set_option linter.unusedSimpArgs false
set_option linter.unusedVariables false
set_option linter.unusedVariables false
open Go.RowKit
def isNilB (bs : List UInt8) : Bool := match bs with
  | [] => false
  | b :: _ => b.toNat == 192
theorem step_copy_nothing {P : Program} {ops : Array Oper} {o : Oper} {a : Act} {w : World} {K : Act → World → Prop} {Q : Exit → Act → World → Prop} {E : Prop} (hgd : o.guard = none) (d s : Operand) (dT sT : TypeId)
    (ho : o.op = .call { callee := .builtin .copy, args := #[d, s], argTypes := #[dT, sT] }) (elem : TypeId) (hu : P.underlying dT = some (.slice elem)) (hsz : (P.info? elem).map (·.size) = some 1)
    (dp sp : Option Addr) (dLen dCap sLen sCap : Nat) (hd : a.eval d = .slice dp dLen dCap) (hs : a.eval s = .slice sp sLen sCap) (h0 : Nat.min sLen dLen = 0) (h : K (a.put o.dst (goInt 0)) w) :
    if Region.wanted o (yielded ops a.tmps) = true then Oper.wp P o a w K Q else E := by
  have hw : Region.wanted o (yielded ops a.tmps) = true := by simp [Region.wanted, hgd]
  rw [if_pos hw]
  have hrun := run_copy_none (P := P) w dT sT o.type elem dp sp dLen dCap sLen sCap hu hsz h0
  unfold Oper.wp
  simp [execOp, ho, resolve, invoke, builtin, hd, hs, hrun, Result.andThen]
  exact h
theorem isNil_nil (A : Option Addr) (c : Nat) (w : World) : Calls Tryd.prog 53 #[.slice A 0 c] w fun e w' => e = .returned (.bool false) ∧ w = w' := by
  go_enter Tryd.func53, Tryd.ntmps53
  go_wp2
  go_ret
  exact ⟨rfl, rfl⟩
theorem isNil_cons (S : Nat → Prop) (A : Option Addr) (b : UInt8) (r : List UInt8) (c : Nat) (v : Bool) (w : World) (hr : RB w S A (b :: r)) (hv : (b.toNat == 192) = v) : Calls Tryd.prog 53 #[.slice A (r.length + 1) c] w fun e w' => e = .returned (.bool v) ∧ w = w' := by
  obtain ⟨ad, rfl, hb, hc0⟩ := hr.at_ (k := 0) (by simp)
  simp only [u8, add_zero_, List.getElem_cons_zero] at hc0
  generalize b.toNat = x at *
  have h1 : decide ((r.length : Int) + 1 = 0) = false := by simp; omega
  cases v with
  | true =>
    have hx : x = 192 := by simpa using hv
    subst hx
    clear hr hv
    go_enter Tryd.func53, Tryd.ntmps53
    go_wp2
    all_goals first | (exfalso; omega) | (go_ret; exact ⟨rfl, rfl⟩)
  | false =>
    have hx : ((x : Int) == 192) = false := by
      have : x ≠ 192 := by simpa using hv
      simp
      omega
    clear hr hv
    go_enter Tryd.func53, Tryd.ntmps53
    go_wp2
    all_goals first | (exfalso; omega) | (go_ret; exact ⟨rfl, rfl⟩)
theorem isNil_any (S : Nat → Prop) (A : Option Addr) (bs : List UInt8) (n c : Nat) (w : World) (hn : n = bs.length) (hr : RB w S A bs) : Calls Tryd.prog 53 #[.slice A n c] w fun e w' => e = .returned (.bool (isNilB bs)) ∧ w = w' := by
  subst hn
  rcases bs with _ | ⟨b, r⟩
  · exact isNil_nil A c w
  · exact isNil_cons S A b r c _ w hr rfl
/-- What UnmarshalMsg answers, and what it leaves behind its receiver (block g). -/
def RawR (S : Nat → Prop) (B g : Nat) (r : Option (List UInt8 × List UInt8)) (w : World) (e : Ending) (w' : World) : Prop :=
  Below B w w' ∧ match r with
  | none => ∃ A n c t v, e = .returned (.tuple #[.slice A n c, .iface t v])
  | some (s, bs) => ∃ A n c A0 c0, e = .returned (.tuple #[.slice A n c, .nilIface]) ∧ n = bs.length ∧ n ≤ c ∧ c ≤ maxLen ∧ RB w' S A bs ∧ Blk w' g 68 #[.slice A0 s.length c0] ∧ RB w' (Made w w') A0 s ∧ w.heap.size ≤ w'.heap.size
set_option maxHeartbeats 800000 in
theorem unm_err (S : Nat → Prop) (B g : Nat) (A : Option Addr) (bs : List UInt8) (n c : Nat) (w : World) (hn : n = bs.length) (hr : RB w S A bs) (hc : n ≤ c) (hcm : c ≤ 9223372036854775807) (hS : Old w S) (hE : ErrAt w) (hB : B ≤ w.heap.size) (hk : skip1 100000 bs = some none) :
    Calls Tryd.prog 33 #[.pointer (some ⟨g, 0, none⟩), .slice A n c] w (RawR S B g none w) := by
  have hI := skip_any S A bs n c w none hn hr hc hcm hS hE hk
  have HI := hide hI
  clear hI hk hn hE hr
  go_enter Tryd.func33, Tryd.ntmps33
  go_wp2_with (go_at_call 52; refine (unhide HI).mono ?_; rintro e w2 ⟨hb2, A2, n2, c2, t2, v2, rfl⟩)
  go_ret2
  exact ⟨hb2.mono hB, _, _, _, _, _, rfl⟩
theorem makeRaw (c : Nat) (hc : c ≤ 281474976710656) : ∃ Z : List Value, Z.length = c ∧ ∀ W : World, (Instr.makeSlice 68 (.int .i64 (c : Int)) (.int .i64 (c : Int))).run Tryd.prog W = .ok (.slice (some ⟨W.heap.size, 0, none⟩) c c) (W.alloc (.cells Z.toArray 5)) := by
  obtain ⟨i0, hi0, hz0, hz1, hz2⟩ := info_parts infoB
  refine ⟨(madeCells (Value.cells (.int .u8 0)) (c * 1)).toList, by simp [size_madeCells], fun W => ?_⟩
  have := run_make (P := Tryd.prog) W 68 5 i0 _ Tryd.underlying68 hi0 hz0 .i64 .i64 c c (by omega) (by omega) (by rw [hz2]; omega) (by omega)
  rw [hz1] at this
  simpa using this
set_option maxRecDepth 100000 in
set_option maxHeartbeats 1600000 in
theorem unm_nil (S : Nat → Prop) (B g : Nat) (A : Option Addr) (bs rest : List UInt8) (n c q : Nat) (w : World) (hn : n = bs.length) (hr : RB w S A bs) (hc : n ≤ c) (hcm : c ≤ 9223372036854775807) (hS : Old w S) (hE : ErrAt w) (hB : B ≤ g) (hg : Blk w g 68 #[.slice none 0 0])
    (hSg : ∀ b, S b → b ≠ g) (hk : skip1 100000 bs = some (some rest)) (hq : q + rest.length = n) (hv : isNilB (bs.take q) = true) :
    Calls Tryd.prog 33 #[.pointer (some ⟨g, 0, none⟩), .slice A n c] w (RawR S B g (some ([], rest)) w) := by
  have hI := skip_any S A bs n c w (some rest) hn hr hc hcm hS hE hk
  have hgl := hg.lt
  have HI := hide hI
  have HT := hide (hr.take (k := q) (by omega))
  have hql : (bs.take q).length = q := by rw [List.length_take]; omega
  have HQL := hide hql
  have HQ := hide hq
  have HV := hide hv
  clear hI hk hn hE hr hql hq hv
  go_enter Tryd.func33, Tryd.ntmps33
  go_wp2_with fail
  refine (unhide HI).mono ?_
  rintro e w2 ⟨hb2, A2, n2, c2, rfl, hn2, hnc2, hcm2, hr2⟩
  have hg2 := hg.below hb2 hgl
  have g0 := hg2.cell 0
  have gf := hg2.frozen 0
  have hz2 := hg2.lt
  have hsub : (n : Int) - n2 = (q : Nat) := by have := unhide HQ; omega
  have hqn : (q : Int) ≤ n := by have := unhide HQ; omega
  have HN := hide (isNil_any S A (bs.take q) q c w2 (unhide HQL).symm ((unhide HT).keep (stays_below (Stays.refl _ _) hb2 hS)))
  have HB2 := hide hb2
  have HN2 := hide hn2
  have HG2 := hide hg2
  clear hb2 hn2 hg2
  unfold maxLen at hcm2
  go_wp2_with (go_at_call 53; go_loud (refine (unhide HN).mono ?_; rw [unhide HV]; rintro e w3 ⟨rfl, rfl⟩))
  have HG3 := hide ((unhide HG2).set_ 0 (.slice none 0 0))
  have hB3 : Below B w (w2.setCell ⟨g, 0, none⟩ (.slice none 0 0)) := ((unhide HB2).mono (by omega)).setCell hB _
  have HB3 := hide hB3
  clear hB3
  have hR3 : RB (w2.setCell ⟨g, 0, none⟩ (.slice none 0 0)) S A2 rest := hr2.keep (stays_setCell (fun h => hSg _ h rfl) (Stays.refl _ _) _)
  have HR3 := hide hR3
  clear hR3 hr2
  go_region_law ((refine step_copy_nothing rfl (.tmp 48) (.tmp 51) _ _ (by rfl) 5 Tryd.underlying68 size5 none A 0 0 0 c (by rfl) (by rfl) rfl ?_))
  go_wp2
  go_ret2
  exact ⟨(unhide HB3).drew, A2, n2, c2, none, 0, rfl, unhide HN2, hnc2, by unfold maxLen; omega, unhide HR3, unhide HG3, RB.none_, by have := (unhide HB2).size; simpa using this⟩
set_option maxRecDepth 100000 in
set_option maxHeartbeats 1600000 in
theorem unm_row (S : Nat → Prop) (B g : Nat) (A : Option Addr) (bs rest : List UInt8) (n c q : Nat) (w : World) (hn : n = bs.length) (hr : RB w S A bs) (hc : n ≤ c) (hcm : c ≤ 9223372036854775807) (hS : Old w S) (hE : ErrAt w) (hB : B ≤ g) (hg : Blk w g 68 #[.slice none 0 0])
    (hSg : ∀ b, S b → b ≠ g) (hk : skip1 100000 bs = some (some rest)) (hq : q + rest.length = n) (hv : isNilB (bs.take q) = false) (hq0 : 0 < q) (hq9 : q ≤ 1099511627776) :
    Calls Tryd.prog 33 #[.pointer (some ⟨g, 0, none⟩), .slice A n c] w (RawR S B g (some (bs.take q, rest)) w) := by
  have hI := skip_any S A bs n c w (some rest) hn hr hc hcm hS hE hk
  have hgl := hg.lt
  obtain ⟨Z, hZ, hmk⟩ := makeRaw q (by omega)
  obtain ⟨X, hX⟩ : ∃ X, X = (bs.take q).map u8 := ⟨_, rfl⟩
  have hql : (bs.take q).length = q := by rw [List.length_take]; omega
  have hXl : X.length = q := by rw [hX, List.length_map, hql]
  have HXL := hide hXl
  have HX := hide hX
  have HZ := hide hZ
  have HI := hide hI
  have HT := hide (hr.take (k := q) (by omega))
  have HQL := hide hql
  have HQ := hide hq
  have HV := hide hv
  clear hI hk hn hE hr hql hq hv hXl hX hZ
  go_enter Tryd.func33, Tryd.ntmps33
  go_wp2_with fail
  refine (unhide HI).mono ?_
  rintro e w2 ⟨hb2, A2, n2, c2, rfl, hn2, hnc2, hcm2, hr2⟩
  have hg2 := hg.below hb2 hgl
  have g0 := hg2.cell 0
  have gf := hg2.frozen 0
  have hz2 := hg2.lt
  have hsub : (n : Int) - n2 = (q : Nat) := by have := unhide HQ; omega
  have hqn : (q : Int) ≤ n := by have := unhide HQ; omega
  have HN := hide (isNil_any S A (bs.take q) q c w2 (unhide HQL).symm ((unhide HT).keep (stays_below (Stays.refl _ _) hb2 hS)))
  have HB2 := hide hb2
  have HN2 := hide hn2
  have HG2 := hide hg2
  clear hb2 hn2 hg2
  unfold maxLen at hcm2
  have hq1 : (0 : Int) < q := by omega
  have hq2 : (0 : Int) ≤ q := by omega
  have hq3 : (q : Int) ≤ c := by omega
  go_wp2_with (go_at_call 53; go_loud (refine (unhide HN).mono ?_; rw [unhide HV]; rintro e w3 ⟨rfl, rfl⟩))
  have hW : Below B w ((w2.setCell ⟨g, 0, none⟩ (.slice (some ⟨w2.heap.size, 0, none⟩) q q)).alloc (.cells Z.toArray 5)) := (((unhide HB2).mono (by omega)).setCell hB _).alloc (by have := (unhide HB2).size; simp; omega) _
  have HW := hide hW
  have hG3 : Blk ((w2.setCell ⟨g, 0, none⟩ (.slice (some ⟨w2.heap.size, 0, none⟩) q q)).alloc (.cells Z.toArray 5)) g 68 #[.slice (some ⟨w2.heap.size, 0, none⟩) q q] := ((unhide HG2).set_ 0 _).alloc _
  have HG3 := hide hG3
  have hZ3 : Blk ((w2.setCell ⟨g, 0, none⟩ (.slice (some ⟨w2.heap.size, 0, none⟩) q q)).alloc (.cells Z.toArray 5)) w2.heap.size 5 Z.toArray := by have h := Blk.new (w2.setCell ⟨g, 0, none⟩ (.slice (some ⟨w2.heap.size, 0, none⟩) q q)) 5 Z.toArray; simpa using h
  have HZ3 := hide hZ3
  have hst : ∀ (T : Nat → Prop), (∀ b, T b → b < w2.heap.size ∧ b ≠ g) → Stays T w2 ((w2.setCell ⟨g, 0, none⟩ (.slice (some ⟨w2.heap.size, 0, none⟩) q q)).alloc (.cells Z.toArray 5)) := fun T hT => fun b hb => (Below.heap_alloc _ _ _ (by simpa using (hT b hb).1)).trans (Below.heap_setCell _ _ _ _ (fun e => (hT b hb).2 e))
  have hSw2 : Old w2 S := old_below (unhide HB2) hS
  have HS2 := hide hSw2
  have HR3 := hide (hr2.keep (hst S fun b hb => ⟨hSw2 b hb, hSg b hb⟩))
  have HT3 := hide (((unhide HT).keep (stays_below (Stays.refl _ _) (unhide HB2) hS)).keep (hst S fun b hb => ⟨hSw2 b hb, hSg b hb⟩))
  clear hW hG3 hZ3 hst hr2 hSw2
  go_region_law ((go_loud (refine step_copy_splice rfl (.tmp 48) (.tmp 51) _ _ (by rfl) 5 Tryd.underlying68 size5 (some ⟨w2.heap.size, 0, none⟩) A q q q c (by rfl) (by rfl) w2.heap.size 0 Z 5 (unhide HZ3) X (by rw [unhide HXL]; exact (Nat.min_self q).symm) (fun hp => ⟨rfl, by have h := copy_src (unhide HT3) q (by rw [unhide HQL]; exact Nat.le_refl _) (X := X) (by rw [unhide HX, List.take_take, Nat.min_self]) hp; exact h⟩) (by rw [unhide HXL, unhide HZ]; omega) (one_cells (unhide HX)) w2.heap.size ((w2.setCell ⟨g, 0, none⟩ (.slice (some ⟨w2.heap.size, 0, none⟩) q q)).alloc (.cells Z.toArray 5)) (Below.refl _ _).drew (Nat.le_refl _) ?_; intro w3 HG4 hb3)))
  go_wp2
  go_ret2
  have hz3 : w2.heap.size + 1 ≤ w3.heap.size := by simpa using hb3.size
  have hB4 : Blk w3 w2.heap.size 5 X.toArray := by
    have h := unhide HG4
    rw [splice_all ((unhide HXL).trans (unhide HZ).symm)] at h
    exact h
  rw [unhide HX] at hB4
  refine ⟨(unhide HW).trans (hb3.mono (by have := (unhide HB2).size; omega)), A2, n2, c2, some ⟨w2.heap.size, 0, none⟩, q, rfl, unhide HN2, hnc2, by unfold maxLen; omega, (unhide HR3).keep (fun b hb => hb3.block b (unhide HS2 b hb)), ?_, ?_, by have := (unhide HB2).size; omega⟩
  · rw [unhide HQL]
    exact (unhide HG3).below hb3 hz2
  · have hr4 := reads_blk (S := Made w w3) hB4 ⟨(unhide HB2).size, by omega⟩ 1 (bs.take q).length (by simp)
    exact hr4
end Go.Proofs.YtpmcljjhjjmlfaaDoor
