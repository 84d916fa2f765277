/-
  msgp.source.ReadFull into a row of one's own. Conditions: there are so many bytes to come; at most 200000.
-/
import Derived.Test.YtpadbpmnejgckaaDoorSrcOps
namespace Go.Proofs.YtpadbpmnejgckaaDoor
set_option linter.unusedSimpArgs false
set_option linter.unusedVariables false
set_option linter.unusedVariables false
open Go.RowKit
theorem RdSt.far {w w' : World} {d s m z g : Nat} {ck dep : Int} {DA : Option Addr} {dc : Nat} {V : Value} {cap at_ : Nat} {pend rest : List UInt8} (h : RdSt w d s m z ck dep DA dc V cap at_ pend rest) (hk : Keeps (fun b => b = g) w w') (hg : m < g) (hv : V.ownBlock ≠ some g) : RdSt w' d s m z ck dep DA dc V cap at_ pend rest := by
  have h1 := h.ds
  have h2 := h.sm
  exact ⟨hk.blk h.D (by omega), h.data.keep (fun b hb => hk.2 b (Nat.lt_trans hb.1 h.M.lt) (by have := hb.1; omega)), hk.blk h.S (by omega), hk.blk h.M (by omega), h.room.keep (fun x hx => hk.2 x (h.room.lt hx).2 (fun e => hv (e ▸ hx))), h.ds, h.sm, h.z1, h.z2, h.dcle, h.dcm, h.capm⟩
set_option maxRecDepth 100000 in
set_option maxHeartbeats 3200000 in
theorem readFull_pos (d s m z g n : Nat) (ck dep : Int) (V : Value) (ts t : List UInt8) (w : World) (h : RdAny w d s m z ck dep V (ts ++ t)) (hn : n = ts.length) (hn3 : n ≤ 200000) (hrow : Row w 5 g n []) (hg : m < g) (hv : V.ownBlock ≠ some g) :
    Calls Tryd.prog 110 #[.pointer (some ⟨s, 0, none⟩), .slice (some ⟨g, 0, none⟩) n n] w fun e w' => e = .returned (.tuple #[.int .i64 n, .nilIface]) ∧ Row w' 5 g n (ts.map u8) ∧
      ∃ V', RdAny w' d s m z ck dep V' t ∧ Keeps (fun b => RdK d s V b ∨ b = g) w w' ∧ (V'.ownBlock = V.ownBlock ∨ ∃ g', V'.ownBlock = some g' ∧ w.heap.size ≤ g') := by
  have HM := hide (more_any d s m z ck dep V (ts ++ t) n w h (by rw [List.length_append]; omega) hn3)
  have HN := hide hn
  have HROW := hide hrow
  have HDS := hide (show d < s ∧ s < m from (by obtain ⟨_, _, _, _, _, _, _, hst⟩ := h; exact ⟨hst.ds, hst.sm⟩))
  clear h hn hrow
  go_enter Tryd.func110, Tryd.ntmps110
  go_wp2_with (go_at_call 142; go_loud (refine (unhide HM).mono ?_; rintro e w1 ⟨rfl, DA, dc, V1, cap, at_, pend, rest, hbs, hpn, hst, hkp, hown⟩; have HST := hide hst; have HKP := hide hkp; have HOWN := hide hown; have HBS := hide hbs; clear hst hkp hown hbs))
  obtain ⟨A, rfl⟩ := (unhide HST).room.form
  have hle := (unhide HST).room.len_le
  have hcm := (unhide HST).capm
  obtain ⟨p, hp⟩ : ∃ p, p = pend.length := ⟨_, rfl⟩
  obtain ⟨R, hR⟩ : ∃ R, R = at_ + pend.length := ⟨_, rfl⟩
  have c1 : w1.cell? ⟨s, 1, none⟩ = some (.slice A R cap) := by rw [hR]; exact (unhide HST).S.cell 1
  have c2 : w1.cell? ⟨s, 2, none⟩ = some (.int .i64 at_) := (unhide HST).S.cell 2
  obtain ⟨X, hX⟩ : ∃ X, X = pend.map Go.Proofs.YtpadbpmnejgckaaDoor.u8 := ⟨_, rfl⟩
  obtain ⟨cs, hcs⟩ : ∃ cs, cs = X.take n := ⟨_, rfl⟩
  have hds := unhide HDS
  have hrow1 : Row w1 5 g n [] := (unhide HROW).keep ((unhide HKP).2 g (unhide HROW).lt (by rintro (e | e | e) <;> first | omega | exact hv e))
  have HROW1 := hide hrow1
  have hvg : (Value.slice A (at_ + pend.length) cap).ownBlock ≠ some g := by
    rcases unhide HOWN with e | ⟨g', e, hge⟩
    · rw [e]; exact hv
    · rw [e]
      intro e2
      injection e2 with e2
      have := (unhide HROW).lt
      omega
  have hgs : g ≠ s := by omega
  have HRD : Hid (Reads w1 (fun b => (Value.slice A (at_ + pend.length) cap).ownBlock = some b) 1 (cutA A cap at_ 1) p X) := by
    obtain ⟨A', hA', hrd⟩ := (unhide HST).room.reads
    obtain ⟨rfl, _, _⟩ := Value.slice.inj hA'
    rw [hp, hX]
    exact hrd
  have hcl : cs.length = n := by rw [hcs, hX, List.length_take, List.length_map]; omega
  have HCL := hide hcl
  have HCT : Hid (cs = X.take (Nat.min p n)) := by
    have e : Nat.min p n = n := Nat.min_eq_right (by omega)
    rw [e]
    exact hcs
  have HC1 : Hid (∀ v ∈ cs, v.oneCell' = true) := by
    intro v hv
    rw [hcs, hX] at hv
    exact u8_one pend v (List.mem_of_mem_take hv)
  have HCS := hide hcs
  have HX := hide hX
  have HP := hide hp
  have HR := hide hR
  have HVG := hide hvg
  have HSB := hide (unhide HST).S
  have ha1 : (0 : Int) ≤ (at_ : Int) := Int.natCast_nonneg _
  have ha2 : (at_ : Int) ≤ (R : Int) := by omega
  have ha3 : ((at_ : Int)).toNat = at_ := rfl
  have ha4 : R - at_ = p := by omega
  have hw1 : IntKind.i64.wrap ((at_ : Int) + (n : Int)) = (at_ : Int) + (n : Int) := by rw [IntKind.wrap_i64]; omega
  clear hcl hcs hX hp hR hrow1 hvg
  go_region_held3 (fun W => W.cell? ⟨s, 1, none⟩ = some (.slice A R cap) ∧ W.cell? ⟨s, 2, none⟩ = some (.int .i64 at_)) (go_keep) ((refine step_copy_into rfl (.tmp 12) (.tmp 21) _ _ (by rfl) 5 (fun b => (Value.slice A (at_ + pend.length) cap).ownBlock = some b) (cutA A cap at_ 1) (some ⟨g, 0, none⟩) g 0 n n p (cap - at_) n 5 [] X cs Tryd.underlying26 size5s (by rfl) (by rfl) (unhide HROW1) rfl (unhide HRD) (unhide HCT) (fun _ => rfl) (by rw [unhide HCL]; omega) (unhide HC1) ?_; intro w2 HR2 HK2; rw [unhide HCL]; have hS2 := (unhide HK2).blk (a := w1.drew) (unhide HSB) (fun e => hgs e.symm); have q1 : w2.cell? ⟨s, 1, none⟩ = some (.slice A R cap) := (hS2.cell 1).trans (by rw [unhide HR]; rfl); have q2 : w2.cell? ⟨s, 2, none⟩ = some (.int .i64 at_) := hS2.cell 2; have q3 := hS2.frozen 2; clear hS2))
  go_wp2_with fail
  go_ret2
  have hst2 := RdSt.far (w := w1.drew) (unhide HST).quiet (unhide HK2) hg (unhide HVG)
  have hon := hst2.on hpn
  have hpt : pend.take n = ts := by
    have h1 := congrArg (List.take n) (unhide HBS)
    rw [List.take_append_of_le_length hpn, unhide HN, List.take_left] at h1
    rw [unhide HN]
    exact h1
  have hdt : pend.drop n ++ rest = t := by
    have h1 := congrArg (List.drop n) (unhide HBS)
    rw [List.drop_append_of_le_length hpn] at h1
    rw [h1, unhide HN, List.drop_left]
  have hk2 : Keeps (fun b => RdK d s V b ∨ b = g) w w2 := (unhide HKP).weak (fun x _ e => .inl e) |>.trans (unhide HK2).undrew (fun x _ e => .inr e)
  refine ⟨rfl, ?_, _, ⟨DA, dc, cap, at_ + n, _, rest, hdt, hon.1⟩, hk2.trans hon.2 (fun x hx e => ?_), unhide HOWN⟩
  · have h3 : Row w2 5 g n (ts.map u8) := by
      have h4 := unhide HR2
      rw [unhide HCS, unhide HX, List.nil_append, ← List.map_take, hpt] at h4
      exact h4
    exact h3.keep (Below.heap_setCell _ _ _ g hgs)
  · exact .inl (RdK.trans (unhide HOWN) x hx e)
set_option maxRecDepth 100000 in
set_option maxHeartbeats 1600000 in
theorem readFull_zero (d s m z : Nat) (ck dep : Int) (V : Value) (t : List UInt8) (w : World) (h : RdAny w d s m z ck dep V t) :
    Calls Tryd.prog 110 #[.pointer (some ⟨s, 0, none⟩), .slice none 0 0] w fun e w' => e = .returned (.tuple #[.int .i64 0, .nilIface]) ∧ RdLeft d s m z ck dep V t w w' := by
  have HM := hide (more_any d s m z ck dep V t 0 w h (Nat.zero_le _) (by omega))
  clear h
  go_enter Tryd.func110, Tryd.ntmps110
  go_wp2_with (go_at_call 142; go_loud (refine (unhide HM).mono ?_; rintro e w1 ⟨rfl, DA, dc, V1, cap, at_, pend, rest, hbs, hpn, hst, hkp, hown⟩; have HST := hide hst; have HKP := hide hkp; have HOWN := hide hown; have HBS := hide hbs; clear hst hkp hown hbs))
  obtain ⟨A, rfl⟩ := (unhide HST).room.form
  have hle := (unhide HST).room.len_le
  have hcm := (unhide HST).capm
  obtain ⟨R, hR⟩ : ∃ R, R = at_ + pend.length := ⟨_, rfl⟩
  have c1 : w1.cell? ⟨s, 1, none⟩ = some (.slice A R cap) := by rw [hR]; exact (unhide HST).S.cell 1
  have c2 : w1.cell? ⟨s, 2, none⟩ = some (.int .i64 at_) := (unhide HST).S.cell 2
  have f2 := (unhide HST).S.frozen 2
  have ha1 : (0 : Int) ≤ (at_ : Int) := Int.natCast_nonneg _
  have ha2 : (at_ : Int) ≤ (R : Int) := by omega
  have ha3 : ((at_ : Int)).toNat = at_ := rfl
  have hcp := fun W => run_copy_none (P := Tryd.prog) W 26 26 3 5 none (cutA A cap at_ 1) 0 0 (R - at_) (cap - at_) Tryd.underlying26 size5s (Nat.min_zero _)
  clear hR
  go_region
  go_wp2_with fail
  go_ret2
  have hon := RdSt.on (n := 0) (unhide HST).quiet (Nat.zero_le _)
  simp only [Nat.add_zero, List.drop_zero, Int.natCast_zero, Int.add_zero] at hon
  refine ⟨rfl, left_of (unhide HKP) (unhide HOWN) ⟨DA, dc, cap, at_, pend, rest, unhide HBS, ?_⟩ ?_⟩
  · exact hon.1
  · exact hon.2.undrew
end Go.Proofs.YtpadbpmnejgckaaDoor
