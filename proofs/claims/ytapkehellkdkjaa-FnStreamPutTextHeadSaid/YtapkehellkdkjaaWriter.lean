/-
  A msgp.Writer over a msgp.Text: what it has written and what lies in its buffer; Text.Write, flush, Flush. Conditions: at most 2^40 bytes.
-/
import Derived.Test.YtapkehellkdkjaaPuts
import Derived.Deep.QuietTactic
import Derived.BigQuiet
import Derived.IntWalk
import Derived.Deep.RegionHeld3
namespace Go.Proofs.Ytapkehellkdkjaa
set_option linter.unusedSimpArgs false
set_option linter.unusedVariables false
set_option linter.unusedVariables false
open Go.RowKit
theorem infoB5 : (Try.prog.info? 5).map (fun i => (i.zero, i.size, i.bytes)) = some (some (.int .u8 0), 1, 1) := by kernel_rfl
theorem mWrite (t : Nat) (w : World) : (method 206 55 (.pointer (some ⟨t, 0, none⟩)) "Write").run Try.prog w = .ok (63, .pointer (some ⟨t, 0, none⟩)) w := by kernel_rfl
theorem mWriteN (t : Nat) (w : World) : (nilAhead 206 55 (.pointer (some ⟨t, 0, none⟩)) "Write").run Try.prog w = .ok (some false) w := by kernel_rfl
/-- The Writer (block m), its buffer (block b, z bytes), its Text (block t): done is written, pend lies in the buffer. -/
structure WrSt (w : World) (t b m z : Nat) (done pend : List UInt8) (v : Value) : Prop where
  W : Blk w m 78 #[.iface 55 (.pointer (some ⟨t, 0, none⟩)), .slice (some ⟨b, 0, none⟩) z z, .int .i64 (pend.length : Nat)]
  T : Blk w t 53 #[v]
  own : w.ownsRow (m + 1) 5 1 v done.length (done.map u8)
  row : Row w 5 b z (pend.map u8)
  tb : t < b
  bm : b < m
  z1 : 18 ≤ z
  z2 : z ≤ 65536
theorem WrSt.ple {w : World} {t b m z : Nat} {done pend : List UInt8} {v : Value} (h : WrSt w t b m z done pend v) : pend.length ≤ z := by
  have := h.row.le_
  simpa using this
theorem row_reads {w : World} {g cap : Nat} {xs : List Value} (h : Row w 5 g cap xs) (S : Nat → Prop) (hS : S g) : Reads w S 1 (some ⟨g, 0, none⟩) xs.length xs := by
  refine ⟨by simp, fun _ => ⟨_, rfl, hS, fun j u hu => ?_⟩⟩
  have := h.at_ hu
  have e : (⟨g, 0, none⟩ : Addr).add j = ⟨g, j, none⟩ := by unfold Addr.add; split <;> simp_all
  rw [e]
  exact this
theorem own_block_ge {w : World} {base : Nat} {v : Value} {n : Nat} {xs : List Value} (h : w.ownsRow base 5 1 v n xs) (k : Nat) (hk : v.ownBlock = some k) : base ≤ k ∧ k < w.heap.size := h.lt k hk
set_option maxHeartbeats 800000 in
/-- Text.Write appends. -/
theorem textWrite (base t n c : Nat) (v : Value) (S : Nat → Prop) (A : Option Addr) (bs : List UInt8) (xs : List Value) (w : World) (hT : Blk w t 53 #[v]) (hown : w.ownsRow base 5 1 v n xs) (hr : RB w S A bs) (hc : bs.length ≤ c) (ht : t < base) (hb : base ≤ w.heap.size) (hl : n + bs.length ≤ 1099511627776) :
    Calls Try.prog 63 #[.pointer (some ⟨t, 0, none⟩), .slice A bs.length c] w fun e w' => ∃ v' w1, e = .returned (.tuple #[.int .i64 (bs.length : Nat), .nilIface]) ∧ w' = w1.setCell ⟨t, 0, none⟩ v' ∧ w1.ownsRow base 5 1 v' (n + bs.length) (xs ++ bs.map u8) ∧ w.grownBy w1 v.ownBlock ∧ (v'.ownBlock = v.ownBlock ∨ v'.ownBlock = some w.heap.size) := by
  have c0 := hT.cell 0
  have f0 := hT.frozen 0
  have hlt := hT.lt
  have HT := hide hT
  have HOWN := hide hown
  have HR := hide hr
  clear hT hown hr
  have hgl := own_block_ge (unhide HOWN)
  have hne : some t ≠ v.ownBlock := fun e => by have := (hgl t e.symm).1; omega
  have HNE := hide hne
  clear hgl hne
  obtain ⟨L, hL⟩ : ∃ L, L = bs.length := ⟨_, rfl⟩
  rw [← hL]
  have HL := hide hL
  rw [← hL] at hc hl
  clear hL
  go_enter Try.func63, Try.ntmps63
  go_wp2_with (at_builtin; go_loud (obtain ⟨i0, hi0, hz0, hz1', hz2⟩ := info_parts infoB5; refine wpList_append_any (S := S) _ rfl (.tmp 10) (.tmp 11) _ rfl base 5 i0 _ 1 1 Try.underlying23 hi0 hz0 hz1' hz2 ?x1 ?x2 v n xs ?x3 (unhide HOWN) A L c (bs.map u8) ?x4 ?x5 (u8_one bs) ?c3 ?x7 hb ?_; (case x1 => rfl); (case x2 => omega); (case x3 => rfl); (case x4 => rfl); (case x5 => rw [unhide HL]; exact unhide HR); (case c3 => unfold maxLen; omega); (case x7 => omega); clear hi0 hz0 hz1' hz2; intro v1 w1 hown1 hgrow hat; have hT1 := (unhide HT).grown hgrow (unhide HNE); have c1 := hT1.cell 0; have f1 := hT1.frozen 0; obtain ⟨A1, cc1, rfl, _, _, _⟩ := own_slice hown1; have HO1 := hide hown1; have HG1 := hide hgrow; have HAT := hide hat; clear hown1 hgrow hat hT1 c0 f0))
  go_ret2
  refine ⟨_, w1, rfl, rfl, ?_, unhide HG1, unhide HAT⟩
  exact unhide HO1
/-- What is left behind Text.Write. -/
theorem flushed {w w2 : World} {t b m z : Nat} {done pend : List UInt8} {v v' : Value} (h : WrSt w t b m z done pend v) (hown2 : w2.ownsRow (m + 1) 5 1 v' (done.length + pend.length) (done.map u8 ++ pend.map u8)) (hg2 : w.drew.grownBy w2 v.ownBlock) :
    Blk (w2.setCell ⟨t, 0, none⟩ v') m 78 #[.iface 55 (.pointer (some ⟨t, 0, none⟩)), .slice (some ⟨b, 0, none⟩) z z, .int .i64 (pend.length : Nat)] ∧
    WrSt ((w2.setCell ⟨t, 0, none⟩ v').setCell ⟨m, 2, none⟩ (.int .i64 0)) t b m z (done ++ pend) [] v' ∧ Below t w (w2.setCell ⟨t, 0, none⟩ v') := by
  have htb := h.tb
  have hbm := h.bm
  have hge := own_block_ge h.own
  have hge2 := own_block_ge hown2
  have ne : ∀ k, k < m + 1 → some k ≠ v.ownBlock := fun k hk e => by have := (hge k e.symm).1; omega
  have hW2 : Blk (w2.setCell ⟨t, 0, none⟩ v') m 78 #[.iface 55 (.pointer (some ⟨t, 0, none⟩)), .slice (some ⟨b, 0, none⟩) z z, .int .i64 (pend.length : Nat)] := (Blk.grown (w := w.drew) h.W hg2 (ne m (by omega))).far (by simp; omega) v'
  have hT2 : Blk (w2.setCell ⟨t, 0, none⟩ v') t 53 #[v'] := (Blk.grown (w := w.drew) h.T hg2 (ne t (by omega))).set_ 0 v'
  have hR2 : (w2.setCell ⟨t, 0, none⟩ v').heap[b]? = w.heap[b]? := (Below.heap_setCell w2 _ _ b (by simp; omega)).trans (hg2.block b (by have := h.row.lt; exact this) (ne b (by omega)))
  have hO2 : (w2.setCell ⟨t, 0, none⟩ v').ownsRow (m + 1) 5 1 v' (done.length + pend.length) (done.map u8 ++ pend.map u8) := ownsRow_setCell_below hown2 (show t < _ by omega) _
  refine ⟨hW2, ⟨?_, ?_, ?_, ?_, htb, hbm, h.z1, h.z2⟩, ?_⟩
  · exact hW2.set_ 2 _
  · exact Blk.far hT2 (by simp; omega) _
  · have h3 : (w2.setCell ⟨t, 0, none⟩ v').ownsRow (m + 1) 5 1 v' (done ++ pend).length ((done ++ pend).map u8) := by
      rw [List.length_append, List.map_append]
      exact hO2
    exact ownsRow_setCell_below h3 (show m < _ by omega) _
  · obtain ⟨cur, hb, hs, hl, ht⟩ := h.row
    refine Row.keep (w := w) ⟨cur, hb, hs, by simp, by simp⟩ ?_
    exact (Below.heap_setCell _ _ _ b (by simp; omega)).trans hR2
  · exact (Below.grown (w := w.drew) (B := t) (Below.refl t w).drew hg2 (by have := h.T.lt; show t ≤ w.heap.size; omega) (fun k hk => by have := (hge k hk).1; omega)).setCell (p := ⟨t, 0, none⟩) (Nat.le_refl _) v'
set_option maxRecDepth 100000 in
set_option maxHeartbeats 1600000 in
theorem flush_some (t b m z : Nat) (done pend : List UInt8) (v : Value) (w : World) (h : WrSt w t b m z done pend v) (hp : 0 < pend.length) (hl : done.length + pend.length ≤ 1099511627776) :
    Calls Try.prog 37 #[.pointer (some ⟨m, 0, none⟩)] w fun e w' => ∃ v', e = .returned .nilIface ∧ WrSt w' t b m z (done ++ pend) [] v' ∧ Below t w w' := by
  have hm1 := mWrite t
  have hm2 := mWriteN t
  have c0 : w.cell? ⟨m, 0, none⟩ = some (.iface 55 (.pointer (some ⟨t, 0, none⟩))) := h.W.cell 0
  have c1 : w.cell? ⟨m, 1, none⟩ = some (.slice (some ⟨b, 0, none⟩) z z) := h.W.cell 1
  have c2 : w.cell? ⟨m, 2, none⟩ = some (.int .i64 (pend.length : Nat)) := h.W.cell 2
  have hle := h.ple
  have hz2 := h.z2
  have H := hide h
  have hTW := textWrite (m + 1) t done.length z v (fun x => x = b) (some ⟨b, 0, none⟩) pend (done.map u8) w.drew h.T h.own (by have h2 : RB w (fun x => x = b) (some ⟨b, 0, none⟩) pend := (by have := row_reads h.row (fun x => x = b) rfl; simpa [RB] using this); exact h2) hle (by have := h.tb; have := h.bm; omega) (by have := h.W.lt; show m + 1 ≤ w.heap.size; omega) hl
  have HTW := hide hTW
  obtain ⟨P, hP⟩ : ∃ P, P = pend.length := ⟨_, rfl⟩
  rw [← hP] at c2 hle hp hl HTW
  have hp0 : ((P : Int) == 0) = false := by simp; omega
  have HP := hide hP.symm
  clear h hTW hP
  go_enter Try.func37, Try.ntmps37
  go_wp2_with fail
  go_region_held3 (fun W => W.cell? ⟨m, 0, none⟩ = some (.iface 55 (.pointer (some ⟨t, 0, none⟩))) ∧ W.cell? ⟨m, 1, none⟩ = some (.slice (some ⟨b, 0, none⟩) z z) ∧ W.cell? ⟨m, 2, none⟩ = some (.int .i64 (P : Nat))) (go_keep)
    ((go_at_call 63; go_loud (refine (unhide HTW).mono ?_; rintro e w3 ⟨v', w2, rfl, rfl, hown2, hg2, hat2⟩; rw [← unhide HP] at hown2; have hst3 := flushed (unhide H) hown2 hg2; rw [unhide HP] at hst3; have q0 := hst3.1.cell 0; have q1 := hst3.1.cell 1; have q2 := hst3.1.cell 2; have f2 := hst3.1.frozen 2; have HST3 := hide hst3; simp only [Nat.reduceLT, List.getElem?_toArray, List.getElem?_cons_zero, List.getElem?_cons_succ] at q0 q1 q2; clear hst3 hown2 hg2 hat2)))
  go_wp2
  go_ret
  have h3 := unhide HST3
  have hmt : t ≤ m := by have := (unhide H).tb; have := (unhide H).bm; omega
  exact ⟨v', rfl, h3.2.1, h3.2.2.setCell (p := ⟨m, 2, none⟩) hmt _⟩
set_option maxRecDepth 100000 in
set_option maxHeartbeats 400000 in
theorem flush_none (t b m z : Nat) (done : List UInt8) (v : Value) (w : World) (h : WrSt w t b m z done [] v) :
    Calls Try.prog 37 #[.pointer (some ⟨m, 0, none⟩)] w fun e w' => e = .returned .nilIface ∧ w = w' := by
  have c2 : w.cell? ⟨m, 2, none⟩ = some (.int .i64 0) := h.W.cell 2
  clear h
  go_enter Try.func37, Try.ntmps37
  go_wp2
  go_ret
  exact ⟨rfl, rfl⟩
/-- What a method of the Writer leaves: bs more has been written. -/
def WrPost (t b m z : Nat) (bs : List UInt8) (w : World) (e : Ending) (w' : World) : Prop := ∃ done pend v, e = .returned .nilIface ∧ done ++ pend = bs ∧ WrSt w' t b m z done pend v ∧ Below t w w'
theorem flush_any (t b m z : Nat) (done pend : List UInt8) (v : Value) (w : World) (h : WrSt w t b m z done pend v) (hl : done.length + pend.length ≤ 1099511627776) :
    Calls Try.prog 37 #[.pointer (some ⟨m, 0, none⟩)] w fun e w' => ∃ v', e = .returned .nilIface ∧ WrSt w' t b m z (done ++ pend) [] v' ∧ Below t w w' := by
  rcases pend with _ | ⟨x, xs⟩
  · refine (flush_none t b m z done v w h).mono ?_
    rintro e w' ⟨rfl, rfl⟩
    exact ⟨v, rfl, by simpa using h, Below.refl _ _⟩
  · exact flush_some t b m z done (x :: xs) v w h (by simp) hl
theorem Flush_any (t b m z : Nat) (done pend : List UInt8) (v : Value) (w : World) (h : WrSt w t b m z done pend v) (hl : done.length + pend.length ≤ 1099511627776) :
    Calls Try.prog 24 #[.pointer (some ⟨m, 0, none⟩)] w fun e w' => ∃ v', e = .returned .nilIface ∧ WrSt w' t b m z (done ++ pend) [] v' ∧ Below t w w' := by
  have hF := flush_any t b m z done pend v w h hl
  have HF := hide hF
  clear hF h
  go_enter Try.func24, Try.ntmps24
  go_wp2_with (go_at_call 37; refine (unhide HF).mono ?_; rintro e w1 ⟨v1, rfl, h1, hb1⟩; have H1 := hide h1; clear h1)
  go_ret
  exact ⟨v1, rfl, unhide H1, hb1⟩
end Go.Proofs.Ytapkehellkdkjaa
