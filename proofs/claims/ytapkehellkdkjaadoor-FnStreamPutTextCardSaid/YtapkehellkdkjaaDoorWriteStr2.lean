/-
  msgp.Writer's writeString, WriteString and the closure of impl.StreamPutText. Conditions: at most 2^40 bytes are written.
-/
import Derived.Test.YtapkehellkdkjaaDoorWriteStr
import Derived.StillTailTactics
namespace Go.Proofs.YtapkehellkdkjaaDoor
set_option linter.unusedSimpArgs false
set_option linter.unusedVariables false
set_option linter.unusedVariables false
open Go.RowKit
/-- What the Writer's count holds. -/
def wl (m : Nat) (w : World) : Int := match w.cell? ⟨m, 2, none⟩ with
  | some (.int _ x) => x
  | _ => 0
theorem WrSt.direct {w w2 : World} {t b m z : Nat} {done : List UInt8} {v v' : Value} (s : List UInt8) (h : WrSt w t b m z done [] v) (hown2 : w2.ownsRow (m + 1) 5 1 v' (done.length + s.length) (done.map u8 ++ s.map u8)) (hg2 : w.grownBy w2 v.ownBlock) :
    WrSt (w2.setCell ⟨t, 0, none⟩ v') t b m z (done ++ s) [] v' ∧ Below t w (w2.setCell ⟨t, 0, none⟩ v') := by
  have htb := h.tb
  have hbm := h.bm
  have hge := own_block_ge h.own
  have ne : ∀ k, k < m + 1 → some k ≠ v.ownBlock := fun k hk e => by have := (hge k e.symm).1; omega
  have hR2 : (w2.setCell ⟨t, 0, none⟩ v').heap[b]? = w.heap[b]? := (Below.heap_setCell w2 _ _ b (by simp; omega)).trans (hg2.block b (by have := h.row.lt; exact this) (ne b (by omega)))
  refine ⟨⟨(h.W.grown hg2 (ne m (by omega))).far (by simp; omega) v', (h.T.grown hg2 (ne t (by omega))).set_ 0 v', ?_, h.row.keep hR2, htb, hbm, h.z1, h.z2⟩, ?_⟩
  · rw [List.length_append, List.map_append]
    exact ownsRow_setCell_below hown2 (show t < _ by omega) _
  · exact (Below.grown (B := t) (Below.refl t w) hg2 (by have := h.T.lt; omega) (fun k hk => by have := (hge k hk).1; omega)).setCell (p := ⟨t, 0, none⟩) (Nat.le_refl _) v'
set_option maxRecDepth 100000 in
set_option maxHeartbeats 3200000 in
theorem writeStr_room (t b m z : Nat) (done pend : List UInt8) (v : Value) (s : List UInt8) (w : World) (h : WrSt w t b m z done pend v) (hl : done.length + pend.length + s.length ≤ 1099511627776) (hx : pend.length + s.length ≤ z) (hx2 : pend.length < z) :
    Calls Tryd.prog 20 #[.pointer (some ⟨m, 0, none⟩), .string ⟨s.toArray⟩] w (WrPost t b m z (done ++ pend ++ s) w) := by
  have hz1 := h.z1
  have hz2 := h.z2
  have hle := h.ple
  have htb := h.tb
  have hbm := h.bm
  have hsz : (⟨s.toArray⟩ : ByteArray).size = s.length := by simp [ByteArray.size]
  have hAv := avail_any t b m z done pend v w h
  obtain ⟨P, hP⟩ : ∃ P, P = pend.length := ⟨_, rfl⟩
  have c0 : w.cell? ⟨m, 0, none⟩ = some (.iface 46 (.pointer (some ⟨t, 0, none⟩))) := h.W.cell 0
  have c1 : w.cell? ⟨m, 1, none⟩ = some (.slice (some ⟨b, 0, none⟩) z z) := h.W.cell 1
  have c2 : w.cell? ⟨m, 2, none⟩ = some (.int .i64 (pend.length : Nat)) := h.W.cell 2
  have f2 : w.frozen? ⟨m, 2, none⟩ = false := h.W.frozen 2
  have zm := h.W.lt
  rw [← hP] at c2 hle hx hAv hx2
  have H := hide h
  have HP := hide hP
  have HA := hide hAv
  have hx3 : ¬ (z : Int) - (P : Int) < (s.length : Nat) := by omega
  clear h hP hAv
  go_enter Tryd.func20, Tryd.ntmps20
  go_wp2_with (go_at_call 29; go_loud (refine (unhide HA).mono ?_; rintro e w1 ⟨rfl, rfl⟩))
  have hst0 := unhide H
  have hPn := unhide HP
  have hrow0 : Hid (Row w 5 b z ((pend : List UInt8).map u8)) := hst0.row
  have hpn : ((pend : List UInt8).map u8).length = P := by simp; exact hPn.symm
  have HPN := hide hpn
  clear hst0 hPn hpn
  have hz0 : (0 : Int) ≤ (P : Nat) := by omega
  have hz3 : ((P : Nat) : Int) ≤ (z : Int) := by omega
  have hcut : cutA (some ⟨b, 0, none⟩) z P 1 = some ⟨b, P, none⟩ := cutA_at b z P (by omega)
  have hwr : IntKind.i64.wrap ((P : Int) + (s.length : Nat)) = (P : Int) + (s.length : Nat) := IntWalk.i64_in _ (by omega)
  go_region_law ((have HH0 := unhide H; (refine step_copy_str rfl (.tmp 49) (.tmp 50) _ _ (by rfl) Tryd.underlying24 b P (z - P) (z - P) s (by rfl) (by rfl) _ z (by have h := hrow0; exact h) (unhide HPN) (by omega) (by omega) ?_); intro w5 hrow5 hg5; have hst5 := WrSt.wrote (h := (by first | exact HH0 | exact HH0.drew | exact HH0.drew.drew)) s (unhide hrow5) (unhide hg5); have q1 : w5.cell? ⟨m, 1, none⟩ = some (.slice (some ⟨b, 0, none⟩) z z) := hst5.1.cell 1; have q2 : w5.cell? ⟨m, 2, none⟩ = some (.int .i64 (P : Nat)) := (by rw [unhide HP]; exact hst5.1.cell 2); have q3 := hst5.1.frozen 2; have q4 := hst5.1.lt; have H5 := hide hst5.2; clear hst5 hrow5 hg5))
  all_goals (
    go_wp2
    go_ret
    have hP := unhide HP
    have h3 := unhide H5 ((P : Int) + s.length) (by simp [hP])
    exact ⟨done, pend ++ s, v, rfl, by simp, (by first | exact h3.1 | exact h3.1.drew | exact h3.1.drew.drew | exact h3.1.drew.drew.drew), (by first | exact h3.2 | exact h3.2.drew | exact h3.2.drew.drew | exact h3.2.drew.drew.drew | exact (Below.refl _ _).drew.trans h3.2 | exact (Below.refl _ _).drew.trans h3.2.drew | exact (Below.refl _ _).drew.drew.trans h3.2 | exact (Below.refl _ _).drew.drew.trans h3.2.drew)⟩)
set_option maxRecDepth 100000 in
set_option maxHeartbeats 3200000 in
theorem writeStr_fit (t b m z : Nat) (done pend : List UInt8) (v : Value) (s : List UInt8) (w : World) (h : WrSt w t b m z done pend v) (hl : done.length + pend.length + s.length ≤ 1099511627776) (hx : z - pend.length < s.length) (hx2 : s.length ≤ z) :
    Calls Tryd.prog 20 #[.pointer (some ⟨m, 0, none⟩), .string ⟨s.toArray⟩] w (WrPost t b m z (done ++ pend ++ s) w) := by
  have hz1 := h.z1
  have hz2 := h.z2
  have hle := h.ple
  have htb := h.tb
  have hbm := h.bm
  have hsz : (⟨s.toArray⟩ : ByteArray).size = s.length := by simp [ByteArray.size]
  have hAv := avail_any t b m z done pend v w h
  obtain ⟨P, hP⟩ : ∃ P, P = pend.length := ⟨_, rfl⟩
  have c0 : w.cell? ⟨m, 0, none⟩ = some (.iface 46 (.pointer (some ⟨t, 0, none⟩))) := h.W.cell 0
  have c1 : w.cell? ⟨m, 1, none⟩ = some (.slice (some ⟨b, 0, none⟩) z z) := h.W.cell 1
  have c2 : w.cell? ⟨m, 2, none⟩ = some (.int .i64 (pend.length : Nat)) := h.W.cell 2
  have f2 : w.frozen? ⟨m, 2, none⟩ = false := h.W.frozen 2
  have zm := h.W.lt
  have hF := fun W hW => flush_any t b m z done pend v W hW (by omega)
  rw [← hP] at c2 hle hx hAv
  have H := hide h
  have HP := hide hP
  have HA := hide hAv
  have HF := hide hF
  have hx3 : (z : Int) - (P : Int) < (s.length : Nat) := by omega
  clear h hP hAv hF
  go_enter Tryd.func20, Tryd.ntmps20
  go_wp2_with (go_at_call 29; go_loud (refine (unhide HA).mono ?_; rintro e w1 ⟨rfl, rfl⟩))
  refine (unhide HF _ (unhide H).drew).mono ?_
  rintro e w1 ⟨v1, rfl, h1, hb1'⟩
  have hb1 : Below t w w1 := (Below.refl t w).drew.trans hb1'
  clear c0 c1 c2 f2 zm
  have c0 : w1.cell? ⟨m, 0, none⟩ = some (.iface 46 (.pointer (some ⟨t, 0, none⟩))) := h1.W.cell 0
  have c1 : w1.cell? ⟨m, 1, none⟩ = some (.slice (some ⟨b, 0, none⟩) z z) := h1.W.cell 1
  have c2 : w1.cell? ⟨m, 2, none⟩ = some (.int .i64 0) := h1.W.cell 2
  have f2 : w1.frozen? ⟨m, 2, none⟩ = false := h1.W.frozen 2
  have zm := h1.W.lt
  have H1 := hide h1
  have HB1 := hide hb1
  clear h1 hb1 hb1'
  have hx4 : ¬ (z : Int) < (s.length : Nat) := by omega
  go_wp2
  have hst0 := unhide H1
  have hPn := unhide HP
  have hrow0 : Hid (Row w1 5 b z (([] : List UInt8).map u8)) := hst0.row
  have hpn : (([] : List UInt8).map u8).length = 0 := by simp
  have HPN := hide hpn
  clear hst0 hPn hpn
  have hz0 : (0 : Int) ≤ (0 : Nat) := by omega
  have hz3 : ((0 : Nat) : Int) ≤ (z : Int) := by omega
  have hwr : IntKind.i64.wrap (((s.length : Nat) : Int)) = ((s.length : Nat) : Int) := IntWalk.i64_in _ (by omega)
  go_region_law ((have HH0 := unhide H1; (refine step_copy_str rfl (.tmp 49) (.tmp 50) _ _ (by rfl) Tryd.underlying24 b 0 (z - 0) (z - 0) s (by rfl) (by rfl) _ z (by have h := hrow0; exact h) (unhide HPN) (by omega) (by omega) ?_); intro w5 hrow5 hg5; have hst5 := WrSt.wrote (h := (by first | exact HH0 | exact HH0.drew | exact HH0.drew.drew)) s (unhide hrow5) (unhide hg5); have q1 : w5.cell? ⟨m, 1, none⟩ = some (.slice (some ⟨b, 0, none⟩) z z) := hst5.1.cell 1; have q2 : w5.cell? ⟨m, 2, none⟩ = some (.int .i64 0) := (hst5.1.cell 2); have q3 := hst5.1.frozen 2; have q4 := hst5.1.lt; have H5 := hide hst5.2; clear hst5 hrow5 hg5))
  all_goals (
    go_wp2
    go_ret
    have hP := unhide HP
    have h3 := unhide H5 ((s.length : Nat)) (by simp)
    exact ⟨done ++ pend, s, v1, rfl, rfl, (by first | exact h3.1 | exact h3.1.drew | exact h3.1.drew.drew | exact h3.1.drew.drew.drew), (unhide HB1).trans (by first | exact h3.2 | exact h3.2.drew | exact h3.2.drew.drew | exact h3.2.drew.drew.drew | exact (Below.refl _ _).drew.trans h3.2 | exact (Below.refl _ _).drew.trans h3.2.drew | exact (Below.refl _ _).drew.drew.trans h3.2 | exact (Below.refl _ _).drew.drew.trans h3.2.drew)⟩)
set_option maxRecDepth 100000 in
set_option maxHeartbeats 3200000 in
theorem writeStr_big (t b m z : Nat) (done pend : List UInt8) (v : Value) (s : List UInt8) (w : World) (h : WrSt w t b m z done pend v) (hl : done.length + pend.length + s.length ≤ 1099511627776) (hx : z - pend.length < s.length) (hx2 : z < s.length) :
    Calls Tryd.prog 20 #[.pointer (some ⟨m, 0, none⟩), .string ⟨s.toArray⟩] w (WrPost t b m z (done ++ pend ++ s) w) := by
  have hz1 := h.z1
  have hz2 := h.z2
  have hle := h.ple
  have htb := h.tb
  have hbm := h.bm
  have hsz : (⟨s.toArray⟩ : ByteArray).size = s.length := by simp [ByteArray.size]
  have hAv := avail_any t b m z done pend v w h
  obtain ⟨P, hP⟩ : ∃ P, P = pend.length := ⟨_, rfl⟩
  have c0 : w.cell? ⟨m, 0, none⟩ = some (.iface 46 (.pointer (some ⟨t, 0, none⟩))) := h.W.cell 0
  have c1 : w.cell? ⟨m, 1, none⟩ = some (.slice (some ⟨b, 0, none⟩) z z) := h.W.cell 1
  have c2 : w.cell? ⟨m, 2, none⟩ = some (.int .i64 (pend.length : Nat)) := h.W.cell 2
  have f2 : w.frozen? ⟨m, 2, none⟩ = false := h.W.frozen 2
  have zm := h.W.lt
  have hF := fun W hW => flush_any t b m z done pend v W hW (by omega)
  rw [← hP] at c2 hle hx hAv
  have H := hide h
  have HP := hide hP
  have HA := hide hAv
  have HF := hide hF
  have hx3 : (z : Int) - (P : Int) < (s.length : Nat) := by omega
  clear h hP hAv hF
  go_enter Tryd.func20, Tryd.ntmps20
  go_wp2_with (go_at_call 29; go_loud (refine (unhide HA).mono ?_; rintro e w1 ⟨rfl, rfl⟩))
  refine (unhide HF _ (unhide H).drew).mono ?_
  rintro e w1 ⟨v1, rfl, h1, hb1'⟩
  have hb1 : Below t w w1 := (Below.refl t w).drew.trans hb1'
  clear c0 c1 c2 f2 zm
  have c0 : w1.cell? ⟨m, 0, none⟩ = some (.iface 46 (.pointer (some ⟨t, 0, none⟩))) := h1.W.cell 0
  have c1 : w1.cell? ⟨m, 1, none⟩ = some (.slice (some ⟨b, 0, none⟩) z z) := h1.W.cell 1
  have c2 : w1.cell? ⟨m, 2, none⟩ = some (.int .i64 0) := h1.W.cell 2
  have f2 : w1.frozen? ⟨m, 2, none⟩ = false := h1.W.frozen 2
  have zm := h1.W.lt
  have H1 := hide h1
  have HB1 := hide hb1
  clear h1 hb1 hb1'
  have hx4 : (z : Int) < (s.length : Nat) := by omega
  have hIO := ioWriteString (m + 1) t (done ++ pend).length v1 s ((done ++ pend).map u8) w1 (unhide H1).T (unhide H1).own (by omega) (by omega) (by rw [List.length_append]; omega)
  have HIO := hide hIO
  clear hIO
  go_wp2_with (go_at_call 30; go_loud (refine (unhide HIO).mono ?_; rintro e w3 ⟨v', w2, rfl, rfl, hown2, hg2⟩; have HST := hide ((unhide H1).direct s hown2 hg2); clear hown2 hg2))
  go_ret
  have h3 := unhide HST
  exact ⟨done ++ pend ++ s, [], v', rfl, by simp, h3.1, (unhide HB1).trans h3.2⟩
set_option maxRecDepth 100000 in
set_option maxHeartbeats 3200000 in
theorem writeStr_none (t b m z : Nat) (done pend : List UInt8) (v : Value) (w : World) (h : WrSt w t b m z done pend v) (hl : done.length + pend.length ≤ 1099511627776) (hx : z ≤ pend.length) :
    Calls Tryd.prog 20 #[.pointer (some ⟨m, 0, none⟩), .string ⟨#[]⟩] w (WrPost t b m z (done ++ pend ++ []) w) := by
  have hz1 := h.z1
  have hz2 := h.z2
  have hle := h.ple
  have htb := h.tb
  have hbm := h.bm
  have hAv := avail_any t b m z done pend v w h
  obtain ⟨P, hP⟩ : ∃ P, P = pend.length := ⟨_, rfl⟩
  have c0 : w.cell? ⟨m, 0, none⟩ = some (.iface 46 (.pointer (some ⟨t, 0, none⟩))) := h.W.cell 0
  have c1 : w.cell? ⟨m, 1, none⟩ = some (.slice (some ⟨b, 0, none⟩) z z) := h.W.cell 1
  have c2 : w.cell? ⟨m, 2, none⟩ = some (.int .i64 (pend.length : Nat)) := h.W.cell 2
  have f2 : w.frozen? ⟨m, 2, none⟩ = false := h.W.frozen 2
  have zm := h.W.lt
  rw [← hP] at c2 hle hx hAv
  have H := hide h
  have HP := hide hP
  have HA := hide hAv
  have hx3 : ¬ (z : Int) - (P : Int) < 0 := by omega
  have hPz : z = P := by omega
  clear h hP hAv
  subst hPz
  have hcut : cutA (some ⟨b, 0, none⟩) z z 1 = some ⟨b, 0, none⟩ := by unfold cutA; rw [if_pos rfl]
  have hz0 : (0 : Int) ≤ (z : Nat) := by omega
  have hwr : IntKind.i64.wrap ((z : Nat) : Int) = ((z : Nat) : Int) := IntWalk.i64_in _ (by omega)
  go_enter Tryd.func20, Tryd.ntmps20
  go_wp2_with (go_at_call 29; go_loud (refine (unhide HA).mono ?_; rintro e w1 ⟨rfl, rfl⟩))
  go_region_law ((refine step_copy_str0 rfl (.tmp 49) (.tmp 50) _ _ (by rfl) Tryd.underlying24 (some ⟨b, 0, none⟩) 0 0 ⟨#[]⟩ (by rfl) (by rfl) rfl ?_))
  all_goals (
    go_wp2
    go_ret
    have hP := unhide HP
    have hst := unhide H
    have h3 := (hst.wrote [] (by simpa using hst.row) (World.grownBy.refl w _)).2 (z : Int) (by simp [hP])
    exact ⟨done, pend ++ [], v, rfl, by simp, (by first | exact h3.1 | exact h3.1.drew | exact h3.1.drew.drew | exact h3.1.drew.drew.drew), (by first | exact h3.2 | exact h3.2.drew | exact h3.2.drew.drew | exact h3.2.drew.drew.drew | exact (Below.refl _ _).drew.trans h3.2 | exact (Below.refl _ _).drew.trans h3.2.drew | exact (Below.refl _ _).drew.drew.trans h3.2 | exact (Below.refl _ _).drew.drew.trans h3.2.drew)⟩)
end Go.Proofs.YtapkehellkdkjaaDoor
