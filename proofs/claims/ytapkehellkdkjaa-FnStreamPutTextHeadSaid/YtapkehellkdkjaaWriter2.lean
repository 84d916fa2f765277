/-
  msgp.Writer's push, prefix8, prefix16, prefix32, prefix64. Conditions: at most 2^40 bytes are written.
-/
import Derived.Test.YtapkehellkdkjaaWriter
namespace Go.Proofs.Ytapkehellkdkjaa
set_option linter.unusedSimpArgs false
set_option linter.unusedVariables false
set_option linter.unusedVariables false
open Go.RowKit
theorem WrSt.wrote {w w1 : World} {t b m z : Nat} {done pend : List UInt8} {v : Value} (h : WrSt w t b m z done pend v) (bs : List UInt8) (hrow : Row w1 5 b z (pend.map u8 ++ bs.map u8)) (hg : w.grownBy w1 (some b)) :
    Blk w1 m 78 #[.iface 55 (.pointer (some ⟨t, 0, none⟩)), .slice (some ⟨b, 0, none⟩) z z, .int .i64 (pend.length : Nat)] ∧
    (∀ x : Int, x = ((pend ++ bs).length : Nat) → WrSt (w1.setCell ⟨m, 2, none⟩ (.int .i64 x)) t b m z done (pend ++ bs) v ∧ Below t w (w1.setCell ⟨m, 2, none⟩ (.int .i64 x))) := by
  have htb := h.tb
  have hbm := h.bm
  have hge := own_block_ge h.own
  have hW1 := h.W.grown hg (fun e => by injection e with e; omega)
  have hT1 := h.T.grown hg (fun e => by injection e with e; omega)
  have hO1 : w1.ownsRow (m + 1) 5 1 v done.length (done.map u8) := h.own.kept hg (by
    rcases hk : v.ownBlock with _ | k
    · exact .inl rfl
    · right
      intro e
      injection e with e
      have := (hge k hk).1
      omega)
  refine ⟨hW1, fun x hx => ?_⟩
  subst hx
  refine ⟨⟨hW1.set_ 2 _, hT1.far (by simp; omega) _, ownsRow_setCell_below hO1 (show m < _ by omega) _, ?_, htb, hbm, h.z1, h.z2⟩, ?_⟩
  · rw [List.map_append]
    exact hrow.keep (Below.heap_setCell _ _ _ b (by simp; omega))
  · exact (Below.grown (B := t) (Below.refl t w) hg (by have := h.T.lt; omega) (fun k hk => by injection hk with hk; omega)).setCell (p := ⟨m, 2, none⟩) (by simp; omega) _
theorem WrSt.drew {w : World} {t b m z : Nat} {done pend : List UInt8} {v : Value} (h : WrSt w t b m z done pend v) : WrSt w.drew t b m z done pend v := ⟨h.W, h.T, h.own, h.row, h.tb, h.bm, h.z1, h.z2⟩
theorem WrSt.quiet {w w' : World} {t b m z : Nat} {done pend : List UInt8} {v : Value} (hq : Quiet w w') (h : WrSt w t b m z done pend v) : WrSt w' t b m z done pend v := by
  obtain ⟨n, rfl⟩ := hq
  exact ⟨h.W, h.T, h.own, h.row, h.tb, h.bm, h.z1, h.z2⟩
set_option maxRecDepth 100000 in
set_option maxHeartbeats 3200000 in
theorem push_room (t b m z : Nat) (done pend : List UInt8) (v : Value) (x : UInt8) (w : World) (h : WrSt w t b m z done pend v) (hl : done.length + pend.length ≤ 1099511627776) (hx : pend.length + 1 ≤ z) :
    Calls Try.prog 25 #[.pointer (some ⟨m, 0, none⟩), .int .u8 (x.toNat : Nat)] w (WrPost t b m z (done ++ pend ++ [x]) w) := by
  have hz1 := h.z1
  have hz2 := h.z2
  have hle := h.ple
  have htb := h.tb
  have hbm := h.bm
  obtain ⟨P, hP⟩ : ∃ P, P = pend.length := ⟨_, rfl⟩
  have c1 : w.cell? ⟨m, 1, none⟩ = some (.slice (some ⟨b, 0, none⟩) z z) := h.W.cell 1
  have c2 : w.cell? ⟨m, 2, none⟩ = some (.int .i64 (pend.length : Nat)) := h.W.cell 2
  have f2 : w.frozen? ⟨m, 2, none⟩ = false := h.W.frozen 2
  have zm := h.W.lt
  rw [← hP] at c2 hle hx
  have H := hide h
  have HP := hide hP
  have hx2 : ((P : Int) == (z : Int)) = false := by simp; omega
  obtain ⟨y, hy⟩ := h.row.cell (n := P) (by omega)
  have fy := h.row.frozen P
  clear h hP
  go_enter Try.func25, Try.ntmps25
  go_wp2
  go_region
  go_wp2
  go_region
  go_wp2
  go_ret
  have hst := unhide H
  have hP := unhide HP
  have hrow : Row (w.setCell ⟨b, P, none⟩ (.int .u8 x.toNat)) 5 b z ((pend : List UInt8).map u8 ++ [x].map u8) := hst.row.push (by simp; omega) (by omega) _
  have h3 := (hst.wrote [x] hrow (grown_setCell (World.grownBy.refl w _) _ _)).2 ((P : Int) + 1) (by rw [hP]; simp)
  exact ⟨done, pend ++ [x], v, rfl, by simp, (by first | exact h3.1 | exact h3.1.drew | exact h3.1.drew.drew | exact h3.1.drew.drew.drew), (by first | exact h3.2 | exact h3.2.drew | exact h3.2.drew.drew | exact h3.2.drew.drew.drew | exact (Below.refl _ _).drew.trans h3.2 | exact (Below.refl _ _).drew.trans h3.2.drew | exact (Below.refl _ _).drew.drew.trans h3.2 | exact (Below.refl _ _).drew.drew.trans h3.2.drew)⟩
set_option maxRecDepth 100000 in
set_option maxHeartbeats 3200000 in
theorem push_full (t b m z : Nat) (done pend : List UInt8) (v : Value) (x : UInt8) (w : World) (h : WrSt w t b m z done pend v) (hl : done.length + pend.length ≤ 1099511627776) (hx : (z : Int) - (pend.length : Nat) < 1) :
    Calls Try.prog 25 #[.pointer (some ⟨m, 0, none⟩), .int .u8 (x.toNat : Nat)] w (WrPost t b m z (done ++ pend ++ [x]) w) := by
  have hz1 := h.z1
  have hz2 := h.z2
  have hle := h.ple
  have htb := h.tb
  have hbm := h.bm
  obtain ⟨P, hP⟩ : ∃ P, P = pend.length := ⟨_, rfl⟩
  have c1 : w.cell? ⟨m, 1, none⟩ = some (.slice (some ⟨b, 0, none⟩) z z) := h.W.cell 1
  have c2 : w.cell? ⟨m, 2, none⟩ = some (.int .i64 (pend.length : Nat)) := h.W.cell 2
  have f2 : w.frozen? ⟨m, 2, none⟩ = false := h.W.frozen 2
  have zm := h.W.lt
  rw [← hP] at c2 hle hx
  have H := hide h
  have hF := flush_any t b m z done pend v
  have HF := hide hF
  have HP := hide hP
  clear hF h hP
  have hx2 : (P : Int) = (z : Int) := by omega
  go_enter Try.func25, Try.ntmps25
  go_wp2
  go_region
  go_wp2_with fail
  refine (unhide HF _ (unhide H).drew (hl)).mono ?_
  rintro e w1 ⟨v1, rfl, h1, hb1'⟩
  have hb1 : Below t w w1 := (Below.refl t w).drew.trans hb1'
  clear c1 c2 f2 zm
  have c1 : w1.cell? ⟨m, 1, none⟩ = some (.slice (some ⟨b, 0, none⟩) z z) := h1.W.cell 1
  have c2 : w1.cell? ⟨m, 2, none⟩ = some (.int .i64 0) := h1.W.cell 2
  have f2 : w1.frozen? ⟨m, 2, none⟩ = false := h1.W.frozen 2
  have zm := h1.W.lt
  obtain ⟨y, hy⟩ := h1.row.cell (n := 0) (by omega)
  have fy := h1.row.frozen 0
  have H1 := hide h1
  have HB1 := hide hb1
  clear h1 hb1
  go_wp2
  go_region
  go_wp2
  go_ret
  have hst := unhide H1
  have hrow : Row (w1.setCell ⟨b, 0, none⟩ (.int .u8 x.toNat)) 5 b z (([] : List UInt8).map u8 ++ [x].map u8) := hst.row.push (by simp) (by omega) _
  have h3 := (hst.wrote [x] hrow (grown_setCell (World.grownBy.refl w1 _) _ _)).2 (1) (by rfl)
  exact ⟨done ++ pend, [x], v1, rfl, rfl, (by first | exact h3.1 | exact h3.1.drew | exact h3.1.drew.drew | exact h3.1.drew.drew.drew), (unhide HB1).trans (by first | exact h3.2 | exact h3.2.drew | exact h3.2.drew.drew | exact h3.2.drew.drew.drew | exact (Below.refl _ _).drew.trans h3.2 | exact (Below.refl _ _).drew.trans h3.2.drew | exact (Below.refl _ _).drew.drew.trans h3.2 | exact (Below.refl _ _).drew.drew.trans h3.2.drew)⟩
set_option maxRecDepth 100000 in
set_option maxHeartbeats 3200000 in
theorem prefix8_room (t b m z : Nat) (done pend : List UInt8) (v : Value) (p : UInt8) (x : Int) (_hx1 : 0 ≤ x) (_hx2 : x ≤ 255) (w : World) (h : WrSt w t b m z done pend v) (hl : done.length + pend.length ≤ 1099511627776) (hx : pend.length + 2 ≤ z) :
    Calls Try.prog 27 #[.pointer (some ⟨m, 0, none⟩), .int .u8 (p.toNat : Nat), .int .u8 x] w (WrPost t b m z (done ++ pend ++ (p :: be x 1)) w) := by
  have hz1 := h.z1
  have hz2 := h.z2
  have hle := h.ple
  have htb := h.tb
  have hbm := h.bm
  obtain ⟨P, hP⟩ : ∃ P, P = pend.length := ⟨_, rfl⟩
  have c1 : w.cell? ⟨m, 1, none⟩ = some (.slice (some ⟨b, 0, none⟩) z z) := h.W.cell 1
  have c2 : w.cell? ⟨m, 2, none⟩ = some (.int .i64 (pend.length : Nat)) := h.W.cell 2
  have f2 : w.frozen? ⟨m, 2, none⟩ = false := h.W.frozen 2
  have zm := h.W.lt
  rw [← hP] at c2 hle hx
  have H := hide h
  have HP := hide hP
  have hx2 : ¬ (z : Int) - (P : Int) < 2 := by omega
  clear h hP
  go_enter Try.func27, Try.ntmps27
  go_wp2
  go_region
  go_wp2
  have hcut : cutA (some ⟨b, 0, none⟩) z P 1 = some ⟨b, P, none⟩ := cutA_at b z P (by omega)
  have hst0 := unhide H
  have hPn := unhide HP
  have hrow0 : Hid (Row w 5 b z ((pend : List UInt8).map u8)) := hst0.row
  have hpn : ((pend : List UInt8).map u8).length = P := by simp; exact hPn.symm
  have HPN := hide hpn
  clear hst0 hPn hpn
  have hz0 : (0 : Int) ≤ (P : Nat) := by omega
  have hz3 : ((P : Nat) : Int) ≤ (z : Int) := by omega
  go_region_held3 (fun V => V.cell? ⟨m, 1, none⟩ = some (.slice (some ⟨b, 0, none⟩) z z) ∧ V.cell? ⟨m, 2, none⟩ = some (.int .i64 (P : Nat))) (go_keep)
    ((go_at_call 38; have HH0 := unhide H; go_loud (refine (w_prefixu8 p p.toNat rfl b P z (z - P) _ x _hx1 _hx2 _ _ (by have h := hrow0; exact h) (unhide HPN) (by omega) (by omega) (by omega)).mono ?_; rintro e w5 ⟨rfl, hrow5, hg5, hsz5⟩; have hst5 := WrSt.wrote (h := (by first | exact HH0 | exact HH0.drew | exact HH0.drew.drew)) (p :: be x 1) hrow5 hg5; have q1 : w5.cell? ⟨m, 1, none⟩ = some (.slice (some ⟨b, 0, none⟩) z z) := hst5.1.cell 1; have q2 : w5.cell? ⟨m, 2, none⟩ = some (.int .i64 (P : Nat)) := (by rw [unhide HP]; exact hst5.1.cell 2); have q3 := hst5.1.frozen 2; have q4 := hst5.1.lt; have H5 := hide hst5.2; clear hst5 hrow5 hg5)))
  all_goals (
    go_wp2
    go_ret
    have hP := unhide HP
    have h3 := unhide H5 ((P : Int) + 2) (by simp [be, hP]; try omega)
    exact ⟨done, pend ++ (p :: be x 1), v, rfl, by simp, (by first | exact h3.1 | exact h3.1.drew | exact h3.1.drew.drew | exact h3.1.drew.drew.drew), (by first | exact h3.2 | exact h3.2.drew | exact h3.2.drew.drew | exact h3.2.drew.drew.drew | exact (Below.refl _ _).drew.trans h3.2 | exact (Below.refl _ _).drew.trans h3.2.drew | exact (Below.refl _ _).drew.drew.trans h3.2 | exact (Below.refl _ _).drew.drew.trans h3.2.drew)⟩)
set_option maxRecDepth 100000 in
set_option maxHeartbeats 3200000 in
theorem prefix8_full (t b m z : Nat) (done pend : List UInt8) (v : Value) (p : UInt8) (x : Int) (_hx1 : 0 ≤ x) (_hx2 : x ≤ 255) (w : World) (h : WrSt w t b m z done pend v) (hl : done.length + pend.length ≤ 1099511627776) (hx : (z : Int) - (pend.length : Nat) < 2) :
    Calls Try.prog 27 #[.pointer (some ⟨m, 0, none⟩), .int .u8 (p.toNat : Nat), .int .u8 x] w (WrPost t b m z (done ++ pend ++ (p :: be x 1)) w) := by
  have hz1 := h.z1
  have hz2 := h.z2
  have hle := h.ple
  have htb := h.tb
  have hbm := h.bm
  obtain ⟨P, hP⟩ : ∃ P, P = pend.length := ⟨_, rfl⟩
  have c1 : w.cell? ⟨m, 1, none⟩ = some (.slice (some ⟨b, 0, none⟩) z z) := h.W.cell 1
  have c2 : w.cell? ⟨m, 2, none⟩ = some (.int .i64 (pend.length : Nat)) := h.W.cell 2
  have f2 : w.frozen? ⟨m, 2, none⟩ = false := h.W.frozen 2
  have zm := h.W.lt
  rw [← hP] at c2 hle hx
  have H := hide h
  have hF := flush_any t b m z done pend v
  have HF := hide hF
  have HP := hide hP
  clear hF h hP
  go_enter Try.func27, Try.ntmps27
  go_wp2
  go_region
  go_wp2_with fail
  refine (unhide HF _ (unhide H).drew (hl)).mono ?_
  rintro e w1 ⟨v1, rfl, h1, hb1'⟩
  have hb1 : Below t w w1 := (Below.refl t w).drew.trans hb1'
  clear c1 c2 f2 zm
  have c1 : w1.cell? ⟨m, 1, none⟩ = some (.slice (some ⟨b, 0, none⟩) z z) := h1.W.cell 1
  have c2 : w1.cell? ⟨m, 2, none⟩ = some (.int .i64 0) := h1.W.cell 2
  have f2 : w1.frozen? ⟨m, 2, none⟩ = false := h1.W.frozen 2
  have zm := h1.W.lt
  have H1 := hide h1
  have HB1 := hide hb1
  clear h1 hb1
  go_wp2
  have hst0 := unhide H1
  have hPn := unhide HP
  have hrow0 : Hid (Row w1 5 b z (([] : List UInt8).map u8)) := hst0.row
  have hpn : (([] : List UInt8).map u8).length = 0 := by simp
  have HPN := hide hpn
  clear hst0 hPn hpn
  have hz0 : (0 : Int) ≤ (0 : Nat) := by omega
  have hz3 : ((0 : Nat) : Int) ≤ (z : Int) := by omega
  go_region_held3 (fun V => V.cell? ⟨m, 1, none⟩ = some (.slice (some ⟨b, 0, none⟩) z z) ∧ V.cell? ⟨m, 2, none⟩ = some (.int .i64 0)) (go_keep)
    ((go_at_call 38; have HH0 := unhide H1; go_loud (refine (w_prefixu8 p p.toNat rfl b 0 z (z - 0) _ x _hx1 _hx2 _ _ (by have h := hrow0; exact h) (unhide HPN) (by omega) (by omega) (by omega)).mono ?_; rintro e w5 ⟨rfl, hrow5, hg5, hsz5⟩; have hst5 := WrSt.wrote (h := (by first | exact HH0 | exact HH0.drew | exact HH0.drew.drew)) (p :: be x 1) hrow5 hg5; have q1 : w5.cell? ⟨m, 1, none⟩ = some (.slice (some ⟨b, 0, none⟩) z z) := hst5.1.cell 1; have q2 : w5.cell? ⟨m, 2, none⟩ = some (.int .i64 0) := hst5.1.cell 2; have q3 := hst5.1.frozen 2; have q4 := hst5.1.lt; have H5 := hide hst5.2; clear hst5 hrow5 hg5)))
  all_goals (
    go_wp2
    go_ret
    have hP := unhide HP
    have h3 := unhide H5 (2) (by simp [be])
    exact ⟨done ++ pend, (p :: be x 1), v1, rfl, rfl, (by first | exact h3.1 | exact h3.1.drew | exact h3.1.drew.drew | exact h3.1.drew.drew.drew), (unhide HB1).trans (by first | exact h3.2 | exact h3.2.drew | exact h3.2.drew.drew | exact h3.2.drew.drew.drew | exact (Below.refl _ _).drew.trans h3.2 | exact (Below.refl _ _).drew.trans h3.2.drew | exact (Below.refl _ _).drew.drew.trans h3.2 | exact (Below.refl _ _).drew.drew.trans h3.2.drew)⟩)
set_option maxRecDepth 100000 in
set_option maxHeartbeats 3200000 in
theorem prefix16_room (t b m z : Nat) (done pend : List UInt8) (v : Value) (p : UInt8) (x : Int) (_hx1 : 0 ≤ x) (_hx2 : x ≤ 65535) (w : World) (h : WrSt w t b m z done pend v) (hl : done.length + pend.length ≤ 1099511627776) (hx : pend.length + 3 ≤ z) :
    Calls Try.prog 28 #[.pointer (some ⟨m, 0, none⟩), .int .u8 (p.toNat : Nat), .int .u16 x] w (WrPost t b m z (done ++ pend ++ (p :: be x 2)) w) := by
  have hz1 := h.z1
  have hz2 := h.z2
  have hle := h.ple
  have htb := h.tb
  have hbm := h.bm
  obtain ⟨P, hP⟩ : ∃ P, P = pend.length := ⟨_, rfl⟩
  have c1 : w.cell? ⟨m, 1, none⟩ = some (.slice (some ⟨b, 0, none⟩) z z) := h.W.cell 1
  have c2 : w.cell? ⟨m, 2, none⟩ = some (.int .i64 (pend.length : Nat)) := h.W.cell 2
  have f2 : w.frozen? ⟨m, 2, none⟩ = false := h.W.frozen 2
  have zm := h.W.lt
  rw [← hP] at c2 hle hx
  have H := hide h
  have HP := hide hP
  have hx2 : ¬ (z : Int) - (P : Int) < 3 := by omega
  clear h hP
  go_enter Try.func28, Try.ntmps28
  go_wp2
  go_region
  go_wp2
  have hcut : cutA (some ⟨b, 0, none⟩) z P 1 = some ⟨b, P, none⟩ := cutA_at b z P (by omega)
  have hst0 := unhide H
  have hPn := unhide HP
  have hrow0 : Hid (Row w 5 b z ((pend : List UInt8).map u8)) := hst0.row
  have hpn : ((pend : List UInt8).map u8).length = P := by simp; exact hPn.symm
  have HPN := hide hpn
  clear hst0 hPn hpn
  have hz0 : (0 : Int) ≤ (P : Nat) := by omega
  have hz3 : ((P : Nat) : Int) ≤ (z : Int) := by omega
  go_region_held3 (fun V => V.cell? ⟨m, 1, none⟩ = some (.slice (some ⟨b, 0, none⟩) z z) ∧ V.cell? ⟨m, 2, none⟩ = some (.int .i64 (P : Nat))) (go_keep)
    ((go_at_call 39; have HH0 := unhide H; go_loud (refine (w_prefixu16 p p.toNat rfl b P z (z - P) _ x _hx1 _hx2 _ _ (by have h := hrow0; exact h) (unhide HPN) (by omega) (by omega) (by omega)).mono ?_; rintro e w5 ⟨rfl, hrow5, hg5, hsz5⟩; have hst5 := WrSt.wrote (h := (by first | exact HH0 | exact HH0.drew | exact HH0.drew.drew)) (p :: be x 2) hrow5 hg5; have q1 : w5.cell? ⟨m, 1, none⟩ = some (.slice (some ⟨b, 0, none⟩) z z) := hst5.1.cell 1; have q2 : w5.cell? ⟨m, 2, none⟩ = some (.int .i64 (P : Nat)) := (by rw [unhide HP]; exact hst5.1.cell 2); have q3 := hst5.1.frozen 2; have q4 := hst5.1.lt; have H5 := hide hst5.2; clear hst5 hrow5 hg5)))
  all_goals (
    go_wp2
    go_ret
    have hP := unhide HP
    have h3 := unhide H5 ((P : Int) + 3) (by simp [be, hP]; try omega)
    exact ⟨done, pend ++ (p :: be x 2), v, rfl, by simp, (by first | exact h3.1 | exact h3.1.drew | exact h3.1.drew.drew | exact h3.1.drew.drew.drew), (by first | exact h3.2 | exact h3.2.drew | exact h3.2.drew.drew | exact h3.2.drew.drew.drew | exact (Below.refl _ _).drew.trans h3.2 | exact (Below.refl _ _).drew.trans h3.2.drew | exact (Below.refl _ _).drew.drew.trans h3.2 | exact (Below.refl _ _).drew.drew.trans h3.2.drew)⟩)
set_option maxRecDepth 100000 in
set_option maxHeartbeats 3200000 in
theorem prefix16_full (t b m z : Nat) (done pend : List UInt8) (v : Value) (p : UInt8) (x : Int) (_hx1 : 0 ≤ x) (_hx2 : x ≤ 65535) (w : World) (h : WrSt w t b m z done pend v) (hl : done.length + pend.length ≤ 1099511627776) (hx : (z : Int) - (pend.length : Nat) < 3) :
    Calls Try.prog 28 #[.pointer (some ⟨m, 0, none⟩), .int .u8 (p.toNat : Nat), .int .u16 x] w (WrPost t b m z (done ++ pend ++ (p :: be x 2)) w) := by
  have hz1 := h.z1
  have hz2 := h.z2
  have hle := h.ple
  have htb := h.tb
  have hbm := h.bm
  obtain ⟨P, hP⟩ : ∃ P, P = pend.length := ⟨_, rfl⟩
  have c1 : w.cell? ⟨m, 1, none⟩ = some (.slice (some ⟨b, 0, none⟩) z z) := h.W.cell 1
  have c2 : w.cell? ⟨m, 2, none⟩ = some (.int .i64 (pend.length : Nat)) := h.W.cell 2
  have f2 : w.frozen? ⟨m, 2, none⟩ = false := h.W.frozen 2
  have zm := h.W.lt
  rw [← hP] at c2 hle hx
  have H := hide h
  have hF := flush_any t b m z done pend v
  have HF := hide hF
  have HP := hide hP
  clear hF h hP
  go_enter Try.func28, Try.ntmps28
  go_wp2
  go_region
  go_wp2_with fail
  refine (unhide HF _ (unhide H).drew (hl)).mono ?_
  rintro e w1 ⟨v1, rfl, h1, hb1'⟩
  have hb1 : Below t w w1 := (Below.refl t w).drew.trans hb1'
  clear c1 c2 f2 zm
  have c1 : w1.cell? ⟨m, 1, none⟩ = some (.slice (some ⟨b, 0, none⟩) z z) := h1.W.cell 1
  have c2 : w1.cell? ⟨m, 2, none⟩ = some (.int .i64 0) := h1.W.cell 2
  have f2 : w1.frozen? ⟨m, 2, none⟩ = false := h1.W.frozen 2
  have zm := h1.W.lt
  have H1 := hide h1
  have HB1 := hide hb1
  clear h1 hb1
  go_wp2
  have hst0 := unhide H1
  have hPn := unhide HP
  have hrow0 : Hid (Row w1 5 b z (([] : List UInt8).map u8)) := hst0.row
  have hpn : (([] : List UInt8).map u8).length = 0 := by simp
  have HPN := hide hpn
  clear hst0 hPn hpn
  have hz0 : (0 : Int) ≤ (0 : Nat) := by omega
  have hz3 : ((0 : Nat) : Int) ≤ (z : Int) := by omega
  go_region_held3 (fun V => V.cell? ⟨m, 1, none⟩ = some (.slice (some ⟨b, 0, none⟩) z z) ∧ V.cell? ⟨m, 2, none⟩ = some (.int .i64 0)) (go_keep)
    ((go_at_call 39; have HH0 := unhide H1; go_loud (refine (w_prefixu16 p p.toNat rfl b 0 z (z - 0) _ x _hx1 _hx2 _ _ (by have h := hrow0; exact h) (unhide HPN) (by omega) (by omega) (by omega)).mono ?_; rintro e w5 ⟨rfl, hrow5, hg5, hsz5⟩; have hst5 := WrSt.wrote (h := (by first | exact HH0 | exact HH0.drew | exact HH0.drew.drew)) (p :: be x 2) hrow5 hg5; have q1 : w5.cell? ⟨m, 1, none⟩ = some (.slice (some ⟨b, 0, none⟩) z z) := hst5.1.cell 1; have q2 : w5.cell? ⟨m, 2, none⟩ = some (.int .i64 0) := hst5.1.cell 2; have q3 := hst5.1.frozen 2; have q4 := hst5.1.lt; have H5 := hide hst5.2; clear hst5 hrow5 hg5)))
  all_goals (
    go_wp2
    go_ret
    have hP := unhide HP
    have h3 := unhide H5 (3) (by simp [be])
    exact ⟨done ++ pend, (p :: be x 2), v1, rfl, rfl, (by first | exact h3.1 | exact h3.1.drew | exact h3.1.drew.drew | exact h3.1.drew.drew.drew), (unhide HB1).trans (by first | exact h3.2 | exact h3.2.drew | exact h3.2.drew.drew | exact h3.2.drew.drew.drew | exact (Below.refl _ _).drew.trans h3.2 | exact (Below.refl _ _).drew.trans h3.2.drew | exact (Below.refl _ _).drew.drew.trans h3.2 | exact (Below.refl _ _).drew.drew.trans h3.2.drew)⟩)
set_option maxRecDepth 100000 in
set_option maxHeartbeats 3200000 in
theorem prefix32_room (t b m z : Nat) (done pend : List UInt8) (v : Value) (p : UInt8) (x : Int) (_hx1 : 0 ≤ x) (_hx2 : x ≤ 4294967295) (w : World) (h : WrSt w t b m z done pend v) (hl : done.length + pend.length ≤ 1099511627776) (hx : pend.length + 5 ≤ z) :
    Calls Try.prog 29 #[.pointer (some ⟨m, 0, none⟩), .int .u8 (p.toNat : Nat), .int .u32 x] w (WrPost t b m z (done ++ pend ++ (p :: be x 4)) w) := by
  have hz1 := h.z1
  have hz2 := h.z2
  have hle := h.ple
  have htb := h.tb
  have hbm := h.bm
  obtain ⟨P, hP⟩ : ∃ P, P = pend.length := ⟨_, rfl⟩
  have c1 : w.cell? ⟨m, 1, none⟩ = some (.slice (some ⟨b, 0, none⟩) z z) := h.W.cell 1
  have c2 : w.cell? ⟨m, 2, none⟩ = some (.int .i64 (pend.length : Nat)) := h.W.cell 2
  have f2 : w.frozen? ⟨m, 2, none⟩ = false := h.W.frozen 2
  have zm := h.W.lt
  rw [← hP] at c2 hle hx
  have H := hide h
  have HP := hide hP
  have hx2 : ¬ (z : Int) - (P : Int) < 5 := by omega
  clear h hP
  go_enter Try.func29, Try.ntmps29
  go_wp2
  go_region
  go_wp2
  have hcut : cutA (some ⟨b, 0, none⟩) z P 1 = some ⟨b, P, none⟩ := cutA_at b z P (by omega)
  have hst0 := unhide H
  have hPn := unhide HP
  have hrow0 : Hid (Row w 5 b z ((pend : List UInt8).map u8)) := hst0.row
  have hpn : ((pend : List UInt8).map u8).length = P := by simp; exact hPn.symm
  have HPN := hide hpn
  clear hst0 hPn hpn
  have hz0 : (0 : Int) ≤ (P : Nat) := by omega
  have hz3 : ((P : Nat) : Int) ≤ (z : Int) := by omega
  go_region_held3 (fun V => V.cell? ⟨m, 1, none⟩ = some (.slice (some ⟨b, 0, none⟩) z z) ∧ V.cell? ⟨m, 2, none⟩ = some (.int .i64 (P : Nat))) (go_keep)
    ((go_at_call 40; have HH0 := unhide H; go_loud (refine (w_prefixu32 p p.toNat rfl b P z (z - P) _ x _hx1 _hx2 _ _ (by have h := hrow0; exact h) (unhide HPN) (by omega) (by omega) (by omega)).mono ?_; rintro e w5 ⟨rfl, hrow5, hg5, hsz5⟩; have hst5 := WrSt.wrote (h := (by first | exact HH0 | exact HH0.drew | exact HH0.drew.drew)) (p :: be x 4) hrow5 hg5; have q1 : w5.cell? ⟨m, 1, none⟩ = some (.slice (some ⟨b, 0, none⟩) z z) := hst5.1.cell 1; have q2 : w5.cell? ⟨m, 2, none⟩ = some (.int .i64 (P : Nat)) := (by rw [unhide HP]; exact hst5.1.cell 2); have q3 := hst5.1.frozen 2; have q4 := hst5.1.lt; have H5 := hide hst5.2; clear hst5 hrow5 hg5)))
  all_goals (
    go_wp2
    go_ret
    have hP := unhide HP
    have h3 := unhide H5 ((P : Int) + 5) (by simp [be, hP]; try omega)
    exact ⟨done, pend ++ (p :: be x 4), v, rfl, by simp, (by first | exact h3.1 | exact h3.1.drew | exact h3.1.drew.drew | exact h3.1.drew.drew.drew), (by first | exact h3.2 | exact h3.2.drew | exact h3.2.drew.drew | exact h3.2.drew.drew.drew | exact (Below.refl _ _).drew.trans h3.2 | exact (Below.refl _ _).drew.trans h3.2.drew | exact (Below.refl _ _).drew.drew.trans h3.2 | exact (Below.refl _ _).drew.drew.trans h3.2.drew)⟩)
set_option maxRecDepth 100000 in
set_option maxHeartbeats 3200000 in
theorem prefix32_full (t b m z : Nat) (done pend : List UInt8) (v : Value) (p : UInt8) (x : Int) (_hx1 : 0 ≤ x) (_hx2 : x ≤ 4294967295) (w : World) (h : WrSt w t b m z done pend v) (hl : done.length + pend.length ≤ 1099511627776) (hx : (z : Int) - (pend.length : Nat) < 5) :
    Calls Try.prog 29 #[.pointer (some ⟨m, 0, none⟩), .int .u8 (p.toNat : Nat), .int .u32 x] w (WrPost t b m z (done ++ pend ++ (p :: be x 4)) w) := by
  have hz1 := h.z1
  have hz2 := h.z2
  have hle := h.ple
  have htb := h.tb
  have hbm := h.bm
  obtain ⟨P, hP⟩ : ∃ P, P = pend.length := ⟨_, rfl⟩
  have c1 : w.cell? ⟨m, 1, none⟩ = some (.slice (some ⟨b, 0, none⟩) z z) := h.W.cell 1
  have c2 : w.cell? ⟨m, 2, none⟩ = some (.int .i64 (pend.length : Nat)) := h.W.cell 2
  have f2 : w.frozen? ⟨m, 2, none⟩ = false := h.W.frozen 2
  have zm := h.W.lt
  rw [← hP] at c2 hle hx
  have H := hide h
  have hF := flush_any t b m z done pend v
  have HF := hide hF
  have HP := hide hP
  clear hF h hP
  go_enter Try.func29, Try.ntmps29
  go_wp2
  go_region
  go_wp2_with fail
  refine (unhide HF _ (unhide H).drew (hl)).mono ?_
  rintro e w1 ⟨v1, rfl, h1, hb1'⟩
  have hb1 : Below t w w1 := (Below.refl t w).drew.trans hb1'
  clear c1 c2 f2 zm
  have c1 : w1.cell? ⟨m, 1, none⟩ = some (.slice (some ⟨b, 0, none⟩) z z) := h1.W.cell 1
  have c2 : w1.cell? ⟨m, 2, none⟩ = some (.int .i64 0) := h1.W.cell 2
  have f2 : w1.frozen? ⟨m, 2, none⟩ = false := h1.W.frozen 2
  have zm := h1.W.lt
  have H1 := hide h1
  have HB1 := hide hb1
  clear h1 hb1
  go_wp2
  have hst0 := unhide H1
  have hPn := unhide HP
  have hrow0 : Hid (Row w1 5 b z (([] : List UInt8).map u8)) := hst0.row
  have hpn : (([] : List UInt8).map u8).length = 0 := by simp
  have HPN := hide hpn
  clear hst0 hPn hpn
  have hz0 : (0 : Int) ≤ (0 : Nat) := by omega
  have hz3 : ((0 : Nat) : Int) ≤ (z : Int) := by omega
  go_region_held3 (fun V => V.cell? ⟨m, 1, none⟩ = some (.slice (some ⟨b, 0, none⟩) z z) ∧ V.cell? ⟨m, 2, none⟩ = some (.int .i64 0)) (go_keep)
    ((go_at_call 40; have HH0 := unhide H1; go_loud (refine (w_prefixu32 p p.toNat rfl b 0 z (z - 0) _ x _hx1 _hx2 _ _ (by have h := hrow0; exact h) (unhide HPN) (by omega) (by omega) (by omega)).mono ?_; rintro e w5 ⟨rfl, hrow5, hg5, hsz5⟩; have hst5 := WrSt.wrote (h := (by first | exact HH0 | exact HH0.drew | exact HH0.drew.drew)) (p :: be x 4) hrow5 hg5; have q1 : w5.cell? ⟨m, 1, none⟩ = some (.slice (some ⟨b, 0, none⟩) z z) := hst5.1.cell 1; have q2 : w5.cell? ⟨m, 2, none⟩ = some (.int .i64 0) := hst5.1.cell 2; have q3 := hst5.1.frozen 2; have q4 := hst5.1.lt; have H5 := hide hst5.2; clear hst5 hrow5 hg5)))
  all_goals (
    go_wp2
    go_ret
    have hP := unhide HP
    have h3 := unhide H5 (5) (by simp [be])
    exact ⟨done ++ pend, (p :: be x 4), v1, rfl, rfl, (by first | exact h3.1 | exact h3.1.drew | exact h3.1.drew.drew | exact h3.1.drew.drew.drew), (unhide HB1).trans (by first | exact h3.2 | exact h3.2.drew | exact h3.2.drew.drew | exact h3.2.drew.drew.drew | exact (Below.refl _ _).drew.trans h3.2 | exact (Below.refl _ _).drew.trans h3.2.drew | exact (Below.refl _ _).drew.drew.trans h3.2 | exact (Below.refl _ _).drew.drew.trans h3.2.drew)⟩)
set_option maxRecDepth 100000 in
set_option maxHeartbeats 3200000 in
theorem prefix64_room (t b m z : Nat) (done pend : List UInt8) (v : Value) (p : UInt8) (x : Int) (_hx1 : 0 ≤ x) (_hx2 : x ≤ 18446744073709551615) (w : World) (h : WrSt w t b m z done pend v) (hl : done.length + pend.length ≤ 1099511627776) (hx : pend.length + 9 ≤ z) :
    Calls Try.prog 42 #[.pointer (some ⟨m, 0, none⟩), .int .u8 (p.toNat : Nat), .int .u64 x] w (WrPost t b m z (done ++ pend ++ (p :: be x 8)) w) := by
  have hz1 := h.z1
  have hz2 := h.z2
  have hle := h.ple
  have htb := h.tb
  have hbm := h.bm
  obtain ⟨P, hP⟩ : ∃ P, P = pend.length := ⟨_, rfl⟩
  have c1 : w.cell? ⟨m, 1, none⟩ = some (.slice (some ⟨b, 0, none⟩) z z) := h.W.cell 1
  have c2 : w.cell? ⟨m, 2, none⟩ = some (.int .i64 (pend.length : Nat)) := h.W.cell 2
  have f2 : w.frozen? ⟨m, 2, none⟩ = false := h.W.frozen 2
  have zm := h.W.lt
  rw [← hP] at c2 hle hx
  have H := hide h
  have HP := hide hP
  have hx2 : ¬ (z : Int) - (P : Int) < 9 := by omega
  clear h hP
  go_enter Try.func42, Try.ntmps42
  go_wp2
  go_region
  go_wp2
  have hcut : cutA (some ⟨b, 0, none⟩) z P 1 = some ⟨b, P, none⟩ := cutA_at b z P (by omega)
  have hst0 := unhide H
  have hPn := unhide HP
  have hrow0 : Hid (Row w 5 b z ((pend : List UInt8).map u8)) := hst0.row
  have hpn : ((pend : List UInt8).map u8).length = P := by simp; exact hPn.symm
  have HPN := hide hpn
  clear hst0 hPn hpn
  have hz0 : (0 : Int) ≤ (P : Nat) := by omega
  have hz3 : ((P : Nat) : Int) ≤ (z : Int) := by omega
  go_region_held3 (fun V => V.cell? ⟨m, 1, none⟩ = some (.slice (some ⟨b, 0, none⟩) z z) ∧ V.cell? ⟨m, 2, none⟩ = some (.int .i64 (P : Nat))) (go_keep)
    ((go_at_call 45; have HH0 := unhide H; go_loud (refine (w_prefixu64 p p.toNat rfl b P z (z - P) _ x _hx1 _hx2 _ _ (by have h := hrow0; exact h) (unhide HPN) (by omega) (by omega) (by omega)).mono ?_; rintro e w5 ⟨rfl, hrow5, hg5, hsz5⟩; have hst5 := WrSt.wrote (h := (by first | exact HH0 | exact HH0.drew | exact HH0.drew.drew)) (p :: be x 8) hrow5 hg5; have q1 : w5.cell? ⟨m, 1, none⟩ = some (.slice (some ⟨b, 0, none⟩) z z) := hst5.1.cell 1; have q2 : w5.cell? ⟨m, 2, none⟩ = some (.int .i64 (P : Nat)) := (by rw [unhide HP]; exact hst5.1.cell 2); have q3 := hst5.1.frozen 2; have q4 := hst5.1.lt; have H5 := hide hst5.2; clear hst5 hrow5 hg5)))
  all_goals (
    go_wp2
    go_ret
    have hP := unhide HP
    have h3 := unhide H5 ((P : Int) + 9) (by simp [be, hP]; try omega)
    exact ⟨done, pend ++ (p :: be x 8), v, rfl, by simp, (by first | exact h3.1 | exact h3.1.drew | exact h3.1.drew.drew | exact h3.1.drew.drew.drew), (by first | exact h3.2 | exact h3.2.drew | exact h3.2.drew.drew | exact h3.2.drew.drew.drew | exact (Below.refl _ _).drew.trans h3.2 | exact (Below.refl _ _).drew.trans h3.2.drew | exact (Below.refl _ _).drew.drew.trans h3.2 | exact (Below.refl _ _).drew.drew.trans h3.2.drew)⟩)
set_option maxRecDepth 100000 in
set_option maxHeartbeats 3200000 in
theorem prefix64_full (t b m z : Nat) (done pend : List UInt8) (v : Value) (p : UInt8) (x : Int) (_hx1 : 0 ≤ x) (_hx2 : x ≤ 18446744073709551615) (w : World) (h : WrSt w t b m z done pend v) (hl : done.length + pend.length ≤ 1099511627776) (hx : (z : Int) - (pend.length : Nat) < 9) :
    Calls Try.prog 42 #[.pointer (some ⟨m, 0, none⟩), .int .u8 (p.toNat : Nat), .int .u64 x] w (WrPost t b m z (done ++ pend ++ (p :: be x 8)) w) := by
  have hz1 := h.z1
  have hz2 := h.z2
  have hle := h.ple
  have htb := h.tb
  have hbm := h.bm
  obtain ⟨P, hP⟩ : ∃ P, P = pend.length := ⟨_, rfl⟩
  have c1 : w.cell? ⟨m, 1, none⟩ = some (.slice (some ⟨b, 0, none⟩) z z) := h.W.cell 1
  have c2 : w.cell? ⟨m, 2, none⟩ = some (.int .i64 (pend.length : Nat)) := h.W.cell 2
  have f2 : w.frozen? ⟨m, 2, none⟩ = false := h.W.frozen 2
  have zm := h.W.lt
  rw [← hP] at c2 hle hx
  have H := hide h
  have hF := flush_any t b m z done pend v
  have HF := hide hF
  have HP := hide hP
  clear hF h hP
  go_enter Try.func42, Try.ntmps42
  go_wp2
  go_region
  go_wp2_with fail
  refine (unhide HF _ (unhide H).drew (hl)).mono ?_
  rintro e w1 ⟨v1, rfl, h1, hb1'⟩
  have hb1 : Below t w w1 := (Below.refl t w).drew.trans hb1'
  clear c1 c2 f2 zm
  have c1 : w1.cell? ⟨m, 1, none⟩ = some (.slice (some ⟨b, 0, none⟩) z z) := h1.W.cell 1
  have c2 : w1.cell? ⟨m, 2, none⟩ = some (.int .i64 0) := h1.W.cell 2
  have f2 : w1.frozen? ⟨m, 2, none⟩ = false := h1.W.frozen 2
  have zm := h1.W.lt
  have H1 := hide h1
  have HB1 := hide hb1
  clear h1 hb1
  go_wp2
  have hst0 := unhide H1
  have hPn := unhide HP
  have hrow0 : Hid (Row w1 5 b z (([] : List UInt8).map u8)) := hst0.row
  have hpn : (([] : List UInt8).map u8).length = 0 := by simp
  have HPN := hide hpn
  clear hst0 hPn hpn
  have hz0 : (0 : Int) ≤ (0 : Nat) := by omega
  have hz3 : ((0 : Nat) : Int) ≤ (z : Int) := by omega
  go_region_held3 (fun V => V.cell? ⟨m, 1, none⟩ = some (.slice (some ⟨b, 0, none⟩) z z) ∧ V.cell? ⟨m, 2, none⟩ = some (.int .i64 0)) (go_keep)
    ((go_at_call 45; have HH0 := unhide H1; go_loud (refine (w_prefixu64 p p.toNat rfl b 0 z (z - 0) _ x _hx1 _hx2 _ _ (by have h := hrow0; exact h) (unhide HPN) (by omega) (by omega) (by omega)).mono ?_; rintro e w5 ⟨rfl, hrow5, hg5, hsz5⟩; have hst5 := WrSt.wrote (h := (by first | exact HH0 | exact HH0.drew | exact HH0.drew.drew)) (p :: be x 8) hrow5 hg5; have q1 : w5.cell? ⟨m, 1, none⟩ = some (.slice (some ⟨b, 0, none⟩) z z) := hst5.1.cell 1; have q2 : w5.cell? ⟨m, 2, none⟩ = some (.int .i64 0) := hst5.1.cell 2; have q3 := hst5.1.frozen 2; have q4 := hst5.1.lt; have H5 := hide hst5.2; clear hst5 hrow5 hg5)))
  all_goals (
    go_wp2
    go_ret
    have hP := unhide HP
    have h3 := unhide H5 (9) (by simp [be])
    exact ⟨done ++ pend, (p :: be x 8), v1, rfl, rfl, (by first | exact h3.1 | exact h3.1.drew | exact h3.1.drew.drew | exact h3.1.drew.drew.drew), (unhide HB1).trans (by first | exact h3.2 | exact h3.2.drew | exact h3.2.drew.drew | exact h3.2.drew.drew.drew | exact (Below.refl _ _).drew.trans h3.2 | exact (Below.refl _ _).drew.trans h3.2.drew | exact (Below.refl _ _).drew.drew.trans h3.2 | exact (Below.refl _ _).drew.drew.trans h3.2.drew)⟩)
end Go.Proofs.Ytapkehellkdkjaa
