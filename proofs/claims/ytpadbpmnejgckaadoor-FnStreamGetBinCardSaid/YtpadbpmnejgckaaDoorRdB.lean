/-
  msgp.Reader.ReadBytes(nil) and the closure of impl.StreamGetBin over it. Conditions: bytes stand next, at most 65536.
-/
import Derived.Test.YtpadbpmnejgckaaDoorRd
import Derived.Test.YtpadbpmnejgckaaDoorReadFull
import Derived.Test.YtpadbpmnejgckaaDoorTkS
import Derived.Test.YtpadbpmnejgckaaDoorFixS
import Derived.Deep.RegionWith
import Derived.Deep.RegionHeld3
import Derived.BigRegion
namespace Go.Proofs.YtpadbpmnejgckaaDoor
set_option linter.unusedSimpArgs false
set_option linter.unusedVariables false
set_option linter.unusedVariables false
open Go.RowKit
def encBin (x : List UInt8) (a : List UInt8) : Prop := x.length ≤ 65536 ∧ ∃ h, HeadIs 7 x.length h ∧ a = h ++ x
theorem row_reads5 {w : World} {g n : Nat} {x : List UInt8} (h : Row w 5 g n (x.map u8)) : RB w (fun b => b < w.heap.size) (some ⟨g, 0, none⟩) x := by
  refine ⟨by simp, fun _ => ⟨_, rfl, h.lt, fun j u hu => ?_⟩⟩
  have e : (⟨g, 0, none⟩ : Addr).add j = ⟨g, j, none⟩ := by unfold Addr.add; split <;> simp_all
  rw [e]
  exact h.at_ hu
def RdBytes (d s m z : Nat) (ck dep : Int) (V : Value) (x t : List UInt8) (w : World) (e : Ending) (w' : World) : Prop := ∃ B c, e = .returned (.tuple #[.slice B x.length c, .nilIface]) ∧ RB w' (fun b => b < w'.heap.size) B x ∧ RdLeft d s m z ck dep V t w w'
theorem getMaxE (d s m z : Nat) (ck dep : Int) (V : Value) (bs : List UInt8) (w : World) (h : RdAny w d s m z ck dep V bs) :
    Calls Tryd.prog 109 #[.pointer (some ⟨m, 0, none⟩)] w fun e w' => e = .returned (.int .u32 1048576) ∧ w = w' := by
  have c4 : w.cell? ⟨m, 4, none⟩ = some (.int .u32 1048576) := by
    obtain ⟨_, _, _, _, _, _, _, hst⟩ := h
    exact hst.M.cell 4
  clear h
  go_enter Tryd.func109, Tryd.ntmps109
  go_wp2
  go_ret
  exact ⟨rfl, rfl⟩
theorem full_left {w2 w3 w' : World} {d s m z g : Nat} {ck dep : Int} {V V' : Value} {t : List UInt8} {o : Obj} (hg : g = w2.heap.size) (h3 : w3 = w2.alloc o) (h : RdAny w' d s m z ck dep V' t) (hk : Keeps (fun b => RdK d s V b ∨ b = g) w3 w') (ho : V'.ownBlock = V.ownBlock ∨ ∃ g', V'.ownBlock = some g' ∧ w3.heap.size ≤ g') : RdLeft d s m z ck dep V t w2 w' := by
  subst h3 hg
  refine ⟨V', h, ((Keeps.refl (RdK d s V) w2).alloc o).trans hk (fun x hx e => e.elim (fun e => e) (fun e => by omega)), ?_⟩
  rcases ho with ho | ⟨g', h1, h2⟩
  · exact .inl ho
  · exact .inr ⟨g', h1, by simp at h2; omega⟩
set_option maxRecDepth 100000 in
set_option maxHeartbeats 3200000 in
theorem rdB_196 (d s m z n : Nat) (ck dep : Int) (V : Value) (x : List UInt8) (t : List UInt8) (hx : n = x.length) (hx2 : n ≤ 65536) (hx3 : n < 256) (hx4 : 0 < n) (w : World) (h : RdAny w d s m z ck dep V (UInt8.ofNat 196 :: beL n 1 ++ (x ++ t))) :
    Calls Tryd.prog 69 #[.pointer (some ⟨m, 0, none⟩), .slice none 0 0] w (RdBytes d s m z ck dep V x t w) := by
  have c0 := h.ptr
  have HPK := hide (peek_any d s m z ck dep V _ 2 w h (by simp [beL]) (by omega))
  have HT2 : Hid ((UInt8.ofNat 196 :: beL n 1 ++ (x ++ t)).take 2 = [UInt8.ofNat 196, UInt8.ofNat n]) := rfl
  have HDR : Hid ((UInt8.ofNat 196 :: beL n 1 ++ (x ++ t)).drop 2 = x ++ t) := rfl
  have HLN : Hid (2 ≤ (UInt8.ofNat 196 :: beL n 1 ++ (x ++ t)).length) := by
    show _ ≤ _
    simp [beL]
  have HX := hide hx
  have hn1 : (n : Int) ≤ 65536 := by omega
  have hn0 : (0 : Int) ≤ (n : Int) := by omega
  have hnb : (n : Int) < 256 := by omega
  have hpos : (0 : Int) < (n : Int) := by omega
  have hbig : ¬ (1048576 : Int) < (n : Int) := by omega
  have hbig2 : decide ((1048576 : Int) < (n : Int)) = false := decide_eq_false hbig
  have hw64 : IntKind.i64.wrap (n : Int) = (n : Int) := by rw [IntKind.wrap_i64]; omega
  have hw65 : wrap64 (n : Int) = (n : Int) := by unfold wrap64; omega
  obtain ⟨Z, hZ, hmk⟩ := makeLC n n (Nat.le_refl _) (by omega)
  have HZ := hide hZ
  have HFB : Hid (([UInt8.ofNat 196, UInt8.ofNat n][1]).toNat = n) := by
    show (UInt8.ofNat n).toNat = _
    simp
    omega
  obtain ⟨T, hT⟩ : ∃ T, T = RdBytes d s m z ck dep V x t w := ⟨_, rfl⟩
  rw [← hT]
  have HTT := hide hT
  clear hT h hx hZ
  go_enter Tryd.func69, Tryd.ntmps69
  go_wp2_with (first
    | (go_at_call 102; go_loud (obtain ⟨V1, hA1, hbind⟩ := (unhide HL1).bind; refine (skip_any d s m z ck dep V1 _ 2 w1 hA1 (unhide HLN) (by omega)).mono ?_; rintro e w2 ⟨rfl, hl2⟩; rw [unhide HDR] at hl2; have HL2 := hide (hbind _ _ hl2); have c2 := (unhide HL2).ptr; have m2 : m < w2.heap.size := (by obtain ⟨Vq, hq, _⟩ := (unhide HL2); exact hq.mlt); clear hA1 hbind hl2))
    | (go_at_call 109; go_loud (obtain ⟨V2, hA2, hbind2⟩ := (unhide HL2).bind; refine (getMaxE d s m z ck dep V2 _ _ hA2).mono ?_; rintro e w9 ⟨rfl, rfl⟩; clear hA2 hbind2))
    | (go_at_call 110; go_loud (obtain ⟨V2, hA2, hbind2⟩ := (unhide HL2).bind; refine (readFull_pos d s m z w2.heap.size n ck dep V2 x t _ (hA2.below ((Below.refl _ _).alloc (Nat.le_refl _) (.cells Z.toArray 5))) (unhide HX) (by omega) ⟨Z.toArray, Blk.new _ _ _, by have h := unhide HZ; simpa using h, Nat.zero_le _, rfl⟩ hA2.mlt (fun e => by have := (hA2.room_lt e).2; omega)).mono ?_; rintro e w5 ⟨rfl, hrow5, V5, h5, hk5, ho5⟩; have HROW5 := hide hrow5; have HFIN := hide (hbind2 _ _ (full_left rfl rfl h5 hk5 ho5)); clear hA2 hbind2 hrow5 h5 hk5 ho5))
    | (go_at_call 99; go_loud (refine (unhide HPK).mono ?_; rintro e w1 ⟨B, c, rfl, hc, hcm, hr1, hl1⟩; rw [unhide HT2] at hr1; obtain ⟨ad, rfl, _, hall⟩ := hr1.all_ (by simp); have hb0 : w1.cell? ad = some (.int .u8 196) := hall 0 (by simp); have hb1 : w1.cell? ⟨ad.block, ad.off + 1, none⟩ = some (.int .u8 (n : Int)) := (by have h := hall 1 (by simp); rw [Go.Proofs.YtpadbpmnejgckaaDoor.u8, unhide HFB] at h; exact h); have HL1 := hide hl1; have c1 := hl1.ptr; clear hr1 hl1 hall)))
  rw [unhide HTT]
  have hx := unhide HX
  subst hx
  exact ⟨_, _, rfl, row_reads5 (unhide HROW5), unhide HFIN⟩
set_option maxRecDepth 100000 in
set_option maxHeartbeats 3200000 in
theorem rdB_196z (d s m z : Nat) (ck dep : Int) (V : Value) (t : List UInt8) (w : World) (h : RdAny w d s m z ck dep V (UInt8.ofNat 196 :: beL 0 1 ++ (([] : List UInt8) ++ t))) :
    Calls Tryd.prog 69 #[.pointer (some ⟨m, 0, none⟩), .slice none 0 0] w (RdBytes d s m z ck dep V ([] : List UInt8) t w) := by
  have c0 := h.ptr
  have HPK := hide (peek_any d s m z ck dep V _ 2 w h (by simp [beL]) (by omega))
  have HT2 : Hid ((UInt8.ofNat 196 :: beL 0 1 ++ (([] : List UInt8) ++ t)).take 2 = [UInt8.ofNat 196, UInt8.ofNat 0]) := rfl
  have HDR : Hid ((UInt8.ofNat 196 :: beL 0 1 ++ (([] : List UInt8) ++ t)).drop 2 = ([] : List UInt8) ++ t) := rfl
  have HLN : Hid (2 ≤ (UInt8.ofNat 196 :: beL 0 1 ++ (([] : List UInt8) ++ t)).length) := by
    show _ ≤ _
    simp [beL]
  have HFB : Hid (([UInt8.ofNat 196, UInt8.ofNat 0][1]).toNat = 0) := by
    show (UInt8.ofNat 0).toNat = _
    simp
  obtain ⟨T, hT⟩ : ∃ T, T = RdBytes d s m z ck dep V ([] : List UInt8) t w := ⟨_, rfl⟩
  rw [← hT]
  have HTT := hide hT
  clear hT h
  go_enter Tryd.func69, Tryd.ntmps69
  go_wp2_with (first
    | (go_at_call 102; go_loud (obtain ⟨V1, hA1, hbind⟩ := (unhide HL1).bind; refine (skip_any d s m z ck dep V1 _ 2 w1 hA1 (unhide HLN) (by omega)).mono ?_; rintro e w2 ⟨rfl, hl2⟩; rw [unhide HDR] at hl2; have HL2 := hide (hbind _ _ hl2); have c2 := (unhide HL2).ptr; have m2 : m < w2.heap.size := (by obtain ⟨Vq, hq, _⟩ := (unhide HL2); exact hq.mlt); clear hA1 hbind hl2))
    | (go_at_call 110; go_loud (obtain ⟨V2, hA2, hbind2⟩ := (unhide HL2).bind; refine (readFull_zero d s m z ck dep V2 t _ hA2).mono ?_; rintro e w5 ⟨rfl, hl5⟩; have HFIN := hide (hbind2 _ _ hl5); clear hA2 hbind2 hl5))
    | (go_at_call 99; go_loud (refine (unhide HPK).mono ?_; rintro e w1 ⟨B, c, rfl, hc, hcm, hr1, hl1⟩; rw [unhide HT2] at hr1; obtain ⟨ad, rfl, _, hall⟩ := hr1.all_ (by simp); have hb0 : w1.cell? ad = some (.int .u8 196) := hall 0 (by simp); have hb1 : w1.cell? ⟨ad.block, ad.off + 1, none⟩ = some (.int .u8 (0 : Int)) := (by have h := hall 1 (by simp); rw [Go.Proofs.YtpadbpmnejgckaaDoor.u8, unhide HFB] at h; exact h); have HL1 := hide hl1; have c1 := hl1.ptr; clear hr1 hl1 hall)))
  rw [unhide HTT]
  exact ⟨none, 0, rfl, RB.none_, unhide HFIN⟩
set_option maxRecDepth 100000 in
set_option maxHeartbeats 3200000 in
theorem rdB_197 (d s m z n : Nat) (ck dep : Int) (V : Value) (x : List UInt8) (t : List UInt8) (hx : n = x.length) (hx2 : n ≤ 65536) (hx3 : n < 65536) (hx4 : 0 < n) (w : World) (h : RdAny w d s m z ck dep V (UInt8.ofNat 197 :: beL n 2 ++ (x ++ t))) :
    Calls Tryd.prog 69 #[.pointer (some ⟨m, 0, none⟩), .slice none 0 0] w (RdBytes d s m z ck dep V x t w) := by
  have c0 := h.ptr
  have HPK := hide (peek_any d s m z ck dep V _ 2 w h (by simp [beL]) (by omega))
  have HT2 : Hid ((UInt8.ofNat 197 :: beL n 2 ++ (x ++ t)).take 2 = [UInt8.ofNat 197, UInt8.ofNat (n / 256)]) := rfl
  have HTK : Hid ((UInt8.ofNat 197 :: beL n 2 ++ (x ++ t)).take (2 + 1) = UInt8.ofNat 197 :: beL n 2) := rfl
  have HDR : Hid ((UInt8.ofNat 197 :: beL n 2 ++ (x ++ t)).drop (2 + 1) = x ++ t) := rfl
  have HLN : Hid (2 + 1 ≤ (UInt8.ofNat 197 :: beL n 2 ++ (x ++ t)).length) := by
    show _ ≤ _
    simp [beL]
  have HX := hide hx
  have hn1 : (n : Int) ≤ 65536 := by omega
  have hn0 : (0 : Int) ≤ (n : Int) := by omega
  have hnb : (n : Int) < 65536 := by omega
  have hpos : (0 : Int) < (n : Int) := by omega
  have hbig : ¬ (1048576 : Int) < (n : Int) := by omega
  have hbig2 : decide ((1048576 : Int) < (n : Int)) = false := decide_eq_false hbig
  have hw64 : IntKind.i64.wrap (n : Int) = (n : Int) := by rw [IntKind.wrap_i64]; omega
  have hw65 : wrap64 (n : Int) = (n : Int) := by unfold wrap64; omega
  obtain ⟨Z, hZ, hmk⟩ := makeLC n n (Nat.le_refl _) (by omega)
  have HZ := hide hZ
  have HBG : Hid (((bigU ((beL n 2).take 2) : Nat) : Int) = n) := by
    show _ = _
    rw [show (beL n 2).take 2 = beL n 2 from rfl, bigU2 n (by omega)]
  obtain ⟨T, hT⟩ : ∃ T, T = RdBytes d s m z ck dep V x t w := ⟨_, rfl⟩
  rw [← hT]
  have HTT := hide hT
  clear hT h hx hZ
  go_enter Tryd.func69, Tryd.ntmps69
  go_wp2_with (first
    | (go_at_call 106; go_loud (obtain ⟨V1, hA1, hbind⟩ := (unhide HL1).bind; refine (next_any d s m z ck dep V1 _ (2 + 1) w1 hA1 (unhide HLN) (by omega)).mono ?_; rintro e w2 ⟨B2, c2', rfl, hc2, hcm2, hr2, hl2⟩; rw [unhide HTK] at hr2; rw [unhide HDR] at hl2; have hcut := hr2.cut (k := 1) (cap := c2') (by simp) (by simpa [beL] using hc2); simp only [List.drop_succ_cons, List.drop_zero] at hcut; have HCUT := hide hcut; have HL2 := hide (hbind _ _ hl2); clear hA1 hbind hr2 hl2 hcut))
    | (go_at_call 99; go_loud (refine (unhide HPK).mono ?_; rintro e w1 ⟨B, c, rfl, hc, hcm, hr1, hl1⟩; rw [unhide HT2] at hr1; obtain ⟨ad, rfl, _, hall⟩ := hr1.all_ (by simp); have hb0 : w1.cell? ad = some (.int .u8 197) := hall 0 (by simp); have HL1 := hide hl1; have c1 := hl1.ptr; clear hr1 hl1 hall)))
  go_region_held3 (fun _ => True) (trivial) ((go_at_call 107; go_loud (refine (beu16_any (fun b => b < w2.heap.size) (cutA B2 c2' 1 1) (beL n 2) 2 (c2' - 1) w2.drew rfl (Nat.le_refl _) ((unhide HCUT).keep (fun b hb => rfl)) (fun b hb => hb)).mono ?_; rintro e w3 ⟨rfl, hb3⟩; rw [unhide HBG]; have HL3 := hide (((unhide HL2).below (Below.refl _ _).drew).below hb3); have c3 := (unhide HL3).ptr; have m3 : m < w3.heap.size := (by obtain ⟨Vq, hq, _⟩ := (unhide HL3); exact hq.mlt); clear hb3)))
  clear hn1 hnb hx3
  go_wp2_with (first
    | (go_at_call 109; go_loud (obtain ⟨V2, hA2, hbind2⟩ := (unhide HL3).bind; refine (getMaxE d s m z ck dep V2 _ _ hA2).mono ?_; rintro e w9 ⟨rfl, rfl⟩; clear hA2 hbind2))
    | (go_at_call 110; go_loud (obtain ⟨V2, hA2, hbind2⟩ := (unhide HL3).bind; refine (readFull_pos d s m z w3.heap.size n ck dep V2 x t _ (hA2.below ((Below.refl _ _).alloc (Nat.le_refl _) (.cells Z.toArray 5))) (unhide HX) (by omega) ⟨Z.toArray, Blk.new _ _ _, by have h := unhide HZ; simpa using h, Nat.zero_le _, rfl⟩ hA2.mlt (fun e => by have := (hA2.room_lt e).2; omega)).mono ?_; rintro e w5 ⟨rfl, hrow5, V5, h5, hk5, ho5⟩; have HROW5 := hide hrow5; have HFIN := hide (hbind2 _ _ (full_left rfl rfl h5 hk5 ho5)); clear hA2 hbind2 hrow5 h5 hk5 ho5)))
  rw [unhide HTT]
  have hx := unhide HX
  subst hx
  exact ⟨_, _, rfl, row_reads5 (unhide HROW5), unhide HFIN⟩
set_option maxRecDepth 100000 in
set_option maxHeartbeats 3200000 in
theorem rdB_197z (d s m z : Nat) (ck dep : Int) (V : Value) (t : List UInt8) (w : World) (h : RdAny w d s m z ck dep V (UInt8.ofNat 197 :: beL 0 2 ++ (([] : List UInt8) ++ t))) :
    Calls Tryd.prog 69 #[.pointer (some ⟨m, 0, none⟩), .slice none 0 0] w (RdBytes d s m z ck dep V ([] : List UInt8) t w) := by
  have c0 := h.ptr
  have HPK := hide (peek_any d s m z ck dep V _ 2 w h (by simp [beL]) (by omega))
  have HT2 : Hid ((UInt8.ofNat 197 :: beL 0 2 ++ (([] : List UInt8) ++ t)).take 2 = [UInt8.ofNat 197, UInt8.ofNat (0 / 256)]) := rfl
  have HTK : Hid ((UInt8.ofNat 197 :: beL 0 2 ++ (([] : List UInt8) ++ t)).take (2 + 1) = UInt8.ofNat 197 :: beL 0 2) := rfl
  have HDR : Hid ((UInt8.ofNat 197 :: beL 0 2 ++ (([] : List UInt8) ++ t)).drop (2 + 1) = ([] : List UInt8) ++ t) := rfl
  have HLN : Hid (2 + 1 ≤ (UInt8.ofNat 197 :: beL 0 2 ++ (([] : List UInt8) ++ t)).length) := by
    show _ ≤ _
    simp [beL]
  have HBG : Hid (((bigU ((beL 0 2).take 2) : Nat) : Int) = 0) := by
    show _ = _
    rfl
  obtain ⟨T, hT⟩ : ∃ T, T = RdBytes d s m z ck dep V ([] : List UInt8) t w := ⟨_, rfl⟩
  rw [← hT]
  have HTT := hide hT
  clear hT h
  go_enter Tryd.func69, Tryd.ntmps69
  go_wp2_with (first
    | (go_at_call 106; go_loud (obtain ⟨V1, hA1, hbind⟩ := (unhide HL1).bind; refine (next_any d s m z ck dep V1 _ (2 + 1) w1 hA1 (unhide HLN) (by omega)).mono ?_; rintro e w2 ⟨B2, c2', rfl, hc2, hcm2, hr2, hl2⟩; rw [unhide HTK] at hr2; rw [unhide HDR] at hl2; have hcut := hr2.cut (k := 1) (cap := c2') (by simp) (by simpa [beL] using hc2); simp only [List.drop_succ_cons, List.drop_zero] at hcut; have HCUT := hide hcut; have HL2 := hide (hbind _ _ hl2); clear hA1 hbind hr2 hl2 hcut))
    | (go_at_call 99; go_loud (refine (unhide HPK).mono ?_; rintro e w1 ⟨B, c, rfl, hc, hcm, hr1, hl1⟩; rw [unhide HT2] at hr1; obtain ⟨ad, rfl, _, hall⟩ := hr1.all_ (by simp); have hb0 : w1.cell? ad = some (.int .u8 197) := hall 0 (by simp); have HL1 := hide hl1; have c1 := hl1.ptr; clear hr1 hl1 hall)))
  go_region_held3 (fun _ => True) (trivial) ((go_at_call 107; go_loud (refine (beu16_any (fun b => b < w2.heap.size) (cutA B2 c2' 1 1) (beL 0 2) 2 (c2' - 1) w2.drew rfl (Nat.le_refl _) ((unhide HCUT).keep (fun b hb => rfl)) (fun b hb => hb)).mono ?_; rintro e w3 ⟨rfl, hb3⟩; rw [unhide HBG]; have HL3 := hide (((unhide HL2).below (Below.refl _ _).drew).below hb3); have c3 := (unhide HL3).ptr; have m3 : m < w3.heap.size := (by obtain ⟨Vq, hq, _⟩ := (unhide HL3); exact hq.mlt); clear hb3)))
  go_wp2_with (first
    | (go_at_call 110; go_loud (obtain ⟨V2, hA2, hbind2⟩ := (unhide HL3).bind; refine (readFull_zero d s m z ck dep V2 t _ hA2).mono ?_; rintro e w5 ⟨rfl, hl5⟩; have HFIN := hide (hbind2 _ _ hl5); clear hA2 hbind2 hl5)))
  rw [unhide HTT]
  exact ⟨none, 0, rfl, RB.none_, unhide HFIN⟩
set_option maxRecDepth 100000 in
set_option maxHeartbeats 3200000 in
theorem rdB_198 (d s m z n : Nat) (ck dep : Int) (V : Value) (x : List UInt8) (t : List UInt8) (hx : n = x.length) (hx2 : n ≤ 65536) (hx3 : n < 4294967296) (hx4 : 0 < n) (w : World) (h : RdAny w d s m z ck dep V (UInt8.ofNat 198 :: beL n 4 ++ (x ++ t))) :
    Calls Tryd.prog 69 #[.pointer (some ⟨m, 0, none⟩), .slice none 0 0] w (RdBytes d s m z ck dep V x t w) := by
  have c0 := h.ptr
  have HPK := hide (peek_any d s m z ck dep V _ 2 w h (by simp [beL]) (by omega))
  have HT2 : Hid ((UInt8.ofNat 198 :: beL n 4 ++ (x ++ t)).take 2 = [UInt8.ofNat 198, UInt8.ofNat (n / 16777216)]) := rfl
  have HTK : Hid ((UInt8.ofNat 198 :: beL n 4 ++ (x ++ t)).take (4 + 1) = UInt8.ofNat 198 :: beL n 4) := rfl
  have HDR : Hid ((UInt8.ofNat 198 :: beL n 4 ++ (x ++ t)).drop (4 + 1) = x ++ t) := rfl
  have HLN : Hid (4 + 1 ≤ (UInt8.ofNat 198 :: beL n 4 ++ (x ++ t)).length) := by
    show _ ≤ _
    simp [beL]
  have HX := hide hx
  have hn1 : (n : Int) ≤ 65536 := by omega
  have hn0 : (0 : Int) ≤ (n : Int) := by omega
  have hnb : (n : Int) < 4294967296 := by omega
  have hpos : (0 : Int) < (n : Int) := by omega
  have hbig : ¬ (1048576 : Int) < (n : Int) := by omega
  have hbig2 : decide ((1048576 : Int) < (n : Int)) = false := decide_eq_false hbig
  have hw64 : IntKind.i64.wrap (n : Int) = (n : Int) := by rw [IntKind.wrap_i64]; omega
  have hw65 : wrap64 (n : Int) = (n : Int) := by unfold wrap64; omega
  obtain ⟨Z, hZ, hmk⟩ := makeLC n n (Nat.le_refl _) (by omega)
  have HZ := hide hZ
  have HBG : Hid (((bigU ((beL n 4).take 4) : Nat) : Int) = n) := by
    show _ = _
    rw [show (beL n 4).take 4 = beL n 4 from rfl, bigU4 n (by omega)]
  obtain ⟨T, hT⟩ : ∃ T, T = RdBytes d s m z ck dep V x t w := ⟨_, rfl⟩
  rw [← hT]
  have HTT := hide hT
  clear hT h hx hZ
  go_enter Tryd.func69, Tryd.ntmps69
  go_wp2_with (first
    | (go_at_call 106; go_loud (obtain ⟨V1, hA1, hbind⟩ := (unhide HL1).bind; refine (next_any d s m z ck dep V1 _ (4 + 1) w1 hA1 (unhide HLN) (by omega)).mono ?_; rintro e w2 ⟨B2, c2', rfl, hc2, hcm2, hr2, hl2⟩; rw [unhide HTK] at hr2; rw [unhide HDR] at hl2; have hcut := hr2.cut (k := 1) (cap := c2') (by simp) (by simpa [beL] using hc2); simp only [List.drop_succ_cons, List.drop_zero] at hcut; have HCUT := hide hcut; have HL2 := hide (hbind _ _ hl2); clear hA1 hbind hr2 hl2 hcut))
    | (go_at_call 99; go_loud (refine (unhide HPK).mono ?_; rintro e w1 ⟨B, c, rfl, hc, hcm, hr1, hl1⟩; rw [unhide HT2] at hr1; obtain ⟨ad, rfl, _, hall⟩ := hr1.all_ (by simp); have hb0 : w1.cell? ad = some (.int .u8 198) := hall 0 (by simp); have HL1 := hide hl1; have c1 := hl1.ptr; clear hr1 hl1 hall)))
  go_region_held3 (fun _ => True) (trivial) ((go_at_call 108; go_loud (refine (beu32_any (fun b => b < w2.heap.size) (cutA B2 c2' 1 1) (beL n 4) 4 (c2' - 1) w2.drew rfl (Nat.le_refl _) ((unhide HCUT).keep (fun b hb => rfl)) (fun b hb => hb)).mono ?_; rintro e w3 ⟨rfl, hb3⟩; rw [unhide HBG]; have HL3 := hide (((unhide HL2).below (Below.refl _ _).drew).below hb3); have c3 := (unhide HL3).ptr; have m3 : m < w3.heap.size := (by obtain ⟨Vq, hq, _⟩ := (unhide HL3); exact hq.mlt); clear hb3)))
  clear hn1 hnb hx3
  go_wp2_with (first
    | (go_at_call 109; go_loud (obtain ⟨V2, hA2, hbind2⟩ := (unhide HL3).bind; refine (getMaxE d s m z ck dep V2 _ _ hA2).mono ?_; rintro e w9 ⟨rfl, rfl⟩; clear hA2 hbind2))
    | (go_at_call 110; go_loud (obtain ⟨V2, hA2, hbind2⟩ := (unhide HL3).bind; refine (readFull_pos d s m z w3.heap.size n ck dep V2 x t _ (hA2.below ((Below.refl _ _).alloc (Nat.le_refl _) (.cells Z.toArray 5))) (unhide HX) (by omega) ⟨Z.toArray, Blk.new _ _ _, by have h := unhide HZ; simpa using h, Nat.zero_le _, rfl⟩ hA2.mlt (fun e => by have := (hA2.room_lt e).2; omega)).mono ?_; rintro e w5 ⟨rfl, hrow5, V5, h5, hk5, ho5⟩; have HROW5 := hide hrow5; have HFIN := hide (hbind2 _ _ (full_left rfl rfl h5 hk5 ho5)); clear hA2 hbind2 hrow5 h5 hk5 ho5)))
  rw [unhide HTT]
  have hx := unhide HX
  subst hx
  exact ⟨_, _, rfl, row_reads5 (unhide HROW5), unhide HFIN⟩
set_option maxRecDepth 100000 in
set_option maxHeartbeats 3200000 in
theorem rdB_198z (d s m z : Nat) (ck dep : Int) (V : Value) (t : List UInt8) (w : World) (h : RdAny w d s m z ck dep V (UInt8.ofNat 198 :: beL 0 4 ++ (([] : List UInt8) ++ t))) :
    Calls Tryd.prog 69 #[.pointer (some ⟨m, 0, none⟩), .slice none 0 0] w (RdBytes d s m z ck dep V ([] : List UInt8) t w) := by
  have c0 := h.ptr
  have HPK := hide (peek_any d s m z ck dep V _ 2 w h (by simp [beL]) (by omega))
  have HT2 : Hid ((UInt8.ofNat 198 :: beL 0 4 ++ (([] : List UInt8) ++ t)).take 2 = [UInt8.ofNat 198, UInt8.ofNat (0 / 16777216)]) := rfl
  have HTK : Hid ((UInt8.ofNat 198 :: beL 0 4 ++ (([] : List UInt8) ++ t)).take (4 + 1) = UInt8.ofNat 198 :: beL 0 4) := rfl
  have HDR : Hid ((UInt8.ofNat 198 :: beL 0 4 ++ (([] : List UInt8) ++ t)).drop (4 + 1) = ([] : List UInt8) ++ t) := rfl
  have HLN : Hid (4 + 1 ≤ (UInt8.ofNat 198 :: beL 0 4 ++ (([] : List UInt8) ++ t)).length) := by
    show _ ≤ _
    simp [beL]
  have HBG : Hid (((bigU ((beL 0 4).take 4) : Nat) : Int) = 0) := by
    show _ = _
    rfl
  obtain ⟨T, hT⟩ : ∃ T, T = RdBytes d s m z ck dep V ([] : List UInt8) t w := ⟨_, rfl⟩
  rw [← hT]
  have HTT := hide hT
  clear hT h
  go_enter Tryd.func69, Tryd.ntmps69
  go_wp2_with (first
    | (go_at_call 106; go_loud (obtain ⟨V1, hA1, hbind⟩ := (unhide HL1).bind; refine (next_any d s m z ck dep V1 _ (4 + 1) w1 hA1 (unhide HLN) (by omega)).mono ?_; rintro e w2 ⟨B2, c2', rfl, hc2, hcm2, hr2, hl2⟩; rw [unhide HTK] at hr2; rw [unhide HDR] at hl2; have hcut := hr2.cut (k := 1) (cap := c2') (by simp) (by simpa [beL] using hc2); simp only [List.drop_succ_cons, List.drop_zero] at hcut; have HCUT := hide hcut; have HL2 := hide (hbind _ _ hl2); clear hA1 hbind hr2 hl2 hcut))
    | (go_at_call 99; go_loud (refine (unhide HPK).mono ?_; rintro e w1 ⟨B, c, rfl, hc, hcm, hr1, hl1⟩; rw [unhide HT2] at hr1; obtain ⟨ad, rfl, _, hall⟩ := hr1.all_ (by simp); have hb0 : w1.cell? ad = some (.int .u8 198) := hall 0 (by simp); have HL1 := hide hl1; have c1 := hl1.ptr; clear hr1 hl1 hall)))
  go_region_held3 (fun _ => True) (trivial) ((go_at_call 108; go_loud (refine (beu32_any (fun b => b < w2.heap.size) (cutA B2 c2' 1 1) (beL 0 4) 4 (c2' - 1) w2.drew rfl (Nat.le_refl _) ((unhide HCUT).keep (fun b hb => rfl)) (fun b hb => hb)).mono ?_; rintro e w3 ⟨rfl, hb3⟩; rw [unhide HBG]; have HL3 := hide (((unhide HL2).below (Below.refl _ _).drew).below hb3); have c3 := (unhide HL3).ptr; have m3 : m < w3.heap.size := (by obtain ⟨Vq, hq, _⟩ := (unhide HL3); exact hq.mlt); clear hb3)))
  go_wp2_with (first
    | (go_at_call 110; go_loud (obtain ⟨V2, hA2, hbind2⟩ := (unhide HL3).bind; refine (readFull_zero d s m z ck dep V2 t _ hA2).mono ?_; rintro e w5 ⟨rfl, hl5⟩; have HFIN := hide (hbind2 _ _ hl5); clear hA2 hbind2 hl5)))
  rw [unhide HTT]
  exact ⟨none, 0, rfl, RB.none_, unhide HFIN⟩
theorem readB_any (d s m z : Nat) (ck dep : Int) (V : Value) (x a t : List UInt8) (ha : encBin x a) (w : World) (h : RdAny w d s m z ck dep V (a ++ t)) :
    Calls Tryd.prog 69 #[.pointer (some ⟨m, 0, none⟩), .slice none 0 0] w (RdBytes d s m z ck dep V x t w) := by
  obtain ⟨hl, hd, hh, rfl⟩ := ha
  rw [List.append_assoc] at h
  rcases hh with ⟨e, _⟩ | ⟨e, _⟩ | ⟨_, hh⟩ | ⟨e, _⟩
  · omega
  · omega
  · rcases hh with ⟨h0, _, _⟩ | ⟨f, hf, hg, hb, rfl⟩
    · omega
    · simp only [List.mem_cons, List.not_mem_nil, or_false] at hf
      rcases Nat.eq_zero_or_pos x.length with h0 | h0
      · obtain rfl : x = [] := List.eq_nil_of_length_eq_zero h0
        rcases hf with rfl | rfl | rfl
        · exact rdB_196z d s m z ck dep V t w h
        · exact rdB_197z d s m z ck dep V t w h
        · exact rdB_198z d s m z ck dep V t w h
      · rcases hf with rfl | rfl | rfl
        · exact rdB_196 d s m z x.length ck dep V x t rfl hl (by simpa using hb) h0 w h
        · exact rdB_197 d s m z x.length ck dep V x t rfl hl (by simpa using hb) h0 w h
        · exact rdB_198 d s m z x.length ck dep V x t rfl hl (by omega) h0 w h
  · omega
theorem closBin_any (d s m z : Nat) (ck dep : Int) (V : Value) (x a b : List UInt8) (ha : encBin x a) (w : World) (h : RdAny w d s m z ck dep V (a ++ b)) :
    Calls Tryd.prog 68 #[.pointer (some ⟨m, 0, none⟩)] w (RdPost d s m z ck dep V (.string ⟨x.toArray⟩) b w) := by
  have HF := hide (readB_any d s m z ck dep V x a b ha w h)
  have kc := fun (w : World) (A : Option Addr) (c : Nat) (hr : RB w (fun b => b < w.heap.size) A x) => run_string_of_bytes (P := Tryd.prog) 26 9 5 Tryd.underlying26 Tryd.underlying5 Tryd.underlying9 hr c
  have HKC := hide kc
  obtain ⟨n, hn⟩ : ∃ n, n = x.length := ⟨_, rfl⟩
  have HN := hide hn
  clear h ha kc hn
  go_enter Tryd.func68, Tryd.ntmps68
  go_wp2_with (go_at_call 69; go_loud (refine (unhide HF).mono ?_; rintro e w1 ⟨B, c, rfl, hr, hl⟩; have hcv := unhide HKC w1 B c hr; rw [← unhide HN] at hcv ⊢; have HL := hide hl; clear hl hr))
  go_ret2
  exact ⟨rfl, unhide HL⟩
end Go.Proofs.YtpadbpmnejgckaaDoor
