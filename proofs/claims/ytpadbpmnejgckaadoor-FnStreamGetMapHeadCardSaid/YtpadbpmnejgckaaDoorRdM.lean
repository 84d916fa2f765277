/-
  msgp.Reader.ReadMapHeader and the closure over it. Conditions: a map's head stands next.
-/
import Derived.Test.YtpadbpmnejgckaaDoorRd
import Derived.Test.YtpadbpmnejgckaaDoorFixS
import Derived.Deep.RegionWith
import Derived.Deep.RegionHeld3
import Derived.BigRegion
namespace Go.Proofs.YtpadbpmnejgckaaDoor
set_option linter.unusedSimpArgs false
set_option linter.unusedVariables false
set_option linter.unusedVariables false
open Go.RowKit
def encMapH (n : Nat) (a : List UInt8) : Prop := n < 4294967296 ∧ HeadIs 9 n a
set_option maxRecDepth 100000 in
set_option maxHeartbeats 1600000 in
theorem rdM_fix (d s m z : Nat) (ck dep : Int) (V : Value) (b : UInt8) (x n : Nat) (hb : b.toNat = x) (h1 : 128 ≤ x) (h2 : x < 144) (hn : x % 16 = n) (t : List UInt8) (w : World) (h : RdAny w d s m z ck dep V (b :: t)) :
    Calls Tryd.prog 65 #[.pointer (some ⟨m, 0, none⟩)] w (RdPost d s m z ck dep V (.int .u32 (n : Int)) t w) := by
  have c0 := h.ptr
  have HPK := hide (peekByte_any d s m z ck dep V (b :: t) b t w h rfl)
  have HLD := hide hb
  have hfm := isfixmapS_any x (by omega)
  rw [decide_eq_true (show 128 ≤ x ∧ x < 144 from ⟨h1, h2⟩)] at hfm
  have hmm : (x : Int) % 16 = (n : Int) := by omega
  have hn16 : (n : Int) < 16 := by omega
  have hn0 : (0 : Int) ≤ (n : Int) := by omega
  obtain ⟨T, hT⟩ : ∃ T, T = RdPost d s m z ck dep V (.int .u32 (n : Int)) t w := ⟨_, rfl⟩
  rw [← hT]
  have HTT := hide hT
  have HFM := hide hfm
  have HMM := hide hmm
  clear hT h hb hfm hmm hn
  go_enter Tryd.func65, Tryd.ntmps65
  go_wp2_with (first
    | (go_at_call 102; go_loud (obtain ⟨V1, hA1, hbind⟩ := (unhide HL1).bind; refine (skip_any d s m z ck dep V1 _ 1 w1 hA1 (by simp) (by omega)).mono ?_; rintro e w3 ⟨rfl, hl3⟩; simp only [List.drop_succ_cons, List.drop_zero] at hl3; have HL3 := hide (hbind _ _ hl3); clear hA1 hbind hl3))
    | (go_at_call 104; refine (unhide HFM _).mono ?_; rintro e w9 ⟨rfl, rfl⟩)
    | (go_at_call 105; refine (rfixmapS_any x (by omega) _).mono ?_; rintro e w9 ⟨rfl, rfl⟩; rw [unhide HMM])
    | (go_at_call 103; go_loud (refine (unhide HPK).mono ?_; rintro e w1 ⟨rfl, hl1⟩; rw [unhide HLD]; have HL1 := hide hl1; have c1 := hl1.ptr; clear hl1)))
  rw [unhide HTT]
  exact ⟨rfl, unhide HL3⟩
set_option maxRecDepth 100000 in
set_option maxHeartbeats 1600000 in
theorem rdM_222 (d s m z : Nat) (ck dep : Int) (V : Value) (n : Nat) (hn : n < 65536) (t : List UInt8) (w : World) (h : RdAny w d s m z ck dep V (UInt8.ofNat 222 :: beL n 2 ++ t)) :
    Calls Tryd.prog 65 #[.pointer (some ⟨m, 0, none⟩)] w (RdPost d s m z ck dep V (.int .u32 (n : Int)) t w) := by
  have c0 := h.ptr
  have HPK := hide (peekByte_any d s m z ck dep V _ (UInt8.ofNat 222) (beL n 2 ++ t) w h rfl)
  have HLD : Hid ((UInt8.ofNat 222).toNat = 222) := rfl
  have HTK : Hid ((UInt8.ofNat 222 :: beL n 2 ++ t).take 3 = UInt8.ofNat 222 :: beL n 2) := rfl
  have HDR : Hid ((UInt8.ofNat 222 :: beL n 2 ++ t).drop 3 = t) := rfl
  have HLN : Hid (3 ≤ (UInt8.ofNat 222 :: beL n 2 ++ t).length) := by
    show _ ≤ _
    simp [beL]
  have hfm := isfixmapS_any 222 (by omega)
  rw [decide_eq_false (show ¬ (128 ≤ 222 ∧ 222 < 144) by omega)] at hfm
  have HBG : Hid (((bigU ((beL n 2).take 2) : Nat) : Int) = n) := by
    show _ = _
    rw [show (beL n 2).take 2 = beL n 2 from rfl, bigU2 n hn]
  have hn1 : (n : Int) < 65536 := by omega
  have hw32 : IntKind.u32.wrap (n : Int) = (n : Int) := by
    simp [IntKind.wrap, IntKind.bits, IntKind.signed]
    omega
  have hn0 : (0 : Int) ≤ (n : Int) := by omega
  obtain ⟨T, hT⟩ : ∃ T, T = RdPost d s m z ck dep V (.int .u32 (n : Int)) t w := ⟨_, rfl⟩
  rw [← hT]
  have HTT := hide hT
  have HFM := hide hfm
  clear hT h hfm
  go_enter Tryd.func65, Tryd.ntmps65
  go_wp2_with (first
    | (go_at_call 106; go_loud (obtain ⟨V1, hA1, hbind⟩ := (unhide HL1).bind; refine (next_any d s m z ck dep V1 _ 3 w1 hA1 (unhide HLN) (by omega)).mono ?_; rintro e w2 ⟨B2, c2', rfl, hc2, hcm2, hr2, hl2⟩; rw [unhide HTK] at hr2; rw [unhide HDR] at hl2; have hcut := hr2.cut (k := 1) (cap := c2') (by simp) (by simpa [beL] using hc2); simp only [List.drop_succ_cons, List.drop_zero] at hcut; have HCUT := hide hcut; have HL2 := hide (hbind _ _ hl2); clear hA1 hbind hr2 hl2 hcut))
    | (go_at_call 104; refine (unhide HFM _).mono ?_; rintro e w9 ⟨rfl, rfl⟩)
    | (go_at_call 103; go_loud (refine (unhide HPK).mono ?_; rintro e w1 ⟨rfl, hl1⟩; rw [unhide HLD]; have HL1 := hide hl1; have c1 := hl1.ptr; clear hl1)))
  go_region_held3 (fun _ => True) (trivial) ((go_at_call 107; go_loud (refine (beu16_any (fun b => b < w2.heap.size) (cutA B2 c2' 1 1) (beL n 2) 2 (c2' - 1) w2.drew rfl (Nat.le_refl _) ((unhide HCUT).keep (fun b hb => rfl)) (fun b hb => hb)).mono ?_; rintro e w3 ⟨rfl, hb3⟩; rw [unhide HBG]; have HL3 := hide (((unhide HL2).below (Below.refl _ _).drew).below hb3); clear hb3)))
  go_wp2_with fail
  rw [unhide HTT]
  exact ⟨rfl, unhide HL3⟩
set_option maxRecDepth 100000 in
set_option maxHeartbeats 1600000 in
theorem rdM_223 (d s m z : Nat) (ck dep : Int) (V : Value) (n : Nat) (hn : n < 4294967296) (t : List UInt8) (w : World) (h : RdAny w d s m z ck dep V (UInt8.ofNat 223 :: beL n 4 ++ t)) :
    Calls Tryd.prog 65 #[.pointer (some ⟨m, 0, none⟩)] w (RdPost d s m z ck dep V (.int .u32 (n : Int)) t w) := by
  have c0 := h.ptr
  have HPK := hide (peekByte_any d s m z ck dep V _ (UInt8.ofNat 223) (beL n 4 ++ t) w h rfl)
  have HLD : Hid ((UInt8.ofNat 223).toNat = 223) := rfl
  have HTK : Hid ((UInt8.ofNat 223 :: beL n 4 ++ t).take 5 = UInt8.ofNat 223 :: beL n 4) := rfl
  have HDR : Hid ((UInt8.ofNat 223 :: beL n 4 ++ t).drop 5 = t) := rfl
  have HLN : Hid (5 ≤ (UInt8.ofNat 223 :: beL n 4 ++ t).length) := by
    show _ ≤ _
    simp [beL]
  have hfm := isfixmapS_any 223 (by omega)
  rw [decide_eq_false (show ¬ (128 ≤ 223 ∧ 223 < 144) by omega)] at hfm
  have HBG : Hid (((bigU ((beL n 4).take 4) : Nat) : Int) = n) := by
    show _ = _
    rw [show (beL n 4).take 4 = beL n 4 from rfl, bigU4 n hn]
  have hn1 : (n : Int) < 4294967296 := by omega
  have hn0 : (0 : Int) ≤ (n : Int) := by omega
  obtain ⟨T, hT⟩ : ∃ T, T = RdPost d s m z ck dep V (.int .u32 (n : Int)) t w := ⟨_, rfl⟩
  rw [← hT]
  have HTT := hide hT
  have HFM := hide hfm
  clear hT h hfm
  go_enter Tryd.func65, Tryd.ntmps65
  go_wp2_with (first
    | (go_at_call 106; go_loud (obtain ⟨V1, hA1, hbind⟩ := (unhide HL1).bind; refine (next_any d s m z ck dep V1 _ 5 w1 hA1 (unhide HLN) (by omega)).mono ?_; rintro e w2 ⟨B2, c2', rfl, hc2, hcm2, hr2, hl2⟩; rw [unhide HTK] at hr2; rw [unhide HDR] at hl2; have hcut := hr2.cut (k := 1) (cap := c2') (by simp) (by simpa [beL] using hc2); simp only [List.drop_succ_cons, List.drop_zero] at hcut; have HCUT := hide hcut; have HL2 := hide (hbind _ _ hl2); clear hA1 hbind hr2 hl2 hcut))
    | (go_at_call 104; refine (unhide HFM _).mono ?_; rintro e w9 ⟨rfl, rfl⟩)
    | (go_at_call 103; go_loud (refine (unhide HPK).mono ?_; rintro e w1 ⟨rfl, hl1⟩; rw [unhide HLD]; have HL1 := hide hl1; have c1 := hl1.ptr; clear hl1)))
  go_region_held3 (fun _ => True) (trivial) ((go_at_call 108; go_loud (refine (beu32_any (fun b => b < w2.heap.size) (cutA B2 c2' 1 1) (beL n 4) 4 (c2' - 1) w2.drew rfl (Nat.le_refl _) ((unhide HCUT).keep (fun b hb => rfl)) (fun b hb => hb)).mono ?_; rintro e w3 ⟨rfl, hb3⟩; rw [unhide HBG]; have HL3 := hide (((unhide HL2).below (Below.refl _ _).drew).below hb3); clear hb3)))
  go_wp2_with fail
  rw [unhide HTT]
  exact ⟨rfl, unhide HL3⟩
theorem readMapH_any (d s m z : Nat) (ck dep : Int) (V : Value) (n : Nat) (a t : List UInt8) (ha : encMapH n a) (w : World) (h : RdAny w d s m z ck dep V (a ++ t)) :
    Calls Tryd.prog 65 #[.pointer (some ⟨m, 0, none⟩)] w (RdPost d s m z ck dep V (.int .u32 (n : Int)) t w) := by
  obtain ⟨hn, hh⟩ := ha
  rcases hh with ⟨e, _⟩ | ⟨_, hh⟩ | ⟨e, _⟩ | ⟨e, _⟩
  · omega
  · rcases hh with ⟨_, h1, rfl⟩ | ⟨f, hf, hg, hb, rfl⟩
    · have e : (UInt8.ofNat ((128 : Int).toNat + n)).toNat = 128 + n := by simp; omega
      exact rdM_fix d s m z ck dep V _ (128 + n) n e (by omega) (by omega) (by omega) t w h
    · simp only [List.mem_cons, List.not_mem_nil, or_false] at hf
      rcases hf with rfl | rfl
      · exact rdM_222 d s m z ck dep V n (by simpa using hb) t w h
      · exact rdM_223 d s m z ck dep V n hn t w h
  · omega
  · omega
theorem closMapH_any (d s m z : Nat) (ck dep : Int) (V : Value) (n : Nat) (a b : List UInt8) (ha : encMapH n a) (w : World) (h : RdAny w d s m z ck dep V (a ++ b)) :
    Calls Tryd.prog 64 #[.pointer (some ⟨m, 0, none⟩)] w (RdPost d s m z ck dep V (.int .u32 (n : Int)) b w) := by
  have HF := hide (readMapH_any d s m z ck dep V n a b ha w h)
  clear h ha
  go_enter Tryd.func64, Tryd.ntmps64
  go_wp2_with (go_at_call 65; go_loud (refine (unhide HF).mono ?_; rintro e w1 ⟨rfl, hl⟩; have HL := hide hl; clear hl))
  go_ret2
  exact ⟨rfl, unhide HL⟩
end Go.Proofs.YtpadbpmnejgckaaDoor
