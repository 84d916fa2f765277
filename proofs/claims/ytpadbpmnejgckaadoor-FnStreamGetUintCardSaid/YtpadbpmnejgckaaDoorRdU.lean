/-
  msgp.Reader.ReadUint64, ReadUint, and the closure over it. Conditions: the number stands next.
-/
import Derived.Test.YtpadbpmnejgckaaDoorRd
import Derived.Test.YtpadbpmnejgckaaDoorFixS
namespace Go.Proofs.YtpadbpmnejgckaaDoor
set_option linter.unusedSimpArgs false
set_option linter.unusedVariables false
set_option linter.unusedVariables false
open Go.RowKit
set_option maxRecDepth 100000 in
set_option maxHeartbeats 1600000 in
theorem rdU_lo (d s m z : Nat) (ck dep : Int) (V : Value) (b : UInt8) (x : Nat) (hb : b.toNat = x) (hx : x < 128) (t : List UInt8) (w : World) (h : RdAny w d s m z ck dep V (b :: t)) :
    Calls Tryd.prog 114 #[.pointer (some ⟨m, 0, none⟩)] w (RdPost d s m z ck dep V (.int .u64 ((x : Int))) t w) := by
  have c0 := h.ptr
  have HPK := hide (peekByte_any d s m z ck dep V (b :: t) b t w h rfl)
  have HLD := hide hb
  obtain ⟨T, hT⟩ : ∃ T, T = RdPost d s m z ck dep V (.int .u64 ((x : Int))) t w := ⟨_, rfl⟩
  rw [← hT]
  have HTT := hide hT
  clear hT h hb
  go_enter Tryd.func114, Tryd.ntmps114
  go_wp2_with (first
    | (go_at_call 102; go_loud (obtain ⟨V1, hA1, hbind⟩ := (unhide HL1).bind; refine (skip_any d s m z ck dep V1 _ 1 w1 hA1 (by simp) (by omega)).mono ?_; rintro e w3 ⟨rfl, hl3⟩; simp only [List.drop_succ_cons, List.drop_zero] at hl3; have HL3 := hide (hbind _ _ hl3); clear hA1 hbind hl3))
    | (go_at_call 124; refine (isfixint_yes x hx _).mono ?_; rintro e w9 ⟨rfl, rfl⟩)
    | (go_at_call 125; refine (rfixint_any x _).mono ?_; rintro e w9 ⟨rfl, rfl⟩)
    | (go_at_call 103; go_loud (refine (unhide HPK).mono ?_; rintro e w1 ⟨rfl, hl1⟩; rw [unhide HLD]; have HL1 := hide hl1; have c1 := hl1.ptr; clear hl1)))
  rw [unhide HTT]
  exact ⟨rfl, unhide HL3⟩
set_option maxRecDepth 100000 in
set_option maxHeartbeats 1600000 in
theorem rdU_208 (d s m z : Nat) (ck dep : Int) (V : Value) (bl : List UInt8) (v : Int) (hbl : bl.length = 1) (hv : sgn 1 (bigU (bl.take 1)) = v) (h1 : 0 ≤ v) (h2 : v ≤ 127) (t : List UInt8) (w : World) (h : RdAny w d s m z ck dep V (UInt8.ofNat 208 :: bl ++ t)) :
    Calls Tryd.prog 114 #[.pointer (some ⟨m, 0, none⟩)] w (RdPost d s m z ck dep V (.int .u64 v) t w) := by
  have c0 := h.ptr
  have HPK := hide (peekByte_any d s m z ck dep V _ (UInt8.ofNat 208) (bl ++ t) w h rfl)
  have HLD : Hid ((UInt8.ofNat 208).toNat = 208) := rfl
  have HV := hide hv
  have HBL := hide hbl
  have HTK : Hid ((UInt8.ofNat 208 :: bl ++ t).take (1 + 1) = UInt8.ofNat 208 :: bl) := by
    show _ = _
    rw [List.cons_append, List.take_succ_cons, List.take_left' hbl]
  have HDR : Hid ((UInt8.ofNat 208 :: bl ++ t).drop (1 + 1) = t) := by
    show _ = _
    rw [List.cons_append, List.drop_succ_cons, List.drop_left' hbl]
  have HLN : Hid (1 + 1 ≤ (UInt8.ofNat 208 :: bl ++ t).length) := by
    show _ ≤ _
    simp
    omega
  obtain ⟨T, hT⟩ : ∃ T, T = RdPost d s m z ck dep V (.int .u64 v) t w := ⟨_, rfl⟩
  rw [← hT]
  have HTT := hide hT
  clear hT h hv hbl
  go_enter Tryd.func114, Tryd.ntmps114
  go_wp2_with (first
    | (go_at_call 144; go_loud (refine (getMint8_any (fun b => b < w2.heap.size) B2 (UInt8.ofNat 208) bl (1 + 1) c2' w2 (by rw [List.length_cons, unhide HBL]) (by rw [unhide HBL]; omega) (unhide HB2) (fun b hb => hb)).mono ?_; rintro e w3 ⟨rfl, hq⟩; rw [unhide HV]; have HL3 := hide ((unhide HL2).below hq.below_); clear hq))
    | (go_at_call 124; refine (isfixint_no 208 (by omega) (by omega) _).mono ?_; rintro e w9 ⟨rfl, rfl⟩)
    | (go_at_call 106; go_loud (obtain ⟨V1, hA1, hbind⟩ := (unhide HL1).bind; refine (next_any d s m z ck dep V1 _ (1 + 1) w1 hA1 (unhide HLN) (by omega)).mono ?_; rintro e w2 ⟨B2, c2', rfl, hc2, hcm2, hr2, hl2⟩; rw [unhide HTK] at hr2; rw [unhide HDR] at hl2; have HB2 := hide hr2; have HL2 := hide (hbind _ _ hl2); clear hA1 hbind hr2 hl2))
    | (go_at_call 103; go_loud (refine (unhide HPK).mono ?_; rintro e w1 ⟨rfl, hl1⟩; rw [unhide HLD]; have HL1 := hide hl1; have c1 := hl1.ptr; clear hl1)))
  rw [unhide HTT]
  exact ⟨rfl, unhide HL3⟩
set_option maxRecDepth 100000 in
set_option maxHeartbeats 1600000 in
theorem rdU_204 (d s m z : Nat) (ck dep : Int) (V : Value) (bl : List UInt8) (v : Int) (hbl : bl.length = 1) (hv : ((bigU (bl.take 1) : Nat) : Int) = v) (h1 : 0 ≤ v) (h2 : v ≤ 255) (t : List UInt8) (w : World) (h : RdAny w d s m z ck dep V (UInt8.ofNat 204 :: bl ++ t)) :
    Calls Tryd.prog 114 #[.pointer (some ⟨m, 0, none⟩)] w (RdPost d s m z ck dep V (.int .u64 v) t w) := by
  have c0 := h.ptr
  have HPK := hide (peekByte_any d s m z ck dep V _ (UInt8.ofNat 204) (bl ++ t) w h rfl)
  have HLD : Hid ((UInt8.ofNat 204).toNat = 204) := rfl
  have HV := hide hv
  have HBL := hide hbl
  have HTK : Hid ((UInt8.ofNat 204 :: bl ++ t).take (1 + 1) = UInt8.ofNat 204 :: bl) := by
    show _ = _
    rw [List.cons_append, List.take_succ_cons, List.take_left' hbl]
  have HDR : Hid ((UInt8.ofNat 204 :: bl ++ t).drop (1 + 1) = t) := by
    show _ = _
    rw [List.cons_append, List.drop_succ_cons, List.drop_left' hbl]
  have HLN : Hid (1 + 1 ≤ (UInt8.ofNat 204 :: bl ++ t).length) := by
    show _ ≤ _
    simp
    omega
  obtain ⟨T, hT⟩ : ∃ T, T = RdPost d s m z ck dep V (.int .u64 v) t w := ⟨_, rfl⟩
  rw [← hT]
  have HTT := hide hT
  clear hT h hv hbl
  go_enter Tryd.func114, Tryd.ntmps114
  go_wp2_with (first
    | (go_at_call 145; go_loud (refine (getMuint8_any (fun b => b < w2.heap.size) B2 (UInt8.ofNat 204) bl (1 + 1) c2' w2 (by rw [List.length_cons, unhide HBL]) (by rw [unhide HBL]; omega) (unhide HB2) (fun b hb => hb)).mono ?_; rintro e w3 ⟨rfl, hq⟩; rw [unhide HV]; have HL3 := hide ((unhide HL2).below hq.below_); clear hq))
    | (go_at_call 124; refine (isfixint_no 204 (by omega) (by omega) _).mono ?_; rintro e w9 ⟨rfl, rfl⟩)
    | (go_at_call 106; go_loud (obtain ⟨V1, hA1, hbind⟩ := (unhide HL1).bind; refine (next_any d s m z ck dep V1 _ (1 + 1) w1 hA1 (unhide HLN) (by omega)).mono ?_; rintro e w2 ⟨B2, c2', rfl, hc2, hcm2, hr2, hl2⟩; rw [unhide HTK] at hr2; rw [unhide HDR] at hl2; have HB2 := hide hr2; have HL2 := hide (hbind _ _ hl2); clear hA1 hbind hr2 hl2))
    | (go_at_call 103; go_loud (refine (unhide HPK).mono ?_; rintro e w1 ⟨rfl, hl1⟩; rw [unhide HLD]; have HL1 := hide hl1; have c1 := hl1.ptr; clear hl1)))
  rw [unhide HTT]
  exact ⟨rfl, unhide HL3⟩
set_option maxRecDepth 100000 in
set_option maxHeartbeats 1600000 in
theorem rdU_209 (d s m z : Nat) (ck dep : Int) (V : Value) (bl : List UInt8) (v : Int) (hbl : bl.length = 2) (hv : sgn 2 (bigU (bl.take 2)) = v) (h1 : 0 ≤ v) (h2 : v ≤ 32767) (t : List UInt8) (w : World) (h : RdAny w d s m z ck dep V (UInt8.ofNat 209 :: bl ++ t)) :
    Calls Tryd.prog 114 #[.pointer (some ⟨m, 0, none⟩)] w (RdPost d s m z ck dep V (.int .u64 v) t w) := by
  have c0 := h.ptr
  have HPK := hide (peekByte_any d s m z ck dep V _ (UInt8.ofNat 209) (bl ++ t) w h rfl)
  have HLD : Hid ((UInt8.ofNat 209).toNat = 209) := rfl
  have HV := hide hv
  have HBL := hide hbl
  have HTK : Hid ((UInt8.ofNat 209 :: bl ++ t).take (2 + 1) = UInt8.ofNat 209 :: bl) := by
    show _ = _
    rw [List.cons_append, List.take_succ_cons, List.take_left' hbl]
  have HDR : Hid ((UInt8.ofNat 209 :: bl ++ t).drop (2 + 1) = t) := by
    show _ = _
    rw [List.cons_append, List.drop_succ_cons, List.drop_left' hbl]
  have HLN : Hid (2 + 1 ≤ (UInt8.ofNat 209 :: bl ++ t).length) := by
    show _ ≤ _
    simp
    omega
  obtain ⟨T, hT⟩ : ∃ T, T = RdPost d s m z ck dep V (.int .u64 v) t w := ⟨_, rfl⟩
  rw [← hT]
  have HTT := hide hT
  clear hT h hv hbl
  go_enter Tryd.func114, Tryd.ntmps114
  go_wp2_with (first
    | (go_at_call 146; go_loud (refine (getMint16_any (fun b => b < w2.heap.size) B2 (UInt8.ofNat 209) bl (2 + 1) c2' w2 (by rw [List.length_cons, unhide HBL]) (by rw [unhide HBL]; omega) (unhide HB2) (fun b hb => hb)).mono ?_; rintro e w3 ⟨rfl, hq⟩; rw [unhide HV]; have HL3 := hide ((unhide HL2).below hq.below_); clear hq))
    | (go_at_call 124; refine (isfixint_no 209 (by omega) (by omega) _).mono ?_; rintro e w9 ⟨rfl, rfl⟩)
    | (go_at_call 106; go_loud (obtain ⟨V1, hA1, hbind⟩ := (unhide HL1).bind; refine (next_any d s m z ck dep V1 _ (2 + 1) w1 hA1 (unhide HLN) (by omega)).mono ?_; rintro e w2 ⟨B2, c2', rfl, hc2, hcm2, hr2, hl2⟩; rw [unhide HTK] at hr2; rw [unhide HDR] at hl2; have HB2 := hide hr2; have HL2 := hide (hbind _ _ hl2); clear hA1 hbind hr2 hl2))
    | (go_at_call 103; go_loud (refine (unhide HPK).mono ?_; rintro e w1 ⟨rfl, hl1⟩; rw [unhide HLD]; have HL1 := hide hl1; have c1 := hl1.ptr; clear hl1)))
  rw [unhide HTT]
  exact ⟨rfl, unhide HL3⟩
set_option maxRecDepth 100000 in
set_option maxHeartbeats 1600000 in
theorem rdU_205 (d s m z : Nat) (ck dep : Int) (V : Value) (bl : List UInt8) (v : Int) (hbl : bl.length = 2) (hv : ((bigU (bl.take 2) : Nat) : Int) = v) (h1 : 0 ≤ v) (h2 : v ≤ 65535) (t : List UInt8) (w : World) (h : RdAny w d s m z ck dep V (UInt8.ofNat 205 :: bl ++ t)) :
    Calls Tryd.prog 114 #[.pointer (some ⟨m, 0, none⟩)] w (RdPost d s m z ck dep V (.int .u64 v) t w) := by
  have c0 := h.ptr
  have HPK := hide (peekByte_any d s m z ck dep V _ (UInt8.ofNat 205) (bl ++ t) w h rfl)
  have HLD : Hid ((UInt8.ofNat 205).toNat = 205) := rfl
  have HV := hide hv
  have HBL := hide hbl
  have HTK : Hid ((UInt8.ofNat 205 :: bl ++ t).take (2 + 1) = UInt8.ofNat 205 :: bl) := by
    show _ = _
    rw [List.cons_append, List.take_succ_cons, List.take_left' hbl]
  have HDR : Hid ((UInt8.ofNat 205 :: bl ++ t).drop (2 + 1) = t) := by
    show _ = _
    rw [List.cons_append, List.drop_succ_cons, List.drop_left' hbl]
  have HLN : Hid (2 + 1 ≤ (UInt8.ofNat 205 :: bl ++ t).length) := by
    show _ ≤ _
    simp
    omega
  obtain ⟨T, hT⟩ : ∃ T, T = RdPost d s m z ck dep V (.int .u64 v) t w := ⟨_, rfl⟩
  rw [← hT]
  have HTT := hide hT
  clear hT h hv hbl
  go_enter Tryd.func114, Tryd.ntmps114
  go_wp2_with (first
    | (go_at_call 147; go_loud (refine (getMuint16_any (fun b => b < w2.heap.size) B2 (UInt8.ofNat 205) bl (2 + 1) c2' w2 (by rw [List.length_cons, unhide HBL]) (by rw [unhide HBL]; omega) (unhide HB2) (fun b hb => hb)).mono ?_; rintro e w3 ⟨rfl, hq⟩; rw [unhide HV]; have HL3 := hide ((unhide HL2).below hq.below_); clear hq))
    | (go_at_call 124; refine (isfixint_no 205 (by omega) (by omega) _).mono ?_; rintro e w9 ⟨rfl, rfl⟩)
    | (go_at_call 106; go_loud (obtain ⟨V1, hA1, hbind⟩ := (unhide HL1).bind; refine (next_any d s m z ck dep V1 _ (2 + 1) w1 hA1 (unhide HLN) (by omega)).mono ?_; rintro e w2 ⟨B2, c2', rfl, hc2, hcm2, hr2, hl2⟩; rw [unhide HTK] at hr2; rw [unhide HDR] at hl2; have HB2 := hide hr2; have HL2 := hide (hbind _ _ hl2); clear hA1 hbind hr2 hl2))
    | (go_at_call 103; go_loud (refine (unhide HPK).mono ?_; rintro e w1 ⟨rfl, hl1⟩; rw [unhide HLD]; have HL1 := hide hl1; have c1 := hl1.ptr; clear hl1)))
  rw [unhide HTT]
  exact ⟨rfl, unhide HL3⟩
set_option maxRecDepth 100000 in
set_option maxHeartbeats 1600000 in
theorem rdU_210 (d s m z : Nat) (ck dep : Int) (V : Value) (bl : List UInt8) (v : Int) (hbl : bl.length = 4) (hv : sgn 4 (bigU (bl.take 4)) = v) (h1 : 0 ≤ v) (h2 : v ≤ 2147483647) (t : List UInt8) (w : World) (h : RdAny w d s m z ck dep V (UInt8.ofNat 210 :: bl ++ t)) :
    Calls Tryd.prog 114 #[.pointer (some ⟨m, 0, none⟩)] w (RdPost d s m z ck dep V (.int .u64 v) t w) := by
  have c0 := h.ptr
  have HPK := hide (peekByte_any d s m z ck dep V _ (UInt8.ofNat 210) (bl ++ t) w h rfl)
  have HLD : Hid ((UInt8.ofNat 210).toNat = 210) := rfl
  have HV := hide hv
  have HBL := hide hbl
  have HTK : Hid ((UInt8.ofNat 210 :: bl ++ t).take (4 + 1) = UInt8.ofNat 210 :: bl) := by
    show _ = _
    rw [List.cons_append, List.take_succ_cons, List.take_left' hbl]
  have HDR : Hid ((UInt8.ofNat 210 :: bl ++ t).drop (4 + 1) = t) := by
    show _ = _
    rw [List.cons_append, List.drop_succ_cons, List.drop_left' hbl]
  have HLN : Hid (4 + 1 ≤ (UInt8.ofNat 210 :: bl ++ t).length) := by
    show _ ≤ _
    simp
    omega
  obtain ⟨T, hT⟩ : ∃ T, T = RdPost d s m z ck dep V (.int .u64 v) t w := ⟨_, rfl⟩
  rw [← hT]
  have HTT := hide hT
  clear hT h hv hbl
  go_enter Tryd.func114, Tryd.ntmps114
  go_wp2_with (first
    | (go_at_call 148; go_loud (refine (getMint32_any (fun b => b < w2.heap.size) B2 (UInt8.ofNat 210) bl (4 + 1) c2' w2 (by rw [List.length_cons, unhide HBL]) (by rw [unhide HBL]; omega) (unhide HB2) (fun b hb => hb)).mono ?_; rintro e w3 ⟨rfl, hq⟩; rw [unhide HV]; have HL3 := hide ((unhide HL2).below hq.below_); clear hq))
    | (go_at_call 124; refine (isfixint_no 210 (by omega) (by omega) _).mono ?_; rintro e w9 ⟨rfl, rfl⟩)
    | (go_at_call 106; go_loud (obtain ⟨V1, hA1, hbind⟩ := (unhide HL1).bind; refine (next_any d s m z ck dep V1 _ (4 + 1) w1 hA1 (unhide HLN) (by omega)).mono ?_; rintro e w2 ⟨B2, c2', rfl, hc2, hcm2, hr2, hl2⟩; rw [unhide HTK] at hr2; rw [unhide HDR] at hl2; have HB2 := hide hr2; have HL2 := hide (hbind _ _ hl2); clear hA1 hbind hr2 hl2))
    | (go_at_call 103; go_loud (refine (unhide HPK).mono ?_; rintro e w1 ⟨rfl, hl1⟩; rw [unhide HLD]; have HL1 := hide hl1; have c1 := hl1.ptr; clear hl1)))
  rw [unhide HTT]
  exact ⟨rfl, unhide HL3⟩
set_option maxRecDepth 100000 in
set_option maxHeartbeats 1600000 in
theorem rdU_206 (d s m z : Nat) (ck dep : Int) (V : Value) (bl : List UInt8) (v : Int) (hbl : bl.length = 4) (hv : ((bigU (bl.take 4) : Nat) : Int) = v) (h1 : 0 ≤ v) (h2 : v ≤ 4294967295) (t : List UInt8) (w : World) (h : RdAny w d s m z ck dep V (UInt8.ofNat 206 :: bl ++ t)) :
    Calls Tryd.prog 114 #[.pointer (some ⟨m, 0, none⟩)] w (RdPost d s m z ck dep V (.int .u64 v) t w) := by
  have c0 := h.ptr
  have HPK := hide (peekByte_any d s m z ck dep V _ (UInt8.ofNat 206) (bl ++ t) w h rfl)
  have HLD : Hid ((UInt8.ofNat 206).toNat = 206) := rfl
  have HV := hide hv
  have HBL := hide hbl
  have HTK : Hid ((UInt8.ofNat 206 :: bl ++ t).take (4 + 1) = UInt8.ofNat 206 :: bl) := by
    show _ = _
    rw [List.cons_append, List.take_succ_cons, List.take_left' hbl]
  have HDR : Hid ((UInt8.ofNat 206 :: bl ++ t).drop (4 + 1) = t) := by
    show _ = _
    rw [List.cons_append, List.drop_succ_cons, List.drop_left' hbl]
  have HLN : Hid (4 + 1 ≤ (UInt8.ofNat 206 :: bl ++ t).length) := by
    show _ ≤ _
    simp
    omega
  obtain ⟨T, hT⟩ : ∃ T, T = RdPost d s m z ck dep V (.int .u64 v) t w := ⟨_, rfl⟩
  rw [← hT]
  have HTT := hide hT
  clear hT h hv hbl
  go_enter Tryd.func114, Tryd.ntmps114
  go_wp2_with (first
    | (go_at_call 101; go_loud (refine (getMuint32_any (fun b => b < w2.heap.size) B2 (UInt8.ofNat 206) bl (4 + 1) c2' w2 (by rw [List.length_cons, unhide HBL]) (by rw [unhide HBL]; omega) (unhide HB2) (fun b hb => hb)).mono ?_; rintro e w3 ⟨rfl, hq⟩; rw [unhide HV]; have HL3 := hide ((unhide HL2).below hq.below_); clear hq))
    | (go_at_call 124; refine (isfixint_no 206 (by omega) (by omega) _).mono ?_; rintro e w9 ⟨rfl, rfl⟩)
    | (go_at_call 106; go_loud (obtain ⟨V1, hA1, hbind⟩ := (unhide HL1).bind; refine (next_any d s m z ck dep V1 _ (4 + 1) w1 hA1 (unhide HLN) (by omega)).mono ?_; rintro e w2 ⟨B2, c2', rfl, hc2, hcm2, hr2, hl2⟩; rw [unhide HTK] at hr2; rw [unhide HDR] at hl2; have HB2 := hide hr2; have HL2 := hide (hbind _ _ hl2); clear hA1 hbind hr2 hl2))
    | (go_at_call 103; go_loud (refine (unhide HPK).mono ?_; rintro e w1 ⟨rfl, hl1⟩; rw [unhide HLD]; have HL1 := hide hl1; have c1 := hl1.ptr; clear hl1)))
  rw [unhide HTT]
  exact ⟨rfl, unhide HL3⟩
set_option maxRecDepth 100000 in
set_option maxHeartbeats 1600000 in
theorem rdU_211 (d s m z : Nat) (ck dep : Int) (V : Value) (bl : List UInt8) (v : Int) (hbl : bl.length = 8) (hv : sgn 8 (bigU (bl.take 8)) = v) (h1 : 0 ≤ v) (h2 : v ≤ 9223372036854775807) (t : List UInt8) (w : World) (h : RdAny w d s m z ck dep V (UInt8.ofNat 211 :: bl ++ t)) :
    Calls Tryd.prog 114 #[.pointer (some ⟨m, 0, none⟩)] w (RdPost d s m z ck dep V (.int .u64 v) t w) := by
  have c0 := h.ptr
  have HPK := hide (peekByte_any d s m z ck dep V _ (UInt8.ofNat 211) (bl ++ t) w h rfl)
  have HLD : Hid ((UInt8.ofNat 211).toNat = 211) := rfl
  have HV := hide hv
  have HBL := hide hbl
  have HTK : Hid ((UInt8.ofNat 211 :: bl ++ t).take (8 + 1) = UInt8.ofNat 211 :: bl) := by
    show _ = _
    rw [List.cons_append, List.take_succ_cons, List.take_left' hbl]
  have HDR : Hid ((UInt8.ofNat 211 :: bl ++ t).drop (8 + 1) = t) := by
    show _ = _
    rw [List.cons_append, List.drop_succ_cons, List.drop_left' hbl]
  have HLN : Hid (8 + 1 ≤ (UInt8.ofNat 211 :: bl ++ t).length) := by
    show _ ≤ _
    simp
    omega
  obtain ⟨T, hT⟩ : ∃ T, T = RdPost d s m z ck dep V (.int .u64 v) t w := ⟨_, rfl⟩
  rw [← hT]
  have HTT := hide hT
  clear hT h hv hbl
  go_enter Tryd.func114, Tryd.ntmps114
  go_wp2_with (first
    | (go_at_call 149; go_loud (refine (getMint64_any (fun b => b < w2.heap.size) B2 (UInt8.ofNat 211) bl (8 + 1) c2' w2 (by rw [List.length_cons, unhide HBL]) (by rw [unhide HBL]; omega) (unhide HB2) (fun b hb => hb)).mono ?_; rintro e w3 ⟨rfl, hq⟩; rw [unhide HV]; have HL3 := hide ((unhide HL2).below hq.below_); clear hq))
    | (go_at_call 124; refine (isfixint_no 211 (by omega) (by omega) _).mono ?_; rintro e w9 ⟨rfl, rfl⟩)
    | (go_at_call 106; go_loud (obtain ⟨V1, hA1, hbind⟩ := (unhide HL1).bind; refine (next_any d s m z ck dep V1 _ (8 + 1) w1 hA1 (unhide HLN) (by omega)).mono ?_; rintro e w2 ⟨B2, c2', rfl, hc2, hcm2, hr2, hl2⟩; rw [unhide HTK] at hr2; rw [unhide HDR] at hl2; have HB2 := hide hr2; have HL2 := hide (hbind _ _ hl2); clear hA1 hbind hr2 hl2))
    | (go_at_call 103; go_loud (refine (unhide HPK).mono ?_; rintro e w1 ⟨rfl, hl1⟩; rw [unhide HLD]; have HL1 := hide hl1; have c1 := hl1.ptr; clear hl1)))
  rw [unhide HTT]
  exact ⟨rfl, unhide HL3⟩
set_option maxRecDepth 100000 in
set_option maxHeartbeats 1600000 in
theorem rdU_207 (d s m z : Nat) (ck dep : Int) (V : Value) (bl : List UInt8) (v : Int) (hbl : bl.length = 8) (hv : ((bigU (bl.take 8) : Nat) : Int) = v) (h1 : 0 ≤ v) (h2 : v ≤ 18446744073709551615) (t : List UInt8) (w : World) (h : RdAny w d s m z ck dep V (UInt8.ofNat 207 :: bl ++ t)) :
    Calls Tryd.prog 114 #[.pointer (some ⟨m, 0, none⟩)] w (RdPost d s m z ck dep V (.int .u64 v) t w) := by
  have c0 := h.ptr
  have HPK := hide (peekByte_any d s m z ck dep V _ (UInt8.ofNat 207) (bl ++ t) w h rfl)
  have HLD : Hid ((UInt8.ofNat 207).toNat = 207) := rfl
  have HV := hide hv
  have HBL := hide hbl
  have HTK : Hid ((UInt8.ofNat 207 :: bl ++ t).take (8 + 1) = UInt8.ofNat 207 :: bl) := by
    show _ = _
    rw [List.cons_append, List.take_succ_cons, List.take_left' hbl]
  have HDR : Hid ((UInt8.ofNat 207 :: bl ++ t).drop (8 + 1) = t) := by
    show _ = _
    rw [List.cons_append, List.drop_succ_cons, List.drop_left' hbl]
  have HLN : Hid (8 + 1 ≤ (UInt8.ofNat 207 :: bl ++ t).length) := by
    show _ ≤ _
    simp
    omega
  obtain ⟨T, hT⟩ : ∃ T, T = RdPost d s m z ck dep V (.int .u64 v) t w := ⟨_, rfl⟩
  rw [← hT]
  have HTT := hide hT
  clear hT h hv hbl
  go_enter Tryd.func114, Tryd.ntmps114
  go_wp2_with (first
    | (go_at_call 129; go_loud (refine (getMuint64_any (fun b => b < w2.heap.size) B2 (UInt8.ofNat 207) bl (8 + 1) c2' w2 (by rw [List.length_cons, unhide HBL]) (by rw [unhide HBL]; omega) (unhide HB2) (fun b hb => hb)).mono ?_; rintro e w3 ⟨rfl, hq⟩; rw [unhide HV]; have HL3 := hide ((unhide HL2).below hq.below_); clear hq))
    | (go_at_call 124; refine (isfixint_no 207 (by omega) (by omega) _).mono ?_; rintro e w9 ⟨rfl, rfl⟩)
    | (go_at_call 106; go_loud (obtain ⟨V1, hA1, hbind⟩ := (unhide HL1).bind; refine (next_any d s m z ck dep V1 _ (8 + 1) w1 hA1 (unhide HLN) (by omega)).mono ?_; rintro e w2 ⟨B2, c2', rfl, hc2, hcm2, hr2, hl2⟩; rw [unhide HTK] at hr2; rw [unhide HDR] at hl2; have HB2 := hide hr2; have HL2 := hide (hbind _ _ hl2); clear hA1 hbind hr2 hl2))
    | (go_at_call 103; go_loud (refine (unhide HPK).mono ?_; rintro e w1 ⟨rfl, hl1⟩; rw [unhide HLD]; have HL1 := hide hl1; have c1 := hl1.ptr; clear hl1)))
  rw [unhide HTT]
  exact ⟨rfl, unhide HL3⟩
theorem of_nat_mod (n : Nat) : (UInt8.ofNat n).toNat = n % 256 := by simp
def encUint (n : Nat) (a : List UInt8) : Prop := n < 18446744073709551616 ∧ posF n a
theorem bg1 (n : Nat) : bigU ((beL n 1).take 1) = n % 256 := by simp [bigU, beL]
theorem bg2 (n : Nat) : bigU ((beL n 2).take 2) = n % 65536 := by simp [bigU, beL]; omega
theorem bg4 (n : Nat) : bigU ((beL n 4).take 4) = n % 4294967296 := by simp [bigU, beL]; omega
theorem bg8 (n : Nat) : bigU ((beL n 8).take 8) = n % 18446744073709551616 := by simp [bigU, beL]; omega
theorem sgn_low (s u : Nat) (h : u < 2 ^ (8 * s - 1)) : sgn s u = (u : Int) := by unfold sgn; rw [if_pos h]
theorem readU64_any (d s m z : Nat) (ck dep : Int) (V : Value) (N : Nat) (a t : List UInt8) (ha : encUint N a) (w : World) (h : RdAny w d s m z ck dep V (a ++ t)) :
    Calls Tryd.prog 114 #[.pointer (some ⟨m, 0, none⟩)] w (RdPost d s m z ck dep V (.int .u64 (N : Int)) t w) := by
  obtain ⟨hN, hf⟩ := ha
  rcases hf with ⟨h2, rfl⟩ | ⟨h2, rfl⟩ | ⟨h2, rfl⟩ | ⟨h2, rfl⟩ | rfl | ⟨h2, rfl⟩ | ⟨h2, rfl⟩ | ⟨h2, rfl⟩ | ⟨h2, rfl⟩
  · have e : ((N : Nat) : Int) = ((N % 256 : Nat) : Int) := by omega
    rw [e]
    exact rdU_lo d s m z ck dep V _ (N % 256) (of_nat_mod N) (by omega) t w h
  · exact rdU_204 d s m z ck dep V (beL N 1) _ rfl (by rw [bg1]; omega) (by omega) (by omega) t w h
  · exact rdU_205 d s m z ck dep V (beL N 2) _ rfl (by rw [bg2]; omega) (by omega) (by omega) t w h
  · exact rdU_206 d s m z ck dep V (beL N 4) _ rfl (by rw [bg4]; omega) (by omega) (by omega) t w h
  · exact rdU_207 d s m z ck dep V (beL N 8) _ rfl (by rw [bg8]; omega) (by omega) (by omega) t w h
  · exact rdU_208 d s m z ck dep V (beL N 1) _ rfl (by rw [bg1, sgn_low 1 _ (by simp; omega)]; omega) (by omega) (by omega) t w h
  · exact rdU_209 d s m z ck dep V (beL N 2) _ rfl (by rw [bg2, sgn_low 2 _ (by simp; omega)]; omega) (by omega) (by omega) t w h
  · exact rdU_210 d s m z ck dep V (beL N 4) _ rfl (by rw [bg4, sgn_low 4 _ (by simp; omega)]; omega) (by omega) (by omega) t w h
  · exact rdU_211 d s m z ck dep V (beL N 8) _ rfl (by rw [bg8, sgn_low 8 _ (by simp; omega)]; omega) (by omega) (by omega) t w h
theorem encUint_rng (x : Nat) (a : List UInt8) (h : encUint x a) : x < 18446744073709551616 := by
  exact h.1
set_option maxRecDepth 100000 in
set_option maxHeartbeats 1600000 in
theorem readU_any (d s m z : Nat) (ck dep : Int) (V : Value) (x : Nat) (a t : List UInt8) (ha : encUint x a) (w : World) (h : RdAny w d s m z ck dep V (a ++ t)) :
    Calls Tryd.prog 75 #[.pointer (some ⟨m, 0, none⟩)] w (RdPost d s m z ck dep V (.int .u64 (x : Int)) t w) := by
  have HF := hide (readU64_any d s m z ck dep V x a t ha w h)
  have hrg := encUint_rng x a ha
  clear h ha
  go_enter Tryd.func75, Tryd.ntmps75
  go_wp2_with (go_at_call 114; go_loud (refine (unhide HF).mono ?_; rintro e w1 ⟨rfl, hl⟩; have HL := hide hl; clear hl))
  go_ret2
  exact ⟨rfl, unhide HL⟩
theorem closUint_any (d s m z : Nat) (ck dep : Int) (V : Value) (x : Nat) (a b : List UInt8) (ha : encUint x a) (w : World) (h : RdAny w d s m z ck dep V (a ++ b)) :
    Calls Tryd.prog 74 #[.pointer (some ⟨m, 0, none⟩)] w (RdPost d s m z ck dep V (.int .u64 (x : Int)) b w) := by
  have HF := hide (readU_any d s m z ck dep V x a b ha w h)
  have hrg := encUint_rng x a ha
  clear h ha
  go_enter Tryd.func74, Tryd.ntmps74
  go_wp2_with (go_at_call 75; go_loud (refine (unhide HF).mono ?_; rintro e w1 ⟨rfl, hl⟩; have HL := hide hl; clear hl))
  go_ret2
  exact ⟨rfl, unhide HL⟩
end Go.Proofs.YtpadbpmnejgckaaDoor
