/-
  A msgp.Reader: ReadFloat32, ReadMapHeader, and the closures over them. Conditions: the value stands next.
-/
import Derived.Test.YtpadbpmnejgckaaDoorSrcOps
import Derived.Test.YtpadbpmnejgckaaDoorGetM
import Derived.Test.YtpadbpmnejgckaaDoorEncsP
import Derived.Laws.Externs
namespace Go.Proofs.YtpadbpmnejgckaaDoor
set_option linter.unusedSimpArgs false
set_option linter.unusedVariables false
set_option linter.unusedVariables false
open Go.RowKit
section
variable {w w' w1 : World} {d s m z : Nat} {ck dep : Int} {V : Value} {bs bs2 : List UInt8}
theorem RdAny.ptr (h : RdAny w d s m z ck dep V bs) : w.cell? ⟨m, 0, none⟩ = some (.pointer (some ⟨s, 0, none⟩)) := by
  obtain ⟨_, _, _, _, _, _, _, hst⟩ := h
  exact hst.M.cell 0
theorem RdAny.mlt (h : RdAny w d s m z ck dep V bs) : m < w.heap.size := by
  obtain ⟨_, _, _, _, _, _, _, hst⟩ := h
  exact hst.M.lt
theorem RdAny.below (h : RdAny w d s m z ck dep V bs) (hb : Below w.heap.size w w') : RdAny w' d s m z ck dep V bs := by
  obtain ⟨DA, dc, cap, at_, pend, rest, e, hst⟩ := h
  have hm := hst.M.lt
  have h1 := hst.ds
  have h2 := hst.sm
  exact ⟨DA, dc, cap, at_, pend, rest, e, hst.D.below hb (by omega), hst.data.keep (fun b hb2 => hb.block b (by have := hb2.1; omega)), hst.S.below hb (by omega), hst.M.below hb hm, hst.room.keep (fun g hg => hb.block g (hst.room.lt hg).2), hst.ds, hst.sm, hst.z1, hst.z2, hst.dcle, hst.dcm, hst.capm⟩
theorem RdLeft.below (h : RdLeft d s m z ck dep V bs w w1) (hb : Below w1.heap.size w1 w') : RdLeft d s m z ck dep V bs w w' := by
  obtain ⟨V1, h1, h2, h3⟩ := h
  exact ⟨V1, h1.below hb, h2.trans (L := fun _ => False) ⟨hb.mono (Nat.zero_le _), fun x hx _ => hb.block x hx⟩ (fun _ _ e => e.elim), h3⟩
/-- What follows behind a step. -/
theorem RdLeft.bind (h : RdLeft d s m z ck dep V bs w w1) : ∃ V1, RdAny w1 d s m z ck dep V1 bs ∧ ∀ w2 bs2, RdLeft d s m z ck dep V1 bs2 w1 w2 → RdLeft d s m z ck dep V bs2 w w2 := by
  obtain ⟨V1, h1, h2, h3⟩ := h
  refine ⟨V1, h1, fun w2 bs2 k => ?_⟩
  obtain ⟨V2, k1, k2, k3⟩ := k
  exact ⟨V2, k1, h2.trans k2 (RdK.trans h3), own_or_new h2.size h3 k3⟩
theorem Quiet.below_ (h : Quiet w w') : Below w.heap.size w w' := h.below (Below.refl _ _)
theorem RdLeft.ptr (h : RdLeft d s m z ck dep V bs w w1) : w1.cell? ⟨m, 0, none⟩ = some (.pointer (some ⟨s, 0, none⟩)) := by
  obtain ⟨V1, h1, _⟩ := h
  exact h1.ptr
end
theorem frombits32' (n : Int) (w : World) : (callFunc 15 #[.int .u32 n]).run Tryd.prog w = .ok (.value (.float .f32 n.toNat)) w := by
  rw [run_callFunc_extern (e := Extern.MathFloatBits.float32frombits) Tryd.func15 (by kernel_rfl) (by kernel_rfl) (by kernel_rfl) (by kernel_rfl)]
  rfl
theorem bits32' (n : Nat) (w : World) : (callFunc 49 #[.float .f32 n]).run Tryd.prog w = .ok (.value (.int .u32 n)) w := by
  rw [run_callFunc_extern (e := Extern.MathFloatBits.float32bits) Tryd.func49 (by kernel_rfl) (by kernel_rfl) (by kernel_rfl) (by kernel_rfl)]
  rfl
theorem bigU4 (n : Nat) (h : n < 4294967296) : bigU (beL n 4) = n := by
  simp [bigU, beL]
  omega
theorem bigU2 (n : Nat) (h : n < 65536) : bigU (beL n 2) = n := by
  simp [bigU, beL]
  omega
theorem beL4_len (n : Nat) : (beL n 4).length = 4 := rfl
theorem beL2_len (n : Nat) : (beL n 2).length = 2 := rfl
/-- What a closure over a reading answers. -/
def RdPost (d s m z : Nat) (ck dep : Int) (V : Value) (x : Value) (bs : List UInt8) (w : World) (e : Ending) (w' : World) : Prop := e = .returned (.tuple #[x, .nilIface]) ∧ RdLeft d s m z ck dep V bs w w'
set_option maxRecDepth 100000 in
set_option maxHeartbeats 1600000 in
theorem readF32_any (d s m z : Nat) (ck dep : Int) (V : Value) (n : Nat) (hn : n < 4294967296) (t : List UInt8) (w : World) (h : RdAny w d s m z ck dep V (UInt8.ofNat 202 :: beL n 4 ++ t)) :
    Calls Tryd.prog 63 #[.pointer (some ⟨m, 0, none⟩)] w (RdPost d s m z ck dep V (.float .f32 n) t w) := by
  have c0 := h.ptr
  have hfrom := frombits32' (n : Int)
  simp only [Int.toNat_natCast] at hfrom
  have HPK := hide (peek_any d s m z ck dep V _ 5 w h (by simp [beL]) (by omega))
  have hbig : bigU ((beL n 4).take 4) = n := by rw [show (beL n 4).take 4 = beL n 4 from rfl]; exact bigU4 n hn
  have HBIG := hide hbig
  have HT : Hid ((UInt8.ofNat 202 :: beL n 4 ++ t).take 5 = UInt8.ofNat 202 :: beL n 4) := rfl
  have HD : Hid ((UInt8.ofNat 202 :: beL n 4 ++ t).drop 5 = t) := rfl
  obtain ⟨T, hT⟩ : ∃ T, T = RdPost d s m z ck dep V (.float .f32 n) t w := ⟨_, rfl⟩
  rw [← hT]
  have HTT := hide hT
  clear hT hbig h
  go_enter Tryd.func63, Tryd.ntmps63
  go_wp2_with (first
    | (go_at_call 101; go_loud (refine (getMuint32_any (fun b => b < w1.heap.size) (some ad) (UInt8.ofNat 202) (beL n 4) 5 c w1 rfl (by rw [beL4_len]; omega) (unhide HB1) (fun b hb => hb)).mono ?_; rintro e w2 ⟨rfl, hq⟩; rw [unhide HBIG]; have HL2 := hide ((unhide HL1).below hq.below_); have c2 := (unhide HL2).ptr; clear hq))
    | (go_at_call 102; go_loud (obtain ⟨V1, hA1, hbind⟩ := (unhide HL2).bind; refine (skip_any d s m z ck dep V1 _ 5 w2 hA1 (by simp [beL]) (by omega)).mono ?_; rintro e w3 ⟨rfl, hl3⟩; rw [unhide HD] at hl3; have HL3 := hide (hbind _ _ hl3); clear hA1 hbind hl3))
    | (go_at_call 99; go_loud (refine (unhide HPK).mono ?_; rintro e w1 ⟨B, c, rfl, hc, hcm, hr1, hl1⟩; rw [unhide HT] at hr1; have HB1 := hide hr1; have HL1 := hide hl1; have c1 := hl1.ptr; obtain ⟨ad, rfl, _, hb0⟩ := hr1.at_ (k := 0) (by simp); simp only [Go.Proofs.YtpadbpmnejgckaaDoor.u8, add_zero_, List.getElem_cons_zero] at hb0; clear hr1 hl1)))
  rw [unhide HTT]
  exact ⟨rfl, unhide HL3⟩
end Go.Proofs.YtpadbpmnejgckaaDoor
