/-
  msgp.getMint8 .. getMuint64: the number behind the lead byte. Conditions: the bytes are there.
-/
import Derived.Test.YtpadbpmnejgckaaDoorSgn
namespace Go.Proofs.YtpadbpmnejgckaaDoor
set_option linter.unusedSimpArgs false
set_option linter.unusedVariables false
set_option linter.unusedVariables false
open Go.RowKit
theorem bv_ofInt_nat (N : Nat) (A : Nat) : BitVec.ofInt N (A : Int) = BitVec.ofNat N A := by
  apply BitVec.eq_of_toNat_eq
  rw [BitVec.toNat_ofInt, BitVec.toNat_ofNat]
  omega
theorem bvw_i16 (A : Nat) : BitVec.ofInt 16 (IntKind.i16.wrap (A : Int)) = BitVec.ofNat 16 A := by
  apply BitVec.eq_of_toNat_eq
  rw [BitVec.toNat_ofInt, BitVec.toNat_ofNat]
  simp [IntKind.wrap, IntKind.bits, IntKind.signed]
  omega
theorem orw_i16 (a s B : Nat) (hB : B < 2 ^ s) : bits BinOp.or IntKind.i16 (IntKind.i16.wrap ((a * 2 ^ s : Nat) : Int)) (IntKind.i16.wrap (B : Int)) = IntKind.i16.wrap ((a * 2 ^ s + B : Nat) : Int) := by
  show IntKind.i16.wrap ((BitVec.ofInt 16 (IntKind.i16.wrap ((a * 2 ^ s : Nat) : Int)) ||| BitVec.ofInt 16 (IntKind.i16.wrap (B : Int))).toNat : Int) = _
  rw [bvw_i16, bvw_i16, ← BitVec.ofNat_or, Nat.or_comm, or_shift B a s hB, BitVec.toNat_ofNat]
  simp [IntKind.wrap, IntKind.bits, IntKind.signed]
  try omega
theorem bvw_i32 (A : Nat) : BitVec.ofInt 32 (IntKind.i32.wrap (A : Int)) = BitVec.ofNat 32 A := by
  apply BitVec.eq_of_toNat_eq
  rw [BitVec.toNat_ofInt, BitVec.toNat_ofNat]
  simp [IntKind.wrap, IntKind.bits, IntKind.signed]
  omega
theorem orw_i32 (a s B : Nat) (hB : B < 2 ^ s) : bits BinOp.or IntKind.i32 (IntKind.i32.wrap ((a * 2 ^ s : Nat) : Int)) (IntKind.i32.wrap (B : Int)) = IntKind.i32.wrap ((a * 2 ^ s + B : Nat) : Int) := by
  show IntKind.i32.wrap ((BitVec.ofInt 32 (IntKind.i32.wrap ((a * 2 ^ s : Nat) : Int)) ||| BitVec.ofInt 32 (IntKind.i32.wrap (B : Int))).toNat : Int) = _
  rw [bvw_i32, bvw_i32, ← BitVec.ofNat_or, Nat.or_comm, or_shift B a s hB, BitVec.toNat_ofNat]
  simp [IntKind.wrap, IntKind.bits, IntKind.signed]
  try omega
theorem bvw_u16 (A : Nat) : BitVec.ofInt 16 (IntKind.u16.wrap (A : Int)) = BitVec.ofNat 16 A := by
  apply BitVec.eq_of_toNat_eq
  rw [BitVec.toNat_ofInt, BitVec.toNat_ofNat]
  simp [IntKind.wrap, IntKind.bits, IntKind.signed]
  omega
theorem orw_u16 (a s B : Nat) (hB : B < 2 ^ s) : bits BinOp.or IntKind.u16 (IntKind.u16.wrap ((a * 2 ^ s : Nat) : Int)) (IntKind.u16.wrap (B : Int)) = IntKind.u16.wrap ((a * 2 ^ s + B : Nat) : Int) := by
  show IntKind.u16.wrap ((BitVec.ofInt 16 (IntKind.u16.wrap ((a * 2 ^ s : Nat) : Int)) ||| BitVec.ofInt 16 (IntKind.u16.wrap (B : Int))).toNat : Int) = _
  rw [bvw_u16, bvw_u16, ← BitVec.ofNat_or, Nat.or_comm, or_shift B a s hB, BitVec.toNat_ofNat]
  simp [IntKind.wrap, IntKind.bits, IntKind.signed]
  try omega
theorem bvw_u32 (A : Nat) : BitVec.ofInt 32 (IntKind.u32.wrap (A : Int)) = BitVec.ofNat 32 A := by
  apply BitVec.eq_of_toNat_eq
  rw [BitVec.toNat_ofInt, BitVec.toNat_ofNat]
  simp [IntKind.wrap, IntKind.bits, IntKind.signed]
  omega
theorem orw_u32 (a s B : Nat) (hB : B < 2 ^ s) : bits BinOp.or IntKind.u32 (IntKind.u32.wrap ((a * 2 ^ s : Nat) : Int)) (IntKind.u32.wrap (B : Int)) = IntKind.u32.wrap ((a * 2 ^ s + B : Nat) : Int) := by
  show IntKind.u32.wrap ((BitVec.ofInt 32 (IntKind.u32.wrap ((a * 2 ^ s : Nat) : Int)) ||| BitVec.ofInt 32 (IntKind.u32.wrap (B : Int))).toNat : Int) = _
  rw [bvw_u32, bvw_u32, ← BitVec.ofNat_or, Nat.or_comm, or_shift B a s hB, BitVec.toNat_ofNat]
  simp [IntKind.wrap, IntKind.bits, IntKind.signed]
  try omega
theorem bvw_u64 (A : Nat) : BitVec.ofInt 64 (IntKind.u64.wrap (A : Int)) = BitVec.ofNat 64 A := by
  apply BitVec.eq_of_toNat_eq
  rw [BitVec.toNat_ofInt, BitVec.toNat_ofNat]
  simp [IntKind.wrap, IntKind.bits, IntKind.signed]
  omega
theorem orw_u64 (a s B : Nat) (hB : B < 2 ^ s) : bits BinOp.or IntKind.u64 (IntKind.u64.wrap ((a * 2 ^ s : Nat) : Int)) (IntKind.u64.wrap (B : Int)) = IntKind.u64.wrap ((a * 2 ^ s + B : Nat) : Int) := by
  show IntKind.u64.wrap ((BitVec.ofInt 64 (IntKind.u64.wrap ((a * 2 ^ s : Nat) : Int)) ||| BitVec.ofInt 64 (IntKind.u64.wrap (B : Int))).toNat : Int) = _
  rw [bvw_u64, bvw_u64, ← BitVec.ofNat_or, Nat.or_comm, or_shift B a s hB, BitVec.toNat_ofNat]
  simp [IntKind.wrap, IntKind.bits, IntKind.signed]
  try omega
theorem bvw_i64 (A : Nat) : BitVec.ofInt 64 (wrap64 (A : Int)) = BitVec.ofNat 64 A := by
  apply BitVec.eq_of_toNat_eq
  rw [BitVec.toNat_ofInt, BitVec.toNat_ofNat]
  simp [wrap64]
  omega
theorem orw_i64 (a s B : Nat) (hB : B < 2 ^ s) : bits BinOp.or IntKind.i64 (wrap64 ((a * 2 ^ s : Nat) : Int)) (wrap64 (B : Int)) = wrap64 ((a * 2 ^ s + B : Nat) : Int) := by
  show IntKind.i64.wrap ((BitVec.ofInt 64 (wrap64 ((a * 2 ^ s : Nat) : Int)) ||| BitVec.ofInt 64 (wrap64 (B : Int))).toNat : Int) = _
  rw [bvw_i64, bvw_i64, ← BitVec.ofNat_or, Nat.or_comm, or_shift B a s hB, BitVec.toNat_ofNat, IntKind.wrap_i64]
  simp [wrap64]
  try omega
theorem orx_i16 (a s A B M : Nat) (X Y : Int) (hA : A = a * 2 ^ s) (hX : X = IntKind.i16.wrap (A : Int)) (hY : Y = IntKind.i16.wrap (B : Int)) (hB : B < 2 ^ s) (hM : M = A + B) : bits BinOp.or IntKind.i16 X Y = IntKind.i16.wrap (M : Int) := by
  subst hA hX hY hM
  exact orw_i16 a s B hB
theorem orx_i32 (a s A B M : Nat) (X Y : Int) (hA : A = a * 2 ^ s) (hX : X = IntKind.i32.wrap (A : Int)) (hY : Y = IntKind.i32.wrap (B : Int)) (hB : B < 2 ^ s) (hM : M = A + B) : bits BinOp.or IntKind.i32 X Y = IntKind.i32.wrap (M : Int) := by
  subst hA hX hY hM
  exact orw_i32 a s B hB
theorem orx_u16 (a s A B M : Nat) (X Y : Int) (hA : A = a * 2 ^ s) (hX : X = IntKind.u16.wrap (A : Int)) (hY : Y = IntKind.u16.wrap (B : Int)) (hB : B < 2 ^ s) (hM : M = A + B) : bits BinOp.or IntKind.u16 X Y = IntKind.u16.wrap (M : Int) := by
  subst hA hX hY hM
  exact orw_u16 a s B hB
theorem orx_u32 (a s A B M : Nat) (X Y : Int) (hA : A = a * 2 ^ s) (hX : X = IntKind.u32.wrap (A : Int)) (hY : Y = IntKind.u32.wrap (B : Int)) (hB : B < 2 ^ s) (hM : M = A + B) : bits BinOp.or IntKind.u32 X Y = IntKind.u32.wrap (M : Int) := by
  subst hA hX hY hM
  exact orw_u32 a s B hB
theorem orx_u64 (a s A B M : Nat) (X Y : Int) (hA : A = a * 2 ^ s) (hX : X = IntKind.u64.wrap (A : Int)) (hY : Y = IntKind.u64.wrap (B : Int)) (hB : B < 2 ^ s) (hM : M = A + B) : bits BinOp.or IntKind.u64 X Y = IntKind.u64.wrap (M : Int) := by
  subst hA hX hY hM
  exact orw_u64 a s B hB
theorem orx_i64 (a s A B M : Nat) (X Y : Int) (hA : A = a * 2 ^ s) (hX : X = wrap64 (A : Int)) (hY : Y = wrap64 (B : Int)) (hB : B < 2 ^ s) (hM : M = A + B) : bits BinOp.or IntKind.i64 X Y = wrap64 (M : Int) := by
  subst hA hX hY hM
  exact orw_i64 a s B hB
theorem wpos_i16 (X : Int) (B : Nat) (h : X = (B : Int)) (hb : B < 32768) : X = IntKind.i16.wrap (B : Int) := by
  subst h
  simp [IntKind.wrap, IntKind.bits, IntKind.signed]
  omega
theorem wpos_i32 (X : Int) (B : Nat) (h : X = (B : Int)) (hb : B < 2147483648) : X = IntKind.i32.wrap (B : Int) := by
  subst h
  simp [IntKind.wrap, IntKind.bits, IntKind.signed]
  omega
theorem wpos_u16 (X : Int) (B : Nat) (h : X = (B : Int)) (hb : B < 65536) : X = IntKind.u16.wrap (B : Int) := by
  subst h
  simp [IntKind.wrap, IntKind.bits, IntKind.signed]
  omega
theorem wpos_u32 (X : Int) (B : Nat) (h : X = (B : Int)) (hb : B < 4294967296) : X = IntKind.u32.wrap (B : Int) := by
  subst h
  simp [IntKind.wrap, IntKind.bits, IntKind.signed]
  omega
theorem wpos_u64 (X : Int) (B : Nat) (h : X = (B : Int)) (hb : B < 18446744073709551616) : X = IntKind.u64.wrap (B : Int) := by
  subst h
  simp [IntKind.wrap, IntKind.bits, IntKind.signed]
  omega
theorem wpos_i64 (X : Int) (B : Nat) (h : X = (B : Int)) (hb : B < 9223372036854775808) : X = wrap64 (B : Int) := by
  subst h
  simp [wrap64]
  omega
theorem w0_i16 (x : Nat) : IntKind.i16.wrap ((x : Int) * 256) = IntKind.i16.wrap ((x * 256 : Nat) : Int) := congrArg _ (by omega)
theorem w0_i32 (x : Nat) : wrap32 ((x : Int) * 16777216) = IntKind.i32.wrap ((x * 16777216 : Nat) : Int) := by
  have e : ((x : Int) * 16777216) = ((x * 16777216 : Nat) : Int) := by omega
  rw [e, IntKind.wrap_i32]
  unfold wrap32
  rfl
theorem w0_i64 (x : Nat) : wrap64 ((x : Int) * 72057594037927936) = wrap64 ((x * 72057594037927936 : Nat) : Int) := congrArg _ (by omega)
set_option maxRecDepth 100000 in
set_option maxHeartbeats 1600000 in
theorem getMint8_any (S : Nat → Prop) (A : Option Addr) (b : UInt8) (bs : List UInt8) (n c : Nat) (w : World) (hn : n = (b :: bs).length) (h2 : 1 ≤ bs.length) (hr : RB w S A (b :: bs)) (hS : Old w S) :
    Calls Tryd.prog 144 #[.slice A n c] w fun e w' => e = .returned (.int .i8 (sgn 1 (bigU (bs.take 1)))) ∧ Quiet w w' := by
  obtain ⟨ad, rfl, hb, hc⟩ := hr.all_ (by simp)
  have hlt := hS _ hb
  have hv : Hid (((bigU (bs.take 1) : Nat) : Int) = (bs[0].toNat : Int)) := by
    have e : bs.take 1 = [bs[0]] := by
      apply List.ext_getElem
      · simp; omega
      · intro i h1 h2
        simp only [List.length_cons, List.length_nil] at h2
        rw [List.getElem_take]
        match i, h2 with
        | 0, _ => rfl
    rw [e]
    refine hide ?_
    simp [bigU] <;> omega
  have c0 : w.cell? ⟨ad.block, ad.off + 1, none⟩ = some (.int .u8 (bs[0].toNat : Int)) := hc 1 (by simp; omega)
  have l0 := bs[0].toNat_lt
  have hn1 : 1 < n := by rw [hn]; simp; omega
  clear hc hr hn
  obtain ⟨T, hT⟩ : ∃ T, T = bigU (bs.take 1) := ⟨_, rfl⟩
  rw [← hT] at hv ⊢
  clear hT
  generalize bs[0].toNat = x0 at *
  go_enter Tryd.func144, Tryd.ntmps144
  go_wp2
  go_ret
  refine ⟨?_, Quiet.refl _⟩
  refine congrArg Ending.returned (congrArg (Value.int .i8) ?_)
  have hv2 := unhide hv
  rw [← sgn1 T (by omega)]; exact congrArg _ (by omega)
set_option maxRecDepth 100000 in
set_option maxHeartbeats 1600000 in
theorem getMuint8_any (S : Nat → Prop) (A : Option Addr) (b : UInt8) (bs : List UInt8) (n c : Nat) (w : World) (hn : n = (b :: bs).length) (h2 : 1 ≤ bs.length) (hr : RB w S A (b :: bs)) (hS : Old w S) :
    Calls Tryd.prog 145 #[.slice A n c] w fun e w' => e = .returned (.int .u8 (bigU (bs.take 1))) ∧ Quiet w w' := by
  obtain ⟨ad, rfl, hb, hc⟩ := hr.all_ (by simp)
  have hlt := hS _ hb
  have hv : Hid (((bigU (bs.take 1) : Nat) : Int) = (bs[0].toNat : Int)) := by
    have e : bs.take 1 = [bs[0]] := by
      apply List.ext_getElem
      · simp; omega
      · intro i h1 h2
        simp only [List.length_cons, List.length_nil] at h2
        rw [List.getElem_take]
        match i, h2 with
        | 0, _ => rfl
    rw [e]
    refine hide ?_
    simp [bigU] <;> omega
  have c0 : w.cell? ⟨ad.block, ad.off + 1, none⟩ = some (.int .u8 (bs[0].toNat : Int)) := hc 1 (by simp; omega)
  have l0 := bs[0].toNat_lt
  have hn1 : 1 < n := by rw [hn]; simp; omega
  clear hc hr hn
  obtain ⟨T, hT⟩ : ∃ T, T = bigU (bs.take 1) := ⟨_, rfl⟩
  rw [← hT] at hv ⊢
  clear hT
  generalize bs[0].toNat = x0 at *
  go_enter Tryd.func145, Tryd.ntmps145
  go_wp2
  go_ret
  refine ⟨?_, Quiet.refl _⟩
  refine congrArg Ending.returned (congrArg (Value.int .u8) ?_)
  have hv2 := unhide hv
  omega
set_option maxRecDepth 100000 in
set_option maxHeartbeats 1600000 in
theorem getMint16_any (S : Nat → Prop) (A : Option Addr) (b : UInt8) (bs : List UInt8) (n c : Nat) (w : World) (hn : n = (b :: bs).length) (h2 : 2 ≤ bs.length) (hr : RB w S A (b :: bs)) (hS : Old w S) :
    Calls Tryd.prog 146 #[.slice A n c] w fun e w' => e = .returned (.int .i16 (sgn 2 (bigU (bs.take 2)))) ∧ Quiet w w' := by
  obtain ⟨ad, rfl, hb, hc⟩ := hr.all_ (by simp)
  have hlt := hS _ hb
  have hv : Hid (((bigU (bs.take 2) : Nat) : Int) = (bs[0].toNat : Int) * 256 + (bs[1].toNat : Int)) := by
    have e : bs.take 2 = [bs[0], bs[1]] := by
      apply List.ext_getElem
      · simp; omega
      · intro i h1 h2
        simp only [List.length_cons, List.length_nil] at h2
        rw [List.getElem_take]
        match i, h2 with
        | 0, _ => rfl
        | 1, _ => rfl
    rw [e]
    refine hide ?_
    simp [bigU] <;> omega
  have c0 : w.cell? ⟨ad.block, ad.off + 1, none⟩ = some (.int .u8 (bs[0].toNat : Int)) := hc 1 (by simp; omega)
  have l0 := bs[0].toNat_lt
  have c1 : w.cell? ⟨ad.block, ad.off + 2, none⟩ = some (.int .u8 (bs[1].toNat : Int)) := hc 2 (by simp; omega)
  have l1 := bs[1].toNat_lt
  have hn1 : 2 < n := by rw [hn]; simp; omega
  clear hc hr hn
  obtain ⟨T, hT⟩ : ∃ T, T = bigU (bs.take 2) := ⟨_, rfl⟩
  rw [← hT] at hv ⊢
  clear hT
  generalize bs[0].toNat = x0 at *
  generalize bs[1].toNat = x1 at *
  go_enter Tryd.func146, Tryd.ntmps146
  go_wp2
  go_quiet (fail)
  go_wp2
  go_ret
  refine ⟨?_, ⟨_, rfl⟩⟩
  refine congrArg Ending.returned (congrArg (Value.int .i16) ?_)
  have hv2 := unhide hv
  have h1 : bits BinOp.or IntKind.i16 (IntKind.i16.wrap ((x0 : Int) * 256)) ((x1 : Int)) = IntKind.i16.wrap ((x0 * 256 + x1 : Nat) : Int) := orx_i16 (x0) 8 (x0 * 256) (x1) (x0 * 256 + x1) _ _ (by omega) (w0_i16 x0) (wpos_i16 _ _ (by omega) (by omega)) (by omega) rfl
  have hT : T = x0 * 256 + x1 := by omega
  rw [hT]
  exact h1.trans (sgn2 _ (by omega))
set_option maxRecDepth 100000 in
set_option maxHeartbeats 1600000 in
theorem getMuint16_any (S : Nat → Prop) (A : Option Addr) (b : UInt8) (bs : List UInt8) (n c : Nat) (w : World) (hn : n = (b :: bs).length) (h2 : 2 ≤ bs.length) (hr : RB w S A (b :: bs)) (hS : Old w S) :
    Calls Tryd.prog 147 #[.slice A n c] w fun e w' => e = .returned (.int .u16 (bigU (bs.take 2))) ∧ Quiet w w' := by
  obtain ⟨ad, rfl, hb, hc⟩ := hr.all_ (by simp)
  have hlt := hS _ hb
  have hv : Hid (((bigU (bs.take 2) : Nat) : Int) = (bs[0].toNat : Int) * 256 + (bs[1].toNat : Int)) := by
    have e : bs.take 2 = [bs[0], bs[1]] := by
      apply List.ext_getElem
      · simp; omega
      · intro i h1 h2
        simp only [List.length_cons, List.length_nil] at h2
        rw [List.getElem_take]
        match i, h2 with
        | 0, _ => rfl
        | 1, _ => rfl
    rw [e]
    refine hide ?_
    simp [bigU] <;> omega
  have c0 : w.cell? ⟨ad.block, ad.off + 1, none⟩ = some (.int .u8 (bs[0].toNat : Int)) := hc 1 (by simp; omega)
  have l0 := bs[0].toNat_lt
  have c1 : w.cell? ⟨ad.block, ad.off + 2, none⟩ = some (.int .u8 (bs[1].toNat : Int)) := hc 2 (by simp; omega)
  have l1 := bs[1].toNat_lt
  have hn1 : 2 < n := by rw [hn]; simp; omega
  clear hc hr hn
  obtain ⟨T, hT⟩ : ∃ T, T = bigU (bs.take 2) := ⟨_, rfl⟩
  rw [← hT] at hv ⊢
  clear hT
  generalize bs[0].toNat = x0 at *
  generalize bs[1].toNat = x1 at *
  go_enter Tryd.func147, Tryd.ntmps147
  go_wp2
  go_quiet (fail)
  go_wp2
  go_ret
  refine ⟨?_, ⟨_, rfl⟩⟩
  refine congrArg Ending.returned (congrArg (Value.int .u16) ?_)
  have hv2 := unhide hv
  have h1 : bits BinOp.or IntKind.u16 ((x0 : Int) * 256) ((x1 : Int)) = IntKind.u16.wrap ((x0 * 256 + x1 : Nat) : Int) := orx_u16 (x0) 8 (x0 * 256) (x1) (x0 * 256 + x1) _ _ (by omega) (wpos_u16 _ _ (by omega) (by omega)) (wpos_u16 _ _ (by omega) (by omega)) (by omega) rfl
  have hT : T = x0 * 256 + x1 := by omega
  rw [hT]
  exact h1.trans (wpos_u16 _ _ rfl (by omega)).symm
set_option maxRecDepth 100000 in
set_option maxHeartbeats 1600000 in
theorem getMint32_any (S : Nat → Prop) (A : Option Addr) (b : UInt8) (bs : List UInt8) (n c : Nat) (w : World) (hn : n = (b :: bs).length) (h2 : 4 ≤ bs.length) (hr : RB w S A (b :: bs)) (hS : Old w S) :
    Calls Tryd.prog 148 #[.slice A n c] w fun e w' => e = .returned (.int .i32 (sgn 4 (bigU (bs.take 4)))) ∧ Quiet w w' := by
  obtain ⟨ad, rfl, hb, hc⟩ := hr.all_ (by simp)
  have hlt := hS _ hb
  have hv : Hid (((bigU (bs.take 4) : Nat) : Int) = (bs[0].toNat : Int) * 16777216 + (bs[1].toNat : Int) * 65536 + (bs[2].toNat : Int) * 256 + (bs[3].toNat : Int)) := by
    have e : bs.take 4 = [bs[0], bs[1], bs[2], bs[3]] := by
      apply List.ext_getElem
      · simp; omega
      · intro i h1 h2
        simp only [List.length_cons, List.length_nil] at h2
        rw [List.getElem_take]
        match i, h2 with
        | 0, _ => rfl
        | 1, _ => rfl
        | 2, _ => rfl
        | 3, _ => rfl
    rw [e]
    refine hide ?_
    simp [bigU] <;> omega
  have c0 : w.cell? ⟨ad.block, ad.off + 1, none⟩ = some (.int .u8 (bs[0].toNat : Int)) := hc 1 (by simp; omega)
  have l0 := bs[0].toNat_lt
  have c1 : w.cell? ⟨ad.block, ad.off + 2, none⟩ = some (.int .u8 (bs[1].toNat : Int)) := hc 2 (by simp; omega)
  have l1 := bs[1].toNat_lt
  have c2 : w.cell? ⟨ad.block, ad.off + 3, none⟩ = some (.int .u8 (bs[2].toNat : Int)) := hc 3 (by simp; omega)
  have l2 := bs[2].toNat_lt
  have c3 : w.cell? ⟨ad.block, ad.off + 4, none⟩ = some (.int .u8 (bs[3].toNat : Int)) := hc 4 (by simp; omega)
  have l3 := bs[3].toNat_lt
  have hn1 : 4 < n := by rw [hn]; simp; omega
  clear hc hr hn
  obtain ⟨T, hT⟩ : ∃ T, T = bigU (bs.take 4) := ⟨_, rfl⟩
  rw [← hT] at hv ⊢
  clear hT
  generalize bs[0].toNat = x0 at *
  generalize bs[1].toNat = x1 at *
  generalize bs[2].toNat = x2 at *
  generalize bs[3].toNat = x3 at *
  go_enter Tryd.func148, Tryd.ntmps148
  go_wp2
  go_quiet (fail)
  go_wp2
  go_ret
  refine ⟨?_, ⟨_, rfl⟩⟩
  refine congrArg Ending.returned (congrArg (Value.int .i32) ?_)
  have hv2 := unhide hv
  have h1 : bits BinOp.or IntKind.i32 (wrap32 ((x0 : Int) * 16777216)) ((x1 : Int) * 65536) = IntKind.i32.wrap ((x0 * 16777216 + x1 * 65536 : Nat) : Int) := orx_i32 (x0) 24 (x0 * 16777216) (x1 * 65536) (x0 * 16777216 + x1 * 65536) _ _ (by omega) (w0_i32 x0) (wpos_i32 _ _ (by omega) (by omega)) (by omega) rfl
  have h2 : bits BinOp.or IntKind.i32 (bits BinOp.or IntKind.i32 (wrap32 ((x0 : Int) * 16777216)) ((x1 : Int) * 65536)) ((x2 : Int) * 256) = IntKind.i32.wrap ((x0 * 16777216 + x1 * 65536 + x2 * 256 : Nat) : Int) := orx_i32 (x0 * 256 + x1) 16 (x0 * 16777216 + x1 * 65536) (x2 * 256) (x0 * 16777216 + x1 * 65536 + x2 * 256) _ _ (by omega) h1 (wpos_i32 _ _ (by omega) (by omega)) (by omega) rfl
  have h3 : bits BinOp.or IntKind.i32 (bits BinOp.or IntKind.i32 (bits BinOp.or IntKind.i32 (wrap32 ((x0 : Int) * 16777216)) ((x1 : Int) * 65536)) ((x2 : Int) * 256)) ((x3 : Int)) = IntKind.i32.wrap ((x0 * 16777216 + x1 * 65536 + x2 * 256 + x3 : Nat) : Int) := orx_i32 (x0 * 65536 + x1 * 256 + x2) 8 (x0 * 16777216 + x1 * 65536 + x2 * 256) (x3) (x0 * 16777216 + x1 * 65536 + x2 * 256 + x3) _ _ (by omega) h2 (wpos_i32 _ _ (by omega) (by omega)) (by omega) rfl
  have hT : T = x0 * 16777216 + x1 * 65536 + x2 * 256 + x3 := by omega
  rw [hT]
  exact h3.trans (sgn4 _ (by omega))
set_option maxRecDepth 100000 in
set_option maxHeartbeats 1600000 in
theorem getMuint32_any (S : Nat → Prop) (A : Option Addr) (b : UInt8) (bs : List UInt8) (n c : Nat) (w : World) (hn : n = (b :: bs).length) (h2 : 4 ≤ bs.length) (hr : RB w S A (b :: bs)) (hS : Old w S) :
    Calls Tryd.prog 101 #[.slice A n c] w fun e w' => e = .returned (.int .u32 (bigU (bs.take 4))) ∧ Quiet w w' := by
  obtain ⟨ad, rfl, hb, hc⟩ := hr.all_ (by simp)
  have hlt := hS _ hb
  have hv : Hid (((bigU (bs.take 4) : Nat) : Int) = (bs[0].toNat : Int) * 16777216 + (bs[1].toNat : Int) * 65536 + (bs[2].toNat : Int) * 256 + (bs[3].toNat : Int)) := by
    have e : bs.take 4 = [bs[0], bs[1], bs[2], bs[3]] := by
      apply List.ext_getElem
      · simp; omega
      · intro i h1 h2
        simp only [List.length_cons, List.length_nil] at h2
        rw [List.getElem_take]
        match i, h2 with
        | 0, _ => rfl
        | 1, _ => rfl
        | 2, _ => rfl
        | 3, _ => rfl
    rw [e]
    refine hide ?_
    simp [bigU] <;> omega
  have c0 : w.cell? ⟨ad.block, ad.off + 1, none⟩ = some (.int .u8 (bs[0].toNat : Int)) := hc 1 (by simp; omega)
  have l0 := bs[0].toNat_lt
  have c1 : w.cell? ⟨ad.block, ad.off + 2, none⟩ = some (.int .u8 (bs[1].toNat : Int)) := hc 2 (by simp; omega)
  have l1 := bs[1].toNat_lt
  have c2 : w.cell? ⟨ad.block, ad.off + 3, none⟩ = some (.int .u8 (bs[2].toNat : Int)) := hc 3 (by simp; omega)
  have l2 := bs[2].toNat_lt
  have c3 : w.cell? ⟨ad.block, ad.off + 4, none⟩ = some (.int .u8 (bs[3].toNat : Int)) := hc 4 (by simp; omega)
  have l3 := bs[3].toNat_lt
  have hn1 : 4 < n := by rw [hn]; simp; omega
  clear hc hr hn
  obtain ⟨T, hT⟩ : ∃ T, T = bigU (bs.take 4) := ⟨_, rfl⟩
  rw [← hT] at hv ⊢
  clear hT
  generalize bs[0].toNat = x0 at *
  generalize bs[1].toNat = x1 at *
  generalize bs[2].toNat = x2 at *
  generalize bs[3].toNat = x3 at *
  go_enter Tryd.func101, Tryd.ntmps101
  go_wp2
  go_quiet (fail)
  go_wp2
  go_ret
  refine ⟨?_, ⟨_, rfl⟩⟩
  refine congrArg Ending.returned (congrArg (Value.int .u32) ?_)
  have hv2 := unhide hv
  have h1 : bits BinOp.or IntKind.u32 ((x0 : Int) * 16777216) ((x1 : Int) * 65536) = IntKind.u32.wrap ((x0 * 16777216 + x1 * 65536 : Nat) : Int) := orx_u32 (x0) 24 (x0 * 16777216) (x1 * 65536) (x0 * 16777216 + x1 * 65536) _ _ (by omega) (wpos_u32 _ _ (by omega) (by omega)) (wpos_u32 _ _ (by omega) (by omega)) (by omega) rfl
  have h2 : bits BinOp.or IntKind.u32 (bits BinOp.or IntKind.u32 ((x0 : Int) * 16777216) ((x1 : Int) * 65536)) ((x2 : Int) * 256) = IntKind.u32.wrap ((x0 * 16777216 + x1 * 65536 + x2 * 256 : Nat) : Int) := orx_u32 (x0 * 256 + x1) 16 (x0 * 16777216 + x1 * 65536) (x2 * 256) (x0 * 16777216 + x1 * 65536 + x2 * 256) _ _ (by omega) h1 (wpos_u32 _ _ (by omega) (by omega)) (by omega) rfl
  have h3 : bits BinOp.or IntKind.u32 (bits BinOp.or IntKind.u32 (bits BinOp.or IntKind.u32 ((x0 : Int) * 16777216) ((x1 : Int) * 65536)) ((x2 : Int) * 256)) ((x3 : Int)) = IntKind.u32.wrap ((x0 * 16777216 + x1 * 65536 + x2 * 256 + x3 : Nat) : Int) := orx_u32 (x0 * 65536 + x1 * 256 + x2) 8 (x0 * 16777216 + x1 * 65536 + x2 * 256) (x3) (x0 * 16777216 + x1 * 65536 + x2 * 256 + x3) _ _ (by omega) h2 (wpos_u32 _ _ (by omega) (by omega)) (by omega) rfl
  have hT : T = x0 * 16777216 + x1 * 65536 + x2 * 256 + x3 := by omega
  rw [hT]
  exact h3.trans (wpos_u32 _ _ rfl (by omega)).symm
set_option maxRecDepth 100000 in
set_option maxHeartbeats 1600000 in
theorem getMint64_any (S : Nat → Prop) (A : Option Addr) (b : UInt8) (bs : List UInt8) (n c : Nat) (w : World) (hn : n = (b :: bs).length) (h2 : 8 ≤ bs.length) (hr : RB w S A (b :: bs)) (hS : Old w S) :
    Calls Tryd.prog 149 #[.slice A n c] w fun e w' => e = .returned (.int .i64 (sgn 8 (bigU (bs.take 8)))) ∧ Quiet w w' := by
  obtain ⟨ad, rfl, hb, hc⟩ := hr.all_ (by simp)
  have hlt := hS _ hb
  have hv : Hid (((bigU (bs.take 8) : Nat) : Int) = (bs[0].toNat : Int) * 72057594037927936 + (bs[1].toNat : Int) * 281474976710656 + (bs[2].toNat : Int) * 1099511627776 + (bs[3].toNat : Int) * 4294967296 + (bs[4].toNat : Int) * 16777216 + (bs[5].toNat : Int) * 65536 + (bs[6].toNat : Int) * 256 + (bs[7].toNat : Int)) := by
    have e : bs.take 8 = [bs[0], bs[1], bs[2], bs[3], bs[4], bs[5], bs[6], bs[7]] := by
      apply List.ext_getElem
      · simp; omega
      · intro i h1 h2
        simp only [List.length_cons, List.length_nil] at h2
        rw [List.getElem_take]
        match i, h2 with
        | 0, _ => rfl
        | 1, _ => rfl
        | 2, _ => rfl
        | 3, _ => rfl
        | 4, _ => rfl
        | 5, _ => rfl
        | 6, _ => rfl
        | 7, _ => rfl
    rw [e]
    refine hide ?_
    simp [bigU] <;> omega
  have c0 : w.cell? ⟨ad.block, ad.off + 1, none⟩ = some (.int .u8 (bs[0].toNat : Int)) := hc 1 (by simp; omega)
  have l0 := bs[0].toNat_lt
  have c1 : w.cell? ⟨ad.block, ad.off + 2, none⟩ = some (.int .u8 (bs[1].toNat : Int)) := hc 2 (by simp; omega)
  have l1 := bs[1].toNat_lt
  have c2 : w.cell? ⟨ad.block, ad.off + 3, none⟩ = some (.int .u8 (bs[2].toNat : Int)) := hc 3 (by simp; omega)
  have l2 := bs[2].toNat_lt
  have c3 : w.cell? ⟨ad.block, ad.off + 4, none⟩ = some (.int .u8 (bs[3].toNat : Int)) := hc 4 (by simp; omega)
  have l3 := bs[3].toNat_lt
  have c4 : w.cell? ⟨ad.block, ad.off + 5, none⟩ = some (.int .u8 (bs[4].toNat : Int)) := hc 5 (by simp; omega)
  have l4 := bs[4].toNat_lt
  have c5 : w.cell? ⟨ad.block, ad.off + 6, none⟩ = some (.int .u8 (bs[5].toNat : Int)) := hc 6 (by simp; omega)
  have l5 := bs[5].toNat_lt
  have c6 : w.cell? ⟨ad.block, ad.off + 7, none⟩ = some (.int .u8 (bs[6].toNat : Int)) := hc 7 (by simp; omega)
  have l6 := bs[6].toNat_lt
  have c7 : w.cell? ⟨ad.block, ad.off + 8, none⟩ = some (.int .u8 (bs[7].toNat : Int)) := hc 8 (by simp; omega)
  have l7 := bs[7].toNat_lt
  have hn1 : 8 < n := by rw [hn]; simp; omega
  clear hc hr hn
  obtain ⟨T, hT⟩ : ∃ T, T = bigU (bs.take 8) := ⟨_, rfl⟩
  rw [← hT] at hv ⊢
  clear hT
  generalize bs[0].toNat = x0 at *
  generalize bs[1].toNat = x1 at *
  generalize bs[2].toNat = x2 at *
  generalize bs[3].toNat = x3 at *
  generalize bs[4].toNat = x4 at *
  generalize bs[5].toNat = x5 at *
  generalize bs[6].toNat = x6 at *
  generalize bs[7].toNat = x7 at *
  go_enter Tryd.func149, Tryd.ntmps149
  go_wp2
  go_quiet (fail)
  go_wp2
  go_ret
  refine ⟨?_, ⟨_, rfl⟩⟩
  refine congrArg Ending.returned (congrArg (Value.int .i64) ?_)
  have hv2 := unhide hv
  have h1 : bits BinOp.or IntKind.i64 (wrap64 ((x0 : Int) * 72057594037927936)) ((x1 : Int) * 281474976710656) = wrap64 ((x0 * 72057594037927936 + x1 * 281474976710656 : Nat) : Int) := orx_i64 (x0) 56 (x0 * 72057594037927936) (x1 * 281474976710656) (x0 * 72057594037927936 + x1 * 281474976710656) _ _ (by omega) (w0_i64 x0) (wpos_i64 _ _ (by omega) (by omega)) (by omega) rfl
  have h2 : bits BinOp.or IntKind.i64 (bits BinOp.or IntKind.i64 (wrap64 ((x0 : Int) * 72057594037927936)) ((x1 : Int) * 281474976710656)) ((x2 : Int) * 1099511627776) = wrap64 ((x0 * 72057594037927936 + x1 * 281474976710656 + x2 * 1099511627776 : Nat) : Int) := orx_i64 (x0 * 256 + x1) 48 (x0 * 72057594037927936 + x1 * 281474976710656) (x2 * 1099511627776) (x0 * 72057594037927936 + x1 * 281474976710656 + x2 * 1099511627776) _ _ (by omega) h1 (wpos_i64 _ _ (by omega) (by omega)) (by omega) rfl
  have h3 : bits BinOp.or IntKind.i64 (bits BinOp.or IntKind.i64 (bits BinOp.or IntKind.i64 (wrap64 ((x0 : Int) * 72057594037927936)) ((x1 : Int) * 281474976710656)) ((x2 : Int) * 1099511627776)) ((x3 : Int) * 4294967296) = wrap64 ((x0 * 72057594037927936 + x1 * 281474976710656 + x2 * 1099511627776 + x3 * 4294967296 : Nat) : Int) := orx_i64 (x0 * 65536 + x1 * 256 + x2) 40 (x0 * 72057594037927936 + x1 * 281474976710656 + x2 * 1099511627776) (x3 * 4294967296) (x0 * 72057594037927936 + x1 * 281474976710656 + x2 * 1099511627776 + x3 * 4294967296) _ _ (by omega) h2 (wpos_i64 _ _ (by omega) (by omega)) (by omega) rfl
  have h4 : bits BinOp.or IntKind.i64 (bits BinOp.or IntKind.i64 (bits BinOp.or IntKind.i64 (bits BinOp.or IntKind.i64 (wrap64 ((x0 : Int) * 72057594037927936)) ((x1 : Int) * 281474976710656)) ((x2 : Int) * 1099511627776)) ((x3 : Int) * 4294967296)) ((x4 : Int) * 16777216) = wrap64 ((x0 * 72057594037927936 + x1 * 281474976710656 + x2 * 1099511627776 + x3 * 4294967296 + x4 * 16777216 : Nat) : Int) := orx_i64 (x0 * 16777216 + x1 * 65536 + x2 * 256 + x3) 32 (x0 * 72057594037927936 + x1 * 281474976710656 + x2 * 1099511627776 + x3 * 4294967296) (x4 * 16777216) (x0 * 72057594037927936 + x1 * 281474976710656 + x2 * 1099511627776 + x3 * 4294967296 + x4 * 16777216) _ _ (by omega) h3 (wpos_i64 _ _ (by omega) (by omega)) (by omega) rfl
  have h5 : bits BinOp.or IntKind.i64 (bits BinOp.or IntKind.i64 (bits BinOp.or IntKind.i64 (bits BinOp.or IntKind.i64 (bits BinOp.or IntKind.i64 (wrap64 ((x0 : Int) * 72057594037927936)) ((x1 : Int) * 281474976710656)) ((x2 : Int) * 1099511627776)) ((x3 : Int) * 4294967296)) ((x4 : Int) * 16777216)) ((x5 : Int) * 65536) = wrap64 ((x0 * 72057594037927936 + x1 * 281474976710656 + x2 * 1099511627776 + x3 * 4294967296 + x4 * 16777216 + x5 * 65536 : Nat) : Int) := orx_i64 (x0 * 4294967296 + x1 * 16777216 + x2 * 65536 + x3 * 256 + x4) 24 (x0 * 72057594037927936 + x1 * 281474976710656 + x2 * 1099511627776 + x3 * 4294967296 + x4 * 16777216) (x5 * 65536) (x0 * 72057594037927936 + x1 * 281474976710656 + x2 * 1099511627776 + x3 * 4294967296 + x4 * 16777216 + x5 * 65536) _ _ (by omega) h4 (wpos_i64 _ _ (by omega) (by omega)) (by omega) rfl
  have h6 : bits BinOp.or IntKind.i64 (bits BinOp.or IntKind.i64 (bits BinOp.or IntKind.i64 (bits BinOp.or IntKind.i64 (bits BinOp.or IntKind.i64 (bits BinOp.or IntKind.i64 (wrap64 ((x0 : Int) * 72057594037927936)) ((x1 : Int) * 281474976710656)) ((x2 : Int) * 1099511627776)) ((x3 : Int) * 4294967296)) ((x4 : Int) * 16777216)) ((x5 : Int) * 65536)) ((x6 : Int) * 256) = wrap64 ((x0 * 72057594037927936 + x1 * 281474976710656 + x2 * 1099511627776 + x3 * 4294967296 + x4 * 16777216 + x5 * 65536 + x6 * 256 : Nat) : Int) := orx_i64 (x0 * 1099511627776 + x1 * 4294967296 + x2 * 16777216 + x3 * 65536 + x4 * 256 + x5) 16 (x0 * 72057594037927936 + x1 * 281474976710656 + x2 * 1099511627776 + x3 * 4294967296 + x4 * 16777216 + x5 * 65536) (x6 * 256) (x0 * 72057594037927936 + x1 * 281474976710656 + x2 * 1099511627776 + x3 * 4294967296 + x4 * 16777216 + x5 * 65536 + x6 * 256) _ _ (by omega) h5 (wpos_i64 _ _ (by omega) (by omega)) (by omega) rfl
  have h7 : bits BinOp.or IntKind.i64 (bits BinOp.or IntKind.i64 (bits BinOp.or IntKind.i64 (bits BinOp.or IntKind.i64 (bits BinOp.or IntKind.i64 (bits BinOp.or IntKind.i64 (bits BinOp.or IntKind.i64 (wrap64 ((x0 : Int) * 72057594037927936)) ((x1 : Int) * 281474976710656)) ((x2 : Int) * 1099511627776)) ((x3 : Int) * 4294967296)) ((x4 : Int) * 16777216)) ((x5 : Int) * 65536)) ((x6 : Int) * 256)) ((x7 : Int)) = wrap64 ((x0 * 72057594037927936 + x1 * 281474976710656 + x2 * 1099511627776 + x3 * 4294967296 + x4 * 16777216 + x5 * 65536 + x6 * 256 + x7 : Nat) : Int) := orx_i64 (x0 * 281474976710656 + x1 * 1099511627776 + x2 * 4294967296 + x3 * 16777216 + x4 * 65536 + x5 * 256 + x6) 8 (x0 * 72057594037927936 + x1 * 281474976710656 + x2 * 1099511627776 + x3 * 4294967296 + x4 * 16777216 + x5 * 65536 + x6 * 256) (x7) (x0 * 72057594037927936 + x1 * 281474976710656 + x2 * 1099511627776 + x3 * 4294967296 + x4 * 16777216 + x5 * 65536 + x6 * 256 + x7) _ _ (by omega) h6 (wpos_i64 _ _ (by omega) (by omega)) (by omega) rfl
  have hT : T = x0 * 72057594037927936 + x1 * 281474976710656 + x2 * 1099511627776 + x3 * 4294967296 + x4 * 16777216 + x5 * 65536 + x6 * 256 + x7 := by omega
  rw [hT]
  exact h7.trans (sgn8 _ (by omega))
set_option maxRecDepth 100000 in
set_option maxHeartbeats 1600000 in
theorem getMuint64_any (S : Nat → Prop) (A : Option Addr) (b : UInt8) (bs : List UInt8) (n c : Nat) (w : World) (hn : n = (b :: bs).length) (h2 : 8 ≤ bs.length) (hr : RB w S A (b :: bs)) (hS : Old w S) :
    Calls Tryd.prog 129 #[.slice A n c] w fun e w' => e = .returned (.int .u64 (bigU (bs.take 8))) ∧ Quiet w w' := by
  obtain ⟨ad, rfl, hb, hc⟩ := hr.all_ (by simp)
  have hlt := hS _ hb
  have hv : Hid (((bigU (bs.take 8) : Nat) : Int) = (bs[0].toNat : Int) * 72057594037927936 + (bs[1].toNat : Int) * 281474976710656 + (bs[2].toNat : Int) * 1099511627776 + (bs[3].toNat : Int) * 4294967296 + (bs[4].toNat : Int) * 16777216 + (bs[5].toNat : Int) * 65536 + (bs[6].toNat : Int) * 256 + (bs[7].toNat : Int)) := by
    have e : bs.take 8 = [bs[0], bs[1], bs[2], bs[3], bs[4], bs[5], bs[6], bs[7]] := by
      apply List.ext_getElem
      · simp; omega
      · intro i h1 h2
        simp only [List.length_cons, List.length_nil] at h2
        rw [List.getElem_take]
        match i, h2 with
        | 0, _ => rfl
        | 1, _ => rfl
        | 2, _ => rfl
        | 3, _ => rfl
        | 4, _ => rfl
        | 5, _ => rfl
        | 6, _ => rfl
        | 7, _ => rfl
    rw [e]
    refine hide ?_
    simp [bigU] <;> omega
  have c0 : w.cell? ⟨ad.block, ad.off + 1, none⟩ = some (.int .u8 (bs[0].toNat : Int)) := hc 1 (by simp; omega)
  have l0 := bs[0].toNat_lt
  have c1 : w.cell? ⟨ad.block, ad.off + 2, none⟩ = some (.int .u8 (bs[1].toNat : Int)) := hc 2 (by simp; omega)
  have l1 := bs[1].toNat_lt
  have c2 : w.cell? ⟨ad.block, ad.off + 3, none⟩ = some (.int .u8 (bs[2].toNat : Int)) := hc 3 (by simp; omega)
  have l2 := bs[2].toNat_lt
  have c3 : w.cell? ⟨ad.block, ad.off + 4, none⟩ = some (.int .u8 (bs[3].toNat : Int)) := hc 4 (by simp; omega)
  have l3 := bs[3].toNat_lt
  have c4 : w.cell? ⟨ad.block, ad.off + 5, none⟩ = some (.int .u8 (bs[4].toNat : Int)) := hc 5 (by simp; omega)
  have l4 := bs[4].toNat_lt
  have c5 : w.cell? ⟨ad.block, ad.off + 6, none⟩ = some (.int .u8 (bs[5].toNat : Int)) := hc 6 (by simp; omega)
  have l5 := bs[5].toNat_lt
  have c6 : w.cell? ⟨ad.block, ad.off + 7, none⟩ = some (.int .u8 (bs[6].toNat : Int)) := hc 7 (by simp; omega)
  have l6 := bs[6].toNat_lt
  have c7 : w.cell? ⟨ad.block, ad.off + 8, none⟩ = some (.int .u8 (bs[7].toNat : Int)) := hc 8 (by simp; omega)
  have l7 := bs[7].toNat_lt
  have hn1 : 8 < n := by rw [hn]; simp; omega
  clear hc hr hn
  obtain ⟨T, hT⟩ : ∃ T, T = bigU (bs.take 8) := ⟨_, rfl⟩
  rw [← hT] at hv ⊢
  clear hT
  generalize bs[0].toNat = x0 at *
  generalize bs[1].toNat = x1 at *
  generalize bs[2].toNat = x2 at *
  generalize bs[3].toNat = x3 at *
  generalize bs[4].toNat = x4 at *
  generalize bs[5].toNat = x5 at *
  generalize bs[6].toNat = x6 at *
  generalize bs[7].toNat = x7 at *
  go_enter Tryd.func129, Tryd.ntmps129
  go_wp2
  go_quiet (fail)
  go_wp2
  go_ret
  refine ⟨?_, ⟨_, rfl⟩⟩
  refine congrArg Ending.returned (congrArg (Value.int .u64) ?_)
  have hv2 := unhide hv
  have h1 : bits BinOp.or IntKind.u64 ((x0 : Int) * 72057594037927936) ((x1 : Int) * 281474976710656) = IntKind.u64.wrap ((x0 * 72057594037927936 + x1 * 281474976710656 : Nat) : Int) := orx_u64 (x0) 56 (x0 * 72057594037927936) (x1 * 281474976710656) (x0 * 72057594037927936 + x1 * 281474976710656) _ _ (by omega) (wpos_u64 _ _ (by omega) (by omega)) (wpos_u64 _ _ (by omega) (by omega)) (by omega) rfl
  have h2 : bits BinOp.or IntKind.u64 (bits BinOp.or IntKind.u64 ((x0 : Int) * 72057594037927936) ((x1 : Int) * 281474976710656)) ((x2 : Int) * 1099511627776) = IntKind.u64.wrap ((x0 * 72057594037927936 + x1 * 281474976710656 + x2 * 1099511627776 : Nat) : Int) := orx_u64 (x0 * 256 + x1) 48 (x0 * 72057594037927936 + x1 * 281474976710656) (x2 * 1099511627776) (x0 * 72057594037927936 + x1 * 281474976710656 + x2 * 1099511627776) _ _ (by omega) h1 (wpos_u64 _ _ (by omega) (by omega)) (by omega) rfl
  have h3 : bits BinOp.or IntKind.u64 (bits BinOp.or IntKind.u64 (bits BinOp.or IntKind.u64 ((x0 : Int) * 72057594037927936) ((x1 : Int) * 281474976710656)) ((x2 : Int) * 1099511627776)) ((x3 : Int) * 4294967296) = IntKind.u64.wrap ((x0 * 72057594037927936 + x1 * 281474976710656 + x2 * 1099511627776 + x3 * 4294967296 : Nat) : Int) := orx_u64 (x0 * 65536 + x1 * 256 + x2) 40 (x0 * 72057594037927936 + x1 * 281474976710656 + x2 * 1099511627776) (x3 * 4294967296) (x0 * 72057594037927936 + x1 * 281474976710656 + x2 * 1099511627776 + x3 * 4294967296) _ _ (by omega) h2 (wpos_u64 _ _ (by omega) (by omega)) (by omega) rfl
  have h4 : bits BinOp.or IntKind.u64 (bits BinOp.or IntKind.u64 (bits BinOp.or IntKind.u64 (bits BinOp.or IntKind.u64 ((x0 : Int) * 72057594037927936) ((x1 : Int) * 281474976710656)) ((x2 : Int) * 1099511627776)) ((x3 : Int) * 4294967296)) ((x4 : Int) * 16777216) = IntKind.u64.wrap ((x0 * 72057594037927936 + x1 * 281474976710656 + x2 * 1099511627776 + x3 * 4294967296 + x4 * 16777216 : Nat) : Int) := orx_u64 (x0 * 16777216 + x1 * 65536 + x2 * 256 + x3) 32 (x0 * 72057594037927936 + x1 * 281474976710656 + x2 * 1099511627776 + x3 * 4294967296) (x4 * 16777216) (x0 * 72057594037927936 + x1 * 281474976710656 + x2 * 1099511627776 + x3 * 4294967296 + x4 * 16777216) _ _ (by omega) h3 (wpos_u64 _ _ (by omega) (by omega)) (by omega) rfl
  have h5 : bits BinOp.or IntKind.u64 (bits BinOp.or IntKind.u64 (bits BinOp.or IntKind.u64 (bits BinOp.or IntKind.u64 (bits BinOp.or IntKind.u64 ((x0 : Int) * 72057594037927936) ((x1 : Int) * 281474976710656)) ((x2 : Int) * 1099511627776)) ((x3 : Int) * 4294967296)) ((x4 : Int) * 16777216)) ((x5 : Int) * 65536) = IntKind.u64.wrap ((x0 * 72057594037927936 + x1 * 281474976710656 + x2 * 1099511627776 + x3 * 4294967296 + x4 * 16777216 + x5 * 65536 : Nat) : Int) := orx_u64 (x0 * 4294967296 + x1 * 16777216 + x2 * 65536 + x3 * 256 + x4) 24 (x0 * 72057594037927936 + x1 * 281474976710656 + x2 * 1099511627776 + x3 * 4294967296 + x4 * 16777216) (x5 * 65536) (x0 * 72057594037927936 + x1 * 281474976710656 + x2 * 1099511627776 + x3 * 4294967296 + x4 * 16777216 + x5 * 65536) _ _ (by omega) h4 (wpos_u64 _ _ (by omega) (by omega)) (by omega) rfl
  have h6 : bits BinOp.or IntKind.u64 (bits BinOp.or IntKind.u64 (bits BinOp.or IntKind.u64 (bits BinOp.or IntKind.u64 (bits BinOp.or IntKind.u64 (bits BinOp.or IntKind.u64 ((x0 : Int) * 72057594037927936) ((x1 : Int) * 281474976710656)) ((x2 : Int) * 1099511627776)) ((x3 : Int) * 4294967296)) ((x4 : Int) * 16777216)) ((x5 : Int) * 65536)) ((x6 : Int) * 256) = IntKind.u64.wrap ((x0 * 72057594037927936 + x1 * 281474976710656 + x2 * 1099511627776 + x3 * 4294967296 + x4 * 16777216 + x5 * 65536 + x6 * 256 : Nat) : Int) := orx_u64 (x0 * 1099511627776 + x1 * 4294967296 + x2 * 16777216 + x3 * 65536 + x4 * 256 + x5) 16 (x0 * 72057594037927936 + x1 * 281474976710656 + x2 * 1099511627776 + x3 * 4294967296 + x4 * 16777216 + x5 * 65536) (x6 * 256) (x0 * 72057594037927936 + x1 * 281474976710656 + x2 * 1099511627776 + x3 * 4294967296 + x4 * 16777216 + x5 * 65536 + x6 * 256) _ _ (by omega) h5 (wpos_u64 _ _ (by omega) (by omega)) (by omega) rfl
  have h7 : bits BinOp.or IntKind.u64 (bits BinOp.or IntKind.u64 (bits BinOp.or IntKind.u64 (bits BinOp.or IntKind.u64 (bits BinOp.or IntKind.u64 (bits BinOp.or IntKind.u64 (bits BinOp.or IntKind.u64 ((x0 : Int) * 72057594037927936) ((x1 : Int) * 281474976710656)) ((x2 : Int) * 1099511627776)) ((x3 : Int) * 4294967296)) ((x4 : Int) * 16777216)) ((x5 : Int) * 65536)) ((x6 : Int) * 256)) ((x7 : Int)) = IntKind.u64.wrap ((x0 * 72057594037927936 + x1 * 281474976710656 + x2 * 1099511627776 + x3 * 4294967296 + x4 * 16777216 + x5 * 65536 + x6 * 256 + x7 : Nat) : Int) := orx_u64 (x0 * 281474976710656 + x1 * 1099511627776 + x2 * 4294967296 + x3 * 16777216 + x4 * 65536 + x5 * 256 + x6) 8 (x0 * 72057594037927936 + x1 * 281474976710656 + x2 * 1099511627776 + x3 * 4294967296 + x4 * 16777216 + x5 * 65536 + x6 * 256) (x7) (x0 * 72057594037927936 + x1 * 281474976710656 + x2 * 1099511627776 + x3 * 4294967296 + x4 * 16777216 + x5 * 65536 + x6 * 256 + x7) _ _ (by omega) h6 (wpos_u64 _ _ (by omega) (by omega)) (by omega) rfl
  have hT : T = x0 * 72057594037927936 + x1 * 281474976710656 + x2 * 1099511627776 + x3 * 4294967296 + x4 * 16777216 + x5 * 65536 + x6 * 256 + x7 := by omega
  rw [hT]
  exact h7.trans (wpos_u64 _ _ rfl (by omega)).symm
end Go.Proofs.YtpadbpmnejgckaaDoor
