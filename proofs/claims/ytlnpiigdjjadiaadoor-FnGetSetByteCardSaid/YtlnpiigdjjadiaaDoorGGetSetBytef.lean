/-
  Lemmas, 3 texts in one: BytesR, Sgn, FixS. Each says its conditions.
-/
import Derived.Test.YtlnpiigdjjadiaaDoorGGetSetBytea
import Derived.Test.YtlnpiigdjjadiaaDoorProg
import Derived.BigQuiet
import Derived.Deep.QuietTactic

/-
  encoding/binary's BigEndian.Uint16, Uint32, Uint64: the number in the first bytes. Conditions: as many bytes are there.
-/
namespace Go.Proofs.YtlnpiigdjjadiaaDoor
set_option linter.unusedSimpArgs false
set_option linter.unusedVariables false
open Go.RowKit
/-- A number, the highest byte first. -/
def bigU (bs : List UInt8) : Nat := bs.foldl (fun a b => a * 256 + b.toNat) 0
theorem or_shift (a b k : Nat) (h : a < 2 ^ k) : a ||| b * 2 ^ k = b * 2 ^ k + a := by
  rw [Nat.or_comm, Nat.mul_comm, Nat.two_pow_add_eq_or_of_lt h]
theorem or_u16_8 (a b : Int) (h1 : 0 ≤ a) (h2 : a < 256) (h3 : 0 ≤ b) (h4 : b < 256) : bits BinOp.or IntKind.u16 a (b * 256) = b * 256 + a := by
  obtain ⟨A, rfl⟩ := Int.eq_ofNat_of_zero_le h1
  obtain ⟨B, rfl⟩ := Int.eq_ofNat_of_zero_le h3
  have h := u16_or_nat A (B * 256) (by omega) (by omega)
  have e : ((B * 256 : Nat) : Int) = (B : Int) * 256 := by omega
  rw [e] at h
  have h0 := or_shift A B 8 (by simp only [Nat.reducePow]; omega)
  simp only [Nat.reducePow] at h0
  have h5 : ((A ||| B * 256 : Nat) : Int) = ((B * 256 + A : Nat) : Int) := congrArg _ h0
  have h6 := h.trans h5
  clear h h0 h5 e
  have h7 : ((B * 256 + A : Nat) : Int) = (B : Int) * 256 + A := by omega
  exact h6.trans h7
theorem or_u32_8 (a b : Int) (h1 : 0 ≤ a) (h2 : a < 256) (h3 : 0 ≤ b) (h4 : b < 256) : bits BinOp.or IntKind.u32 a (b * 256) = b * 256 + a := by
  obtain ⟨A, rfl⟩ := Int.eq_ofNat_of_zero_le h1
  obtain ⟨B, rfl⟩ := Int.eq_ofNat_of_zero_le h3
  have h := u32_or_nat A (B * 256) (by omega) (by omega)
  have e : ((B * 256 : Nat) : Int) = (B : Int) * 256 := by omega
  rw [e] at h
  have h0 := or_shift A B 8 (by simp only [Nat.reducePow]; omega)
  simp only [Nat.reducePow] at h0
  have h5 : ((A ||| B * 256 : Nat) : Int) = ((B * 256 + A : Nat) : Int) := congrArg _ h0
  have h6 := h.trans h5
  clear h h0 h5 e
  have h7 : ((B * 256 + A : Nat) : Int) = (B : Int) * 256 + A := by omega
  exact h6.trans h7
theorem or_u32_16 (a b : Int) (h1 : 0 ≤ a) (h2 : a < 65536) (h3 : 0 ≤ b) (h4 : b < 256) : bits BinOp.or IntKind.u32 a (b * 65536) = b * 65536 + a := by
  obtain ⟨A, rfl⟩ := Int.eq_ofNat_of_zero_le h1
  obtain ⟨B, rfl⟩ := Int.eq_ofNat_of_zero_le h3
  have h := u32_or_nat A (B * 65536) (by omega) (by omega)
  have e : ((B * 65536 : Nat) : Int) = (B : Int) * 65536 := by omega
  rw [e] at h
  have h0 := or_shift A B 16 (by simp only [Nat.reducePow]; omega)
  simp only [Nat.reducePow] at h0
  have h5 : ((A ||| B * 65536 : Nat) : Int) = ((B * 65536 + A : Nat) : Int) := congrArg _ h0
  have h6 := h.trans h5
  clear h h0 h5 e
  have h7 : ((B * 65536 + A : Nat) : Int) = (B : Int) * 65536 + A := by omega
  exact h6.trans h7
theorem or_u32_24 (a b : Int) (h1 : 0 ≤ a) (h2 : a < 16777216) (h3 : 0 ≤ b) (h4 : b < 256) : bits BinOp.or IntKind.u32 a (b * 16777216) = b * 16777216 + a := by
  obtain ⟨A, rfl⟩ := Int.eq_ofNat_of_zero_le h1
  obtain ⟨B, rfl⟩ := Int.eq_ofNat_of_zero_le h3
  have h := u32_or_nat A (B * 16777216) (by omega) (by omega)
  have e : ((B * 16777216 : Nat) : Int) = (B : Int) * 16777216 := by omega
  rw [e] at h
  have h0 := or_shift A B 24 (by simp only [Nat.reducePow]; omega)
  simp only [Nat.reducePow] at h0
  have h5 : ((A ||| B * 16777216 : Nat) : Int) = ((B * 16777216 + A : Nat) : Int) := congrArg _ h0
  have h6 := h.trans h5
  clear h h0 h5 e
  have h7 : ((B * 16777216 + A : Nat) : Int) = (B : Int) * 16777216 + A := by omega
  exact h6.trans h7
theorem or_u64_8 (a b : Int) (h1 : 0 ≤ a) (h2 : a < 256) (h3 : 0 ≤ b) (h4 : b < 256) : bits BinOp.or IntKind.u64 a (b * 256) = b * 256 + a := by
  obtain ⟨A, rfl⟩ := Int.eq_ofNat_of_zero_le h1
  obtain ⟨B, rfl⟩ := Int.eq_ofNat_of_zero_le h3
  have h := u64_or_nat A (B * 256) (by omega) (by omega)
  have e : ((B * 256 : Nat) : Int) = (B : Int) * 256 := by omega
  rw [e] at h
  have h0 := or_shift A B 8 (by simp only [Nat.reducePow]; omega)
  simp only [Nat.reducePow] at h0
  have h5 : ((A ||| B * 256 : Nat) : Int) = ((B * 256 + A : Nat) : Int) := congrArg _ h0
  have h6 := h.trans h5
  clear h h0 h5 e
  have h7 : ((B * 256 + A : Nat) : Int) = (B : Int) * 256 + A := by omega
  exact h6.trans h7
theorem or_u64_16 (a b : Int) (h1 : 0 ≤ a) (h2 : a < 65536) (h3 : 0 ≤ b) (h4 : b < 256) : bits BinOp.or IntKind.u64 a (b * 65536) = b * 65536 + a := by
  obtain ⟨A, rfl⟩ := Int.eq_ofNat_of_zero_le h1
  obtain ⟨B, rfl⟩ := Int.eq_ofNat_of_zero_le h3
  have h := u64_or_nat A (B * 65536) (by omega) (by omega)
  have e : ((B * 65536 : Nat) : Int) = (B : Int) * 65536 := by omega
  rw [e] at h
  have h0 := or_shift A B 16 (by simp only [Nat.reducePow]; omega)
  simp only [Nat.reducePow] at h0
  have h5 : ((A ||| B * 65536 : Nat) : Int) = ((B * 65536 + A : Nat) : Int) := congrArg _ h0
  have h6 := h.trans h5
  clear h h0 h5 e
  have h7 : ((B * 65536 + A : Nat) : Int) = (B : Int) * 65536 + A := by omega
  exact h6.trans h7
theorem or_u64_24 (a b : Int) (h1 : 0 ≤ a) (h2 : a < 16777216) (h3 : 0 ≤ b) (h4 : b < 256) : bits BinOp.or IntKind.u64 a (b * 16777216) = b * 16777216 + a := by
  obtain ⟨A, rfl⟩ := Int.eq_ofNat_of_zero_le h1
  obtain ⟨B, rfl⟩ := Int.eq_ofNat_of_zero_le h3
  have h := u64_or_nat A (B * 16777216) (by omega) (by omega)
  have e : ((B * 16777216 : Nat) : Int) = (B : Int) * 16777216 := by omega
  rw [e] at h
  have h0 := or_shift A B 24 (by simp only [Nat.reducePow]; omega)
  simp only [Nat.reducePow] at h0
  have h5 : ((A ||| B * 16777216 : Nat) : Int) = ((B * 16777216 + A : Nat) : Int) := congrArg _ h0
  have h6 := h.trans h5
  clear h h0 h5 e
  have h7 : ((B * 16777216 + A : Nat) : Int) = (B : Int) * 16777216 + A := by omega
  exact h6.trans h7
theorem or_u64_32 (a b : Int) (h1 : 0 ≤ a) (h2 : a < 4294967296) (h3 : 0 ≤ b) (h4 : b < 256) : bits BinOp.or IntKind.u64 a (b * 4294967296) = b * 4294967296 + a := by
  obtain ⟨A, rfl⟩ := Int.eq_ofNat_of_zero_le h1
  obtain ⟨B, rfl⟩ := Int.eq_ofNat_of_zero_le h3
  have h := u64_or_nat A (B * 4294967296) (by omega) (by omega)
  have e : ((B * 4294967296 : Nat) : Int) = (B : Int) * 4294967296 := by omega
  rw [e] at h
  have h0 := or_shift A B 32 (by simp only [Nat.reducePow]; omega)
  simp only [Nat.reducePow] at h0
  have h5 : ((A ||| B * 4294967296 : Nat) : Int) = ((B * 4294967296 + A : Nat) : Int) := congrArg _ h0
  have h6 := h.trans h5
  clear h h0 h5 e
  have h7 : ((B * 4294967296 + A : Nat) : Int) = (B : Int) * 4294967296 + A := by omega
  exact h6.trans h7
theorem or_u64_40 (a b : Int) (h1 : 0 ≤ a) (h2 : a < 1099511627776) (h3 : 0 ≤ b) (h4 : b < 256) : bits BinOp.or IntKind.u64 a (b * 1099511627776) = b * 1099511627776 + a := by
  obtain ⟨A, rfl⟩ := Int.eq_ofNat_of_zero_le h1
  obtain ⟨B, rfl⟩ := Int.eq_ofNat_of_zero_le h3
  have h := u64_or_nat A (B * 1099511627776) (by omega) (by omega)
  have e : ((B * 1099511627776 : Nat) : Int) = (B : Int) * 1099511627776 := by omega
  rw [e] at h
  have h0 := or_shift A B 40 (by simp only [Nat.reducePow]; omega)
  simp only [Nat.reducePow] at h0
  have h5 : ((A ||| B * 1099511627776 : Nat) : Int) = ((B * 1099511627776 + A : Nat) : Int) := congrArg _ h0
  have h6 := h.trans h5
  clear h h0 h5 e
  have h7 : ((B * 1099511627776 + A : Nat) : Int) = (B : Int) * 1099511627776 + A := by omega
  exact h6.trans h7
theorem or_u64_48 (a b : Int) (h1 : 0 ≤ a) (h2 : a < 281474976710656) (h3 : 0 ≤ b) (h4 : b < 256) : bits BinOp.or IntKind.u64 a (b * 281474976710656) = b * 281474976710656 + a := by
  obtain ⟨A, rfl⟩ := Int.eq_ofNat_of_zero_le h1
  obtain ⟨B, rfl⟩ := Int.eq_ofNat_of_zero_le h3
  have h := u64_or_nat A (B * 281474976710656) (by omega) (by omega)
  have e : ((B * 281474976710656 : Nat) : Int) = (B : Int) * 281474976710656 := by omega
  rw [e] at h
  have h0 := or_shift A B 48 (by simp only [Nat.reducePow]; omega)
  simp only [Nat.reducePow] at h0
  have h5 : ((A ||| B * 281474976710656 : Nat) : Int) = ((B * 281474976710656 + A : Nat) : Int) := congrArg _ h0
  have h6 := h.trans h5
  clear h h0 h5 e
  have h7 : ((B * 281474976710656 + A : Nat) : Int) = (B : Int) * 281474976710656 + A := by omega
  exact h6.trans h7
theorem or_u64_56 (a b : Int) (h1 : 0 ≤ a) (h2 : a < 72057594037927936) (h3 : 0 ≤ b) (h4 : b < 256) : bits BinOp.or IntKind.u64 a (b * 72057594037927936) = b * 72057594037927936 + a := by
  obtain ⟨A, rfl⟩ := Int.eq_ofNat_of_zero_le h1
  obtain ⟨B, rfl⟩ := Int.eq_ofNat_of_zero_le h3
  have h := u64_or_nat A (B * 72057594037927936) (by omega) (by omega)
  have e : ((B * 72057594037927936 : Nat) : Int) = (B : Int) * 72057594037927936 := by omega
  rw [e] at h
  have h0 := or_shift A B 56 (by simp only [Nat.reducePow]; omega)
  simp only [Nat.reducePow] at h0
  have h5 : ((A ||| B * 72057594037927936 : Nat) : Int) = ((B * 72057594037927936 + A : Nat) : Int) := congrArg _ h0
  have h6 := h.trans h5
  clear h h0 h5 e
  have h7 : ((B * 72057594037927936 + A : Nat) : Int) = (B : Int) * 72057594037927936 + A := by omega
  exact h6.trans h7
set_option maxRecDepth 100000 in
set_option maxHeartbeats 1600000 in
theorem beu16_any (S : Nat → Prop) (A : Option Addr) (bs : List UInt8) (n c : Nat) (w : World) (hn : n = bs.length) (h2 : 2 ≤ n) (hr : RB w S A bs) (hS : Old w S) :
    Calls Tryd.prog 62 #[.agg #[], .slice A n c] w fun e w' => e = .returned (.int .u16 (bigU (bs.take 2))) ∧ Below w.heap.size w w' := by
  have hl : 2 ≤ bs.length := by omega
  obtain ⟨ad, rfl, hb, hc⟩ := hr.all_ (by omega)
  have hlt := hS _ hb
  have hv : Hid (((bigU (bs.take 2) : Nat) : Int) = (bs[0].toNat : Int) * 256 + (bs[1].toNat : Int)) := by
    have e : bs.take 2 = [bs[0], bs[1]] := by
      apply List.ext_getElem
      · simp; omega
      · intro i h1 h2
        simp only [List.length_cons, List.length_nil] at h2
        rw [List.getElem_take]
        match i, h2 with
        | 0, _ => rfl
        | 1, _ => rfl
    rw [e]
    refine hide ?_
    simp [bigU] <;> omega
  have c0 : w.cell? ad = some (.int .u8 (bs[0].toNat : Int)) := hc 0 (by omega)
  have l0 := bs[0].toNat_lt
  have c1 : w.cell? ⟨ad.block, ad.off + 1, none⟩ = some (.int .u8 (bs[1].toNat : Int)) := hc 1 (by omega)
  have l1 := bs[1].toNat_lt
  clear hc
  obtain ⟨T, hT⟩ : ∃ T, T = bigU (bs.take 2) := ⟨_, rfl⟩
  rw [← hT] at hv ⊢
  clear hT
  generalize bs[0].toNat = x0 at *
  generalize bs[1].toNat = x1 at *
  clear hn
  go_enter Tryd.func62, Tryd.ntmps62
  go_wp2
  go_quiet (fail)
  go_wp2
  go_ret
  refine ⟨?_, (by repeat (first | with_reducible exact Below.refl _ _ | with_reducible exact x | with_reducible refine Below.alloc ?_ (by first | omega | (simp; omega) | (simp; done)) _ | with_reducible refine Below.setCell ?_ (by first | omega | (simp; omega) | (simp; done)) _ | with_reducible refine Below.drew ?_ | with_reducible refine below_drewN ?_ _))⟩
  rw [unhide hv]
  simp (disch := omega) only [or_u16_8]
  refine congrArg Ending.returned ?_
  refine congrArg (Value.int .u16) ?_
  omega
set_option maxRecDepth 100000 in
set_option maxHeartbeats 1600000 in
theorem beu32_any (S : Nat → Prop) (A : Option Addr) (bs : List UInt8) (n c : Nat) (w : World) (hn : n = bs.length) (h2 : 4 ≤ n) (hr : RB w S A bs) (hS : Old w S) :
    Calls Tryd.prog 63 #[.agg #[], .slice A n c] w fun e w' => e = .returned (.int .u32 (bigU (bs.take 4))) ∧ Below w.heap.size w w' := by
  have hl : 4 ≤ bs.length := by omega
  obtain ⟨ad, rfl, hb, hc⟩ := hr.all_ (by omega)
  have hlt := hS _ hb
  have hv : Hid (((bigU (bs.take 4) : Nat) : Int) = (bs[0].toNat : Int) * 16777216 + (bs[1].toNat : Int) * 65536 + (bs[2].toNat : Int) * 256 + (bs[3].toNat : Int)) := by
    have e : bs.take 4 = [bs[0], bs[1], bs[2], bs[3]] := by
      apply List.ext_getElem
      · simp; omega
      · intro i h1 h2
        simp only [List.length_cons, List.length_nil] at h2
        rw [List.getElem_take]
        match i, h2 with
        | 0, _ => rfl
        | 1, _ => rfl
        | 2, _ => rfl
        | 3, _ => rfl
    rw [e]
    refine hide ?_
    simp [bigU] <;> omega
  have c0 : w.cell? ad = some (.int .u8 (bs[0].toNat : Int)) := hc 0 (by omega)
  have l0 := bs[0].toNat_lt
  have c1 : w.cell? ⟨ad.block, ad.off + 1, none⟩ = some (.int .u8 (bs[1].toNat : Int)) := hc 1 (by omega)
  have l1 := bs[1].toNat_lt
  have c2 : w.cell? ⟨ad.block, ad.off + 2, none⟩ = some (.int .u8 (bs[2].toNat : Int)) := hc 2 (by omega)
  have l2 := bs[2].toNat_lt
  have c3 : w.cell? ⟨ad.block, ad.off + 3, none⟩ = some (.int .u8 (bs[3].toNat : Int)) := hc 3 (by omega)
  have l3 := bs[3].toNat_lt
  clear hc
  obtain ⟨T, hT⟩ : ∃ T, T = bigU (bs.take 4) := ⟨_, rfl⟩
  rw [← hT] at hv ⊢
  clear hT
  generalize bs[0].toNat = x0 at *
  generalize bs[1].toNat = x1 at *
  generalize bs[2].toNat = x2 at *
  generalize bs[3].toNat = x3 at *
  clear hn
  go_enter Tryd.func63, Tryd.ntmps63
  go_wp2
  go_quiet (fail)
  go_wp2
  go_ret
  refine ⟨?_, (by repeat (first | with_reducible exact Below.refl _ _ | with_reducible exact x | with_reducible refine Below.alloc ?_ (by first | omega | (simp; omega) | (simp; done)) _ | with_reducible refine Below.setCell ?_ (by first | omega | (simp; omega) | (simp; done)) _ | with_reducible refine Below.drew ?_ | with_reducible refine below_drewN ?_ _))⟩
  rw [unhide hv]
  simp (disch := omega) only [or_u32_8, or_u32_16, or_u32_24]
  refine congrArg Ending.returned ?_
  refine congrArg (Value.int .u32) ?_
  omega
set_option maxRecDepth 100000 in
set_option maxHeartbeats 1600000 in
theorem beu64_any (S : Nat → Prop) (A : Option Addr) (bs : List UInt8) (n c : Nat) (w : World) (hn : n = bs.length) (h2 : 8 ≤ n) (hr : RB w S A bs) (hS : Old w S) :
    Calls Tryd.prog 86 #[.agg #[], .slice A n c] w fun e w' => e = .returned (.int .u64 (bigU (bs.take 8))) ∧ Below w.heap.size w w' := by
  have hl : 8 ≤ bs.length := by omega
  obtain ⟨ad, rfl, hb, hc⟩ := hr.all_ (by omega)
  have hlt := hS _ hb
  have hv : Hid (((bigU (bs.take 8) : Nat) : Int) = (bs[0].toNat : Int) * 72057594037927936 + (bs[1].toNat : Int) * 281474976710656 + (bs[2].toNat : Int) * 1099511627776 + (bs[3].toNat : Int) * 4294967296 + (bs[4].toNat : Int) * 16777216 + (bs[5].toNat : Int) * 65536 + (bs[6].toNat : Int) * 256 + (bs[7].toNat : Int)) := by
    have e : bs.take 8 = [bs[0], bs[1], bs[2], bs[3], bs[4], bs[5], bs[6], bs[7]] := by
      apply List.ext_getElem
      · simp; omega
      · intro i h1 h2
        simp only [List.length_cons, List.length_nil] at h2
        rw [List.getElem_take]
        match i, h2 with
        | 0, _ => rfl
        | 1, _ => rfl
        | 2, _ => rfl
        | 3, _ => rfl
        | 4, _ => rfl
        | 5, _ => rfl
        | 6, _ => rfl
        | 7, _ => rfl
    rw [e]
    refine hide ?_
    simp [bigU] <;> omega
  have c0 : w.cell? ad = some (.int .u8 (bs[0].toNat : Int)) := hc 0 (by omega)
  have l0 := bs[0].toNat_lt
  have c1 : w.cell? ⟨ad.block, ad.off + 1, none⟩ = some (.int .u8 (bs[1].toNat : Int)) := hc 1 (by omega)
  have l1 := bs[1].toNat_lt
  have c2 : w.cell? ⟨ad.block, ad.off + 2, none⟩ = some (.int .u8 (bs[2].toNat : Int)) := hc 2 (by omega)
  have l2 := bs[2].toNat_lt
  have c3 : w.cell? ⟨ad.block, ad.off + 3, none⟩ = some (.int .u8 (bs[3].toNat : Int)) := hc 3 (by omega)
  have l3 := bs[3].toNat_lt
  have c4 : w.cell? ⟨ad.block, ad.off + 4, none⟩ = some (.int .u8 (bs[4].toNat : Int)) := hc 4 (by omega)
  have l4 := bs[4].toNat_lt
  have c5 : w.cell? ⟨ad.block, ad.off + 5, none⟩ = some (.int .u8 (bs[5].toNat : Int)) := hc 5 (by omega)
  have l5 := bs[5].toNat_lt
  have c6 : w.cell? ⟨ad.block, ad.off + 6, none⟩ = some (.int .u8 (bs[6].toNat : Int)) := hc 6 (by omega)
  have l6 := bs[6].toNat_lt
  have c7 : w.cell? ⟨ad.block, ad.off + 7, none⟩ = some (.int .u8 (bs[7].toNat : Int)) := hc 7 (by omega)
  have l7 := bs[7].toNat_lt
  clear hc
  obtain ⟨T, hT⟩ : ∃ T, T = bigU (bs.take 8) := ⟨_, rfl⟩
  rw [← hT] at hv ⊢
  clear hT
  generalize bs[0].toNat = x0 at *
  generalize bs[1].toNat = x1 at *
  generalize bs[2].toNat = x2 at *
  generalize bs[3].toNat = x3 at *
  generalize bs[4].toNat = x4 at *
  generalize bs[5].toNat = x5 at *
  generalize bs[6].toNat = x6 at *
  generalize bs[7].toNat = x7 at *
  clear hn
  go_enter Tryd.func86, Tryd.ntmps86
  go_wp2
  go_quiet (fail)
  go_wp2
  go_ret
  refine ⟨?_, (by repeat (first | with_reducible exact Below.refl _ _ | with_reducible exact x | with_reducible refine Below.alloc ?_ (by first | omega | (simp; omega) | (simp; done)) _ | with_reducible refine Below.setCell ?_ (by first | omega | (simp; omega) | (simp; done)) _ | with_reducible refine Below.drew ?_ | with_reducible refine below_drewN ?_ _))⟩
  rw [unhide hv]
  simp (disch := omega) only [or_u64_8, or_u64_16, or_u64_24, or_u64_32, or_u64_40, or_u64_48, or_u64_56]
  refine congrArg Ending.returned ?_
  refine congrArg (Value.int .u64) ?_
  omega
end Go.Proofs.YtlnpiigdjjadiaaDoor

/-
  A number of so many bytes, as one with a sign. No Go in it but for the names.
-/
namespace Go.Proofs.YtlnpiigdjjadiaaDoor
set_option linter.unusedSimpArgs false
set_option linter.unusedVariables false
open Go.RowKit
/-- A number of so many bytes, as one with a sign. -/
def sgn (s u : Nat) : Int := if u < 2 ^ (8 * s - 1) then (u : Int) else (u : Int) - 2 ^ (8 * s)
theorem sgn1 (u : Nat) (h : u < 256) : IntKind.i8.wrap (u : Int) = sgn 1 u := by simp [IntKind.wrap, IntKind.bits, IntKind.signed, sgn]; split <;> omega
theorem sgn2 (u : Nat) (h : u < 65536) : IntKind.i16.wrap (u : Int) = sgn 2 u := by simp [IntKind.wrap, IntKind.bits, IntKind.signed, sgn]; split <;> omega
theorem sgn4 (u : Nat) (h : u < 4294967296) : IntKind.i32.wrap (u : Int) = sgn 4 u := by simp [IntKind.wrap, IntKind.bits, IntKind.signed, sgn]; split <;> omega
theorem sgn8 (u : Nat) (h : u < 18446744073709551616) : wrap64 (u : Int) = sgn 8 u := by unfold wrap64; simp [sgn]; split <;> omega
theorem sgn_lo (s u : Nat) (hs : s = 1 ∨ s = 2 ∨ s = 4 ∨ s = 8) (h : u < 256 ^ s) : -9223372036854775808 ≤ sgn s u ∧ sgn s u ≤ 9223372036854775807 := by
  rcases hs with rfl | rfl | rfl | rfl <;> simp [sgn] at h ⊢ <;> split <;> omega
theorem sgn_lo1 (u : Nat) (h : u < 256) : -128 ≤ sgn 1 u ∧ sgn 1 u ≤ 127 := by simp [sgn]; split <;> omega
theorem sgn_lo2 (u : Nat) (h : u < 65536) : -32768 ≤ sgn 2 u ∧ sgn 2 u ≤ 32767 := by simp [sgn]; split <;> omega
theorem sgn_lo4 (u : Nat) (h : u < 4294967296) : -2147483648 ≤ sgn 4 u ∧ sgn 4 u ≤ 2147483647 := by simp [sgn]; split <;> omega
end Go.Proofs.YtlnpiigdjjadiaaDoor

/-
  msgp.isfixint, rfixint, isnfixint, rnfixint. No condition.
-/
namespace Go.Proofs.YtlnpiigdjjadiaaDoor
set_option linter.unusedSimpArgs false
set_option linter.unusedVariables false
open Go.RowKit
theorem and224_e0S : ∀ b : Nat, b < 256 → (bits BinOp.and IntKind.u8 (b : Int) 224 == 224) = decide (224 ≤ b) := by decide +kernel
theorem and15S : ∀ b : Nat, b < 256 → bits BinOp.and IntKind.u8 (b : Int) 15 = ((b % 16 : Nat) : Int) := by decide +kernel
theorem and240_80S : ∀ b : Nat, b < 256 → (bits BinOp.and IntKind.u8 (b : Int) 240 == 128) = decide (128 ≤ b ∧ b < 144) := by decide +kernel
theorem isnfS_any (b : Nat) (hb : b < 256) (w : World) : Calls Tryd.prog 84 #[.int .u8 b] w fun e w' => e = .returned (.bool (decide (224 ≤ b))) ∧ w = w' := by
  have hf := hide (and224_e0S b hb)
  go_enter Tryd.func84, Tryd.ntmps84
  go_wp2
  go_ret
  refine ⟨?_, rfl⟩
  rw [← unhide hf]
  rfl
theorem rfixmapS_any (b : Nat) (hb : b < 256) (w : World) : Calls Tryd.prog 169 #[.int .u8 b] w fun e w' => e = .returned (.int .u8 ((b : Int) % 16)) ∧ w = w' := by
  go_enter Tryd.func169, Tryd.ntmps169
  go_wp2
  go_ret
  exact ⟨rfl, rfl⟩
theorem isfixint_yes (b : Nat) (h : b < 128) (w : World) : Calls Tryd.prog 82 #[.int .u8 b] w fun e w' => e = .returned (.bool true) ∧ w = w' := by
  have h2 : (b : Int) < 128 := by omega
  have h3 : (((b : Int) / 128) == 0) = true := by simp; omega
  clear h
  go_enter Tryd.func82, Tryd.ntmps82
  go_wp2
  go_ret
  exact ⟨rfl, rfl⟩
theorem isfixint_no (b : Nat) (h : 128 ≤ b) (hb : b < 256) (w : World) : Calls Tryd.prog 82 #[.int .u8 b] w fun e w' => e = .returned (.bool false) ∧ w = w' := by
  have h2 : (b : Int) < 256 := by omega
  have h3 : (((b : Int) / 128) == 0) = false := by simp; omega
  clear h
  go_enter Tryd.func82, Tryd.ntmps82
  go_wp2
  go_ret
  exact ⟨rfl, rfl⟩
theorem rfixint_any (b : Nat) (w : World) : Calls Tryd.prog 83 #[.int .u8 b] w fun e w' => e = .returned (.int .u8 b) ∧ w = w' := by
  go_enter Tryd.func83, Tryd.ntmps83
  go_wp2
  go_ret
  exact ⟨rfl, rfl⟩
theorem isnfixint_yes (b : Nat) (h : 224 ≤ b) (hb : b < 256) (w : World) : Calls Tryd.prog 84 #[.int .u8 b] w fun e w' => e = .returned (.bool true) ∧ w = w' := by
  refine (isnfS_any b hb w).mono ?_
  rintro e w' ⟨rfl, rfl⟩
  exact ⟨by rw [decide_eq_true h], rfl⟩
theorem isnfixint_no (b : Nat) (h : b < 224) (w : World) : Calls Tryd.prog 84 #[.int .u8 b] w fun e w' => e = .returned (.bool false) ∧ w = w' := by
  refine (isnfS_any b (by omega) w).mono ?_
  rintro e w' ⟨rfl, rfl⟩
  exact ⟨by rw [decide_eq_false (by omega)], rfl⟩
theorem rnfixint_any (b : Nat) (h : 224 ≤ b) (hb : b < 256) (w : World) : Calls Tryd.prog 85 #[.int .u8 b] w fun e w' => e = .returned (.int .i8 ((b : Int) - 256)) ∧ w = w' := by
  have h2 : IntKind.i8.wrap (b : Int) = (b : Int) - 256 := by simp [IntKind.wrap, IntKind.bits, IntKind.signed]; omega
  generalize (b : Int) - 256 = s at *
  clear h hb
  go_enter Tryd.func85, Tryd.ntmps85
  go_wp2
  go_ret
  exact ⟨rfl, rfl⟩
end Go.Proofs.YtlnpiigdjjadiaaDoor
