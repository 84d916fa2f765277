/-
  Lemmas, 3 texts in one: Spec, Spec2, Forms. Each says its conditions.
-/
import Derived.Test.YtlnpiigdjjadiaaDoorProg
import Derived.Test.YtlnpiigdjjadiaaDoorGGetSetBytea
import Derived.BigFrame

/-
  msgp's table of lead bytes: calcBytespec, getBytespec, getType; badPrefix is an error. Conditions: bytes.
-/
namespace Go.Proofs.YtlnpiigdjjadiaaDoor
set_option linter.unusedSimpArgs false
set_option linter.unusedVariables false
open Go.RowKit
/-- Size, mode, type of a lead byte. -/
def bspec (b : Nat) : Int × Int × Int :=
  if b < 128 then (1, 0, 8) else if b < 144 then (1, 2 * ((b : Int) % 16), 3) else if b < 160 then (1, (b : Int) % 16, 4) else if b < 192 then (1 + (b : Int) % 32, 0, 1) else if 224 ≤ b then (1, 0, 8) else
  match b with
  | 192 => (1, 0, 10)
  | 194 => (1, 0, 7)
  | 195 => (1, 0, 7)
  | 196 => (2, -1, 2)
  | 197 => (3, -2, 2)
  | 198 => (5, -3, 2)
  | 199 => (3, -1, 12)
  | 200 => (4, -2, 12)
  | 201 => (6, -3, 12)
  | 202 => (5, 0, 6)
  | 203 => (9, 0, 5)
  | 204 => (2, 0, 9)
  | 205 => (3, 0, 9)
  | 206 => (5, 0, 9)
  | 207 => (9, 0, 9)
  | 208 => (2, 0, 8)
  | 209 => (3, 0, 8)
  | 210 => (5, 0, 8)
  | 211 => (9, 0, 8)
  | 212 => (3, 0, 12)
  | 213 => (4, 0, 12)
  | 214 => (6, 0, 12)
  | 215 => (10, 0, 12)
  | 216 => (18, 0, 12)
  | 217 => (2, -1, 1)
  | 218 => (3, -2, 1)
  | 219 => (5, -3, 1)
  | 220 => (3, -6, 4)
  | 221 => (5, -7, 4)
  | 222 => (3, -4, 3)
  | 223 => (5, -5, 3)
  | _ => (0, 0, 0)
abbrev specV (b : Nat) : Value := .agg #[.int .u8 (bspec b).1, .int .i8 (bspec b).2.1, .int .u8 (bspec b).2.2, .int .u8 0]
theorem and15 : ∀ b : Nat, b < 256 → bits BinOp.and IntKind.u8 (b : Int) 15 = ((b % 16 : Nat) : Int) := by decide +kernel
theorem and31 : ∀ b : Nat, b < 256 → bits BinOp.and IntKind.u8 (b : Int) 31 = ((b % 32 : Nat) : Int) := by decide +kernel
theorem and240_90 : ∀ b : Nat, b < 256 → (bits BinOp.and IntKind.u8 (b : Int) 240 == 144) = decide (144 ≤ b ∧ b < 160) := by decide +kernel
theorem and224_a0 : ∀ b : Nat, b < 256 → (bits BinOp.and IntKind.u8 (b : Int) 224 == 160) = decide (160 ≤ b ∧ b < 192) := by decide +kernel
theorem and224_e0 : ∀ b : Nat, b < 256 → (bits BinOp.and IntKind.u8 (b : Int) 224 == 224) = decide (224 ≤ b) := by decide +kernel
theorem isfixarray_any (b : Nat) (hb : b < 256) (w : World) : Calls Tryd.prog 60 #[.int .u8 b] w fun e w' => e = .returned (.bool (decide (144 ≤ b ∧ b < 160))) ∧ w = w' := by
  have hf := hide (and240_90 b hb)
  go_enter Tryd.func60, Tryd.ntmps60
  go_wp2
  go_ret
  refine ⟨?_, rfl⟩
  rw [← unhide hf]
  rfl
theorem isnfixint_any (b : Nat) (hb : b < 256) (w : World) : Calls Tryd.prog 84 #[.int .u8 b] w fun e w' => e = .returned (.bool (decide (224 ≤ b))) ∧ w = w' := by
  have hf := hide (and224_e0 b hb)
  go_enter Tryd.func84, Tryd.ntmps84
  go_wp2
  go_ret
  refine ⟨?_, rfl⟩
  rw [← unhide hf]
  rfl
theorem rfixarray_any (b : Nat) (hb : b < 256) (w : World) : Calls Tryd.prog 61 #[.int .u8 b] w fun e w' => e = .returned (.int .u8 ((b : Int) % 16)) ∧ w = w' := by
  go_enter Tryd.func61, Tryd.ntmps61
  go_wp2
  go_ret
  exact ⟨rfl, rfl⟩
theorem rfixmap_any (b : Nat) (hb : b < 256) (w : World) : Calls Tryd.prog 169 #[.int .u8 b] w fun e w' => e = .returned (.int .u8 ((b : Int) % 16)) ∧ w = w' := by
  go_enter Tryd.func169, Tryd.ntmps169
  go_wp2
  go_ret
  exact ⟨rfl, rfl⟩
theorem rfixstr_any (b : Nat) (hb : b < 256) (w : World) : Calls Tryd.prog 168 #[.int .u8 b] w fun e w' => e = .returned (.int .u8 ((b : Int) % 32)) ∧ w = w' := by
  go_enter Tryd.func168, Tryd.ntmps168
  go_wp2
  go_ret
  exact ⟨rfl, rfl⟩
set_option maxRecDepth 100000 in
set_option maxHeartbeats 400000 in
theorem calc_192 (w : World) : Calls Tryd.prog 154 #[.int .u8 192] w fun e w' => e = .returned (specV 192) ∧ Below w.heap.size w w' := by
  go_enter Tryd.func154, Tryd.ntmps154
  go_wp2
  exact bodyPost_ret (v := .agg #[.int .u8 1, .int .i8 (0), .int .u8 10, .int .u8 0]) (by simp [results, Tryd.results154, go_sem]) rfl ⟨rfl, (by repeat (first | with_reducible exact Below.refl _ _ | with_reducible exact x | with_reducible refine Below.alloc ?_ (by first | omega | (simp; omega) | (simp; done)) _ | with_reducible refine Below.setCell ?_ (by first | omega | (simp; omega) | (simp; done)) _ | with_reducible refine Below.drew ?_ | with_reducible refine below_drewN ?_ _))⟩
set_option maxRecDepth 100000 in
set_option maxHeartbeats 400000 in
theorem calc_194 (w : World) : Calls Tryd.prog 154 #[.int .u8 194] w fun e w' => e = .returned (specV 194) ∧ Below w.heap.size w w' := by
  go_enter Tryd.func154, Tryd.ntmps154
  go_wp2
  exact bodyPost_ret (v := .agg #[.int .u8 1, .int .i8 (0), .int .u8 7, .int .u8 0]) (by simp [results, Tryd.results154, go_sem]) rfl ⟨rfl, (by repeat (first | with_reducible exact Below.refl _ _ | with_reducible exact x | with_reducible refine Below.alloc ?_ (by first | omega | (simp; omega) | (simp; done)) _ | with_reducible refine Below.setCell ?_ (by first | omega | (simp; omega) | (simp; done)) _ | with_reducible refine Below.drew ?_ | with_reducible refine below_drewN ?_ _))⟩
set_option maxRecDepth 100000 in
set_option maxHeartbeats 400000 in
theorem calc_195 (w : World) : Calls Tryd.prog 154 #[.int .u8 195] w fun e w' => e = .returned (specV 195) ∧ Below w.heap.size w w' := by
  go_enter Tryd.func154, Tryd.ntmps154
  go_wp2
  exact bodyPost_ret (v := .agg #[.int .u8 1, .int .i8 (0), .int .u8 7, .int .u8 0]) (by simp [results, Tryd.results154, go_sem]) rfl ⟨rfl, (by repeat (first | with_reducible exact Below.refl _ _ | with_reducible exact x | with_reducible refine Below.alloc ?_ (by first | omega | (simp; omega) | (simp; done)) _ | with_reducible refine Below.setCell ?_ (by first | omega | (simp; omega) | (simp; done)) _ | with_reducible refine Below.drew ?_ | with_reducible refine below_drewN ?_ _))⟩
set_option maxRecDepth 100000 in
set_option maxHeartbeats 400000 in
theorem calc_196 (w : World) : Calls Tryd.prog 154 #[.int .u8 196] w fun e w' => e = .returned (specV 196) ∧ Below w.heap.size w w' := by
  go_enter Tryd.func154, Tryd.ntmps154
  go_wp2
  exact bodyPost_ret (v := .agg #[.int .u8 2, .int .i8 (-1), .int .u8 2, .int .u8 0]) (by simp [results, Tryd.results154, go_sem]) rfl ⟨rfl, (by repeat (first | with_reducible exact Below.refl _ _ | with_reducible exact x | with_reducible refine Below.alloc ?_ (by first | omega | (simp; omega) | (simp; done)) _ | with_reducible refine Below.setCell ?_ (by first | omega | (simp; omega) | (simp; done)) _ | with_reducible refine Below.drew ?_ | with_reducible refine below_drewN ?_ _))⟩
set_option maxRecDepth 100000 in
set_option maxHeartbeats 400000 in
theorem calc_197 (w : World) : Calls Tryd.prog 154 #[.int .u8 197] w fun e w' => e = .returned (specV 197) ∧ Below w.heap.size w w' := by
  go_enter Tryd.func154, Tryd.ntmps154
  go_wp2
  exact bodyPost_ret (v := .agg #[.int .u8 3, .int .i8 (-2), .int .u8 2, .int .u8 0]) (by simp [results, Tryd.results154, go_sem]) rfl ⟨rfl, (by repeat (first | with_reducible exact Below.refl _ _ | with_reducible exact x | with_reducible refine Below.alloc ?_ (by first | omega | (simp; omega) | (simp; done)) _ | with_reducible refine Below.setCell ?_ (by first | omega | (simp; omega) | (simp; done)) _ | with_reducible refine Below.drew ?_ | with_reducible refine below_drewN ?_ _))⟩
set_option maxRecDepth 100000 in
set_option maxHeartbeats 400000 in
theorem calc_198 (w : World) : Calls Tryd.prog 154 #[.int .u8 198] w fun e w' => e = .returned (specV 198) ∧ Below w.heap.size w w' := by
  go_enter Tryd.func154, Tryd.ntmps154
  go_wp2
  exact bodyPost_ret (v := .agg #[.int .u8 5, .int .i8 (-3), .int .u8 2, .int .u8 0]) (by simp [results, Tryd.results154, go_sem]) rfl ⟨rfl, (by repeat (first | with_reducible exact Below.refl _ _ | with_reducible exact x | with_reducible refine Below.alloc ?_ (by first | omega | (simp; omega) | (simp; done)) _ | with_reducible refine Below.setCell ?_ (by first | omega | (simp; omega) | (simp; done)) _ | with_reducible refine Below.drew ?_ | with_reducible refine below_drewN ?_ _))⟩
set_option maxRecDepth 100000 in
set_option maxHeartbeats 400000 in
theorem calc_199 (w : World) : Calls Tryd.prog 154 #[.int .u8 199] w fun e w' => e = .returned (specV 199) ∧ Below w.heap.size w w' := by
  go_enter Tryd.func154, Tryd.ntmps154
  go_wp2
  exact bodyPost_ret (v := .agg #[.int .u8 3, .int .i8 (-1), .int .u8 12, .int .u8 0]) (by simp [results, Tryd.results154, go_sem]) rfl ⟨rfl, (by repeat (first | with_reducible exact Below.refl _ _ | with_reducible exact x | with_reducible refine Below.alloc ?_ (by first | omega | (simp; omega) | (simp; done)) _ | with_reducible refine Below.setCell ?_ (by first | omega | (simp; omega) | (simp; done)) _ | with_reducible refine Below.drew ?_ | with_reducible refine below_drewN ?_ _))⟩
set_option maxRecDepth 100000 in
set_option maxHeartbeats 400000 in
theorem calc_200 (w : World) : Calls Tryd.prog 154 #[.int .u8 200] w fun e w' => e = .returned (specV 200) ∧ Below w.heap.size w w' := by
  go_enter Tryd.func154, Tryd.ntmps154
  go_wp2
  exact bodyPost_ret (v := .agg #[.int .u8 4, .int .i8 (-2), .int .u8 12, .int .u8 0]) (by simp [results, Tryd.results154, go_sem]) rfl ⟨rfl, (by repeat (first | with_reducible exact Below.refl _ _ | with_reducible exact x | with_reducible refine Below.alloc ?_ (by first | omega | (simp; omega) | (simp; done)) _ | with_reducible refine Below.setCell ?_ (by first | omega | (simp; omega) | (simp; done)) _ | with_reducible refine Below.drew ?_ | with_reducible refine below_drewN ?_ _))⟩
set_option maxRecDepth 100000 in
set_option maxHeartbeats 400000 in
theorem calc_201 (w : World) : Calls Tryd.prog 154 #[.int .u8 201] w fun e w' => e = .returned (specV 201) ∧ Below w.heap.size w w' := by
  go_enter Tryd.func154, Tryd.ntmps154
  go_wp2
  exact bodyPost_ret (v := .agg #[.int .u8 6, .int .i8 (-3), .int .u8 12, .int .u8 0]) (by simp [results, Tryd.results154, go_sem]) rfl ⟨rfl, (by repeat (first | with_reducible exact Below.refl _ _ | with_reducible exact x | with_reducible refine Below.alloc ?_ (by first | omega | (simp; omega) | (simp; done)) _ | with_reducible refine Below.setCell ?_ (by first | omega | (simp; omega) | (simp; done)) _ | with_reducible refine Below.drew ?_ | with_reducible refine below_drewN ?_ _))⟩
set_option maxRecDepth 100000 in
set_option maxHeartbeats 400000 in
theorem calc_202 (w : World) : Calls Tryd.prog 154 #[.int .u8 202] w fun e w' => e = .returned (specV 202) ∧ Below w.heap.size w w' := by
  go_enter Tryd.func154, Tryd.ntmps154
  go_wp2
  exact bodyPost_ret (v := .agg #[.int .u8 5, .int .i8 (0), .int .u8 6, .int .u8 0]) (by simp [results, Tryd.results154, go_sem]) rfl ⟨rfl, (by repeat (first | with_reducible exact Below.refl _ _ | with_reducible exact x | with_reducible refine Below.alloc ?_ (by first | omega | (simp; omega) | (simp; done)) _ | with_reducible refine Below.setCell ?_ (by first | omega | (simp; omega) | (simp; done)) _ | with_reducible refine Below.drew ?_ | with_reducible refine below_drewN ?_ _))⟩
set_option maxRecDepth 100000 in
set_option maxHeartbeats 400000 in
theorem calc_203 (w : World) : Calls Tryd.prog 154 #[.int .u8 203] w fun e w' => e = .returned (specV 203) ∧ Below w.heap.size w w' := by
  go_enter Tryd.func154, Tryd.ntmps154
  go_wp2
  exact bodyPost_ret (v := .agg #[.int .u8 9, .int .i8 (0), .int .u8 5, .int .u8 0]) (by simp [results, Tryd.results154, go_sem]) rfl ⟨rfl, (by repeat (first | with_reducible exact Below.refl _ _ | with_reducible exact x | with_reducible refine Below.alloc ?_ (by first | omega | (simp; omega) | (simp; done)) _ | with_reducible refine Below.setCell ?_ (by first | omega | (simp; omega) | (simp; done)) _ | with_reducible refine Below.drew ?_ | with_reducible refine below_drewN ?_ _))⟩
set_option maxRecDepth 100000 in
set_option maxHeartbeats 400000 in
theorem calc_204 (w : World) : Calls Tryd.prog 154 #[.int .u8 204] w fun e w' => e = .returned (specV 204) ∧ Below w.heap.size w w' := by
  go_enter Tryd.func154, Tryd.ntmps154
  go_wp2
  exact bodyPost_ret (v := .agg #[.int .u8 2, .int .i8 (0), .int .u8 9, .int .u8 0]) (by simp [results, Tryd.results154, go_sem]) rfl ⟨rfl, (by repeat (first | with_reducible exact Below.refl _ _ | with_reducible exact x | with_reducible refine Below.alloc ?_ (by first | omega | (simp; omega) | (simp; done)) _ | with_reducible refine Below.setCell ?_ (by first | omega | (simp; omega) | (simp; done)) _ | with_reducible refine Below.drew ?_ | with_reducible refine below_drewN ?_ _))⟩
set_option maxRecDepth 100000 in
set_option maxHeartbeats 400000 in
theorem calc_205 (w : World) : Calls Tryd.prog 154 #[.int .u8 205] w fun e w' => e = .returned (specV 205) ∧ Below w.heap.size w w' := by
  go_enter Tryd.func154, Tryd.ntmps154
  go_wp2
  exact bodyPost_ret (v := .agg #[.int .u8 3, .int .i8 (0), .int .u8 9, .int .u8 0]) (by simp [results, Tryd.results154, go_sem]) rfl ⟨rfl, (by repeat (first | with_reducible exact Below.refl _ _ | with_reducible exact x | with_reducible refine Below.alloc ?_ (by first | omega | (simp; omega) | (simp; done)) _ | with_reducible refine Below.setCell ?_ (by first | omega | (simp; omega) | (simp; done)) _ | with_reducible refine Below.drew ?_ | with_reducible refine below_drewN ?_ _))⟩
set_option maxRecDepth 100000 in
set_option maxHeartbeats 400000 in
theorem calc_206 (w : World) : Calls Tryd.prog 154 #[.int .u8 206] w fun e w' => e = .returned (specV 206) ∧ Below w.heap.size w w' := by
  go_enter Tryd.func154, Tryd.ntmps154
  go_wp2
  exact bodyPost_ret (v := .agg #[.int .u8 5, .int .i8 (0), .int .u8 9, .int .u8 0]) (by simp [results, Tryd.results154, go_sem]) rfl ⟨rfl, (by repeat (first | with_reducible exact Below.refl _ _ | with_reducible exact x | with_reducible refine Below.alloc ?_ (by first | omega | (simp; omega) | (simp; done)) _ | with_reducible refine Below.setCell ?_ (by first | omega | (simp; omega) | (simp; done)) _ | with_reducible refine Below.drew ?_ | with_reducible refine below_drewN ?_ _))⟩
set_option maxRecDepth 100000 in
set_option maxHeartbeats 400000 in
theorem calc_207 (w : World) : Calls Tryd.prog 154 #[.int .u8 207] w fun e w' => e = .returned (specV 207) ∧ Below w.heap.size w w' := by
  go_enter Tryd.func154, Tryd.ntmps154
  go_wp2
  exact bodyPost_ret (v := .agg #[.int .u8 9, .int .i8 (0), .int .u8 9, .int .u8 0]) (by simp [results, Tryd.results154, go_sem]) rfl ⟨rfl, (by repeat (first | with_reducible exact Below.refl _ _ | with_reducible exact x | with_reducible refine Below.alloc ?_ (by first | omega | (simp; omega) | (simp; done)) _ | with_reducible refine Below.setCell ?_ (by first | omega | (simp; omega) | (simp; done)) _ | with_reducible refine Below.drew ?_ | with_reducible refine below_drewN ?_ _))⟩
set_option maxRecDepth 100000 in
set_option maxHeartbeats 400000 in
theorem calc_208 (w : World) : Calls Tryd.prog 154 #[.int .u8 208] w fun e w' => e = .returned (specV 208) ∧ Below w.heap.size w w' := by
  go_enter Tryd.func154, Tryd.ntmps154
  go_wp2
  exact bodyPost_ret (v := .agg #[.int .u8 2, .int .i8 (0), .int .u8 8, .int .u8 0]) (by simp [results, Tryd.results154, go_sem]) rfl ⟨rfl, (by repeat (first | with_reducible exact Below.refl _ _ | with_reducible exact x | with_reducible refine Below.alloc ?_ (by first | omega | (simp; omega) | (simp; done)) _ | with_reducible refine Below.setCell ?_ (by first | omega | (simp; omega) | (simp; done)) _ | with_reducible refine Below.drew ?_ | with_reducible refine below_drewN ?_ _))⟩
set_option maxRecDepth 100000 in
set_option maxHeartbeats 400000 in
theorem calc_209 (w : World) : Calls Tryd.prog 154 #[.int .u8 209] w fun e w' => e = .returned (specV 209) ∧ Below w.heap.size w w' := by
  go_enter Tryd.func154, Tryd.ntmps154
  go_wp2
  exact bodyPost_ret (v := .agg #[.int .u8 3, .int .i8 (0), .int .u8 8, .int .u8 0]) (by simp [results, Tryd.results154, go_sem]) rfl ⟨rfl, (by repeat (first | with_reducible exact Below.refl _ _ | with_reducible exact x | with_reducible refine Below.alloc ?_ (by first | omega | (simp; omega) | (simp; done)) _ | with_reducible refine Below.setCell ?_ (by first | omega | (simp; omega) | (simp; done)) _ | with_reducible refine Below.drew ?_ | with_reducible refine below_drewN ?_ _))⟩
set_option maxRecDepth 100000 in
set_option maxHeartbeats 400000 in
theorem calc_210 (w : World) : Calls Tryd.prog 154 #[.int .u8 210] w fun e w' => e = .returned (specV 210) ∧ Below w.heap.size w w' := by
  go_enter Tryd.func154, Tryd.ntmps154
  go_wp2
  exact bodyPost_ret (v := .agg #[.int .u8 5, .int .i8 (0), .int .u8 8, .int .u8 0]) (by simp [results, Tryd.results154, go_sem]) rfl ⟨rfl, (by repeat (first | with_reducible exact Below.refl _ _ | with_reducible exact x | with_reducible refine Below.alloc ?_ (by first | omega | (simp; omega) | (simp; done)) _ | with_reducible refine Below.setCell ?_ (by first | omega | (simp; omega) | (simp; done)) _ | with_reducible refine Below.drew ?_ | with_reducible refine below_drewN ?_ _))⟩
set_option maxRecDepth 100000 in
set_option maxHeartbeats 400000 in
theorem calc_211 (w : World) : Calls Tryd.prog 154 #[.int .u8 211] w fun e w' => e = .returned (specV 211) ∧ Below w.heap.size w w' := by
  go_enter Tryd.func154, Tryd.ntmps154
  go_wp2
  exact bodyPost_ret (v := .agg #[.int .u8 9, .int .i8 (0), .int .u8 8, .int .u8 0]) (by simp [results, Tryd.results154, go_sem]) rfl ⟨rfl, (by repeat (first | with_reducible exact Below.refl _ _ | with_reducible exact x | with_reducible refine Below.alloc ?_ (by first | omega | (simp; omega) | (simp; done)) _ | with_reducible refine Below.setCell ?_ (by first | omega | (simp; omega) | (simp; done)) _ | with_reducible refine Below.drew ?_ | with_reducible refine below_drewN ?_ _))⟩
set_option maxRecDepth 100000 in
set_option maxHeartbeats 400000 in
theorem calc_212 (w : World) : Calls Tryd.prog 154 #[.int .u8 212] w fun e w' => e = .returned (specV 212) ∧ Below w.heap.size w w' := by
  go_enter Tryd.func154, Tryd.ntmps154
  go_wp2
  exact bodyPost_ret (v := .agg #[.int .u8 3, .int .i8 (0), .int .u8 12, .int .u8 0]) (by simp [results, Tryd.results154, go_sem]) rfl ⟨rfl, (by repeat (first | with_reducible exact Below.refl _ _ | with_reducible exact x | with_reducible refine Below.alloc ?_ (by first | omega | (simp; omega) | (simp; done)) _ | with_reducible refine Below.setCell ?_ (by first | omega | (simp; omega) | (simp; done)) _ | with_reducible refine Below.drew ?_ | with_reducible refine below_drewN ?_ _))⟩
set_option maxRecDepth 100000 in
set_option maxHeartbeats 400000 in
theorem calc_213 (w : World) : Calls Tryd.prog 154 #[.int .u8 213] w fun e w' => e = .returned (specV 213) ∧ Below w.heap.size w w' := by
  go_enter Tryd.func154, Tryd.ntmps154
  go_wp2
  exact bodyPost_ret (v := .agg #[.int .u8 4, .int .i8 (0), .int .u8 12, .int .u8 0]) (by simp [results, Tryd.results154, go_sem]) rfl ⟨rfl, (by repeat (first | with_reducible exact Below.refl _ _ | with_reducible exact x | with_reducible refine Below.alloc ?_ (by first | omega | (simp; omega) | (simp; done)) _ | with_reducible refine Below.setCell ?_ (by first | omega | (simp; omega) | (simp; done)) _ | with_reducible refine Below.drew ?_ | with_reducible refine below_drewN ?_ _))⟩
set_option maxRecDepth 100000 in
set_option maxHeartbeats 400000 in
theorem calc_214 (w : World) : Calls Tryd.prog 154 #[.int .u8 214] w fun e w' => e = .returned (specV 214) ∧ Below w.heap.size w w' := by
  go_enter Tryd.func154, Tryd.ntmps154
  go_wp2
  exact bodyPost_ret (v := .agg #[.int .u8 6, .int .i8 (0), .int .u8 12, .int .u8 0]) (by simp [results, Tryd.results154, go_sem]) rfl ⟨rfl, (by repeat (first | with_reducible exact Below.refl _ _ | with_reducible exact x | with_reducible refine Below.alloc ?_ (by first | omega | (simp; omega) | (simp; done)) _ | with_reducible refine Below.setCell ?_ (by first | omega | (simp; omega) | (simp; done)) _ | with_reducible refine Below.drew ?_ | with_reducible refine below_drewN ?_ _))⟩
set_option maxRecDepth 100000 in
set_option maxHeartbeats 400000 in
theorem calc_215 (w : World) : Calls Tryd.prog 154 #[.int .u8 215] w fun e w' => e = .returned (specV 215) ∧ Below w.heap.size w w' := by
  go_enter Tryd.func154, Tryd.ntmps154
  go_wp2
  exact bodyPost_ret (v := .agg #[.int .u8 10, .int .i8 (0), .int .u8 12, .int .u8 0]) (by simp [results, Tryd.results154, go_sem]) rfl ⟨rfl, (by repeat (first | with_reducible exact Below.refl _ _ | with_reducible exact x | with_reducible refine Below.alloc ?_ (by first | omega | (simp; omega) | (simp; done)) _ | with_reducible refine Below.setCell ?_ (by first | omega | (simp; omega) | (simp; done)) _ | with_reducible refine Below.drew ?_ | with_reducible refine below_drewN ?_ _))⟩
set_option maxRecDepth 100000 in
set_option maxHeartbeats 400000 in
theorem calc_216 (w : World) : Calls Tryd.prog 154 #[.int .u8 216] w fun e w' => e = .returned (specV 216) ∧ Below w.heap.size w w' := by
  go_enter Tryd.func154, Tryd.ntmps154
  go_wp2
  exact bodyPost_ret (v := .agg #[.int .u8 18, .int .i8 (0), .int .u8 12, .int .u8 0]) (by simp [results, Tryd.results154, go_sem]) rfl ⟨rfl, (by repeat (first | with_reducible exact Below.refl _ _ | with_reducible exact x | with_reducible refine Below.alloc ?_ (by first | omega | (simp; omega) | (simp; done)) _ | with_reducible refine Below.setCell ?_ (by first | omega | (simp; omega) | (simp; done)) _ | with_reducible refine Below.drew ?_ | with_reducible refine below_drewN ?_ _))⟩
set_option maxRecDepth 100000 in
set_option maxHeartbeats 400000 in
theorem calc_217 (w : World) : Calls Tryd.prog 154 #[.int .u8 217] w fun e w' => e = .returned (specV 217) ∧ Below w.heap.size w w' := by
  go_enter Tryd.func154, Tryd.ntmps154
  go_wp2
  exact bodyPost_ret (v := .agg #[.int .u8 2, .int .i8 (-1), .int .u8 1, .int .u8 0]) (by simp [results, Tryd.results154, go_sem]) rfl ⟨rfl, (by repeat (first | with_reducible exact Below.refl _ _ | with_reducible exact x | with_reducible refine Below.alloc ?_ (by first | omega | (simp; omega) | (simp; done)) _ | with_reducible refine Below.setCell ?_ (by first | omega | (simp; omega) | (simp; done)) _ | with_reducible refine Below.drew ?_ | with_reducible refine below_drewN ?_ _))⟩
set_option maxRecDepth 100000 in
set_option maxHeartbeats 400000 in
theorem calc_218 (w : World) : Calls Tryd.prog 154 #[.int .u8 218] w fun e w' => e = .returned (specV 218) ∧ Below w.heap.size w w' := by
  go_enter Tryd.func154, Tryd.ntmps154
  go_wp2
  exact bodyPost_ret (v := .agg #[.int .u8 3, .int .i8 (-2), .int .u8 1, .int .u8 0]) (by simp [results, Tryd.results154, go_sem]) rfl ⟨rfl, (by repeat (first | with_reducible exact Below.refl _ _ | with_reducible exact x | with_reducible refine Below.alloc ?_ (by first | omega | (simp; omega) | (simp; done)) _ | with_reducible refine Below.setCell ?_ (by first | omega | (simp; omega) | (simp; done)) _ | with_reducible refine Below.drew ?_ | with_reducible refine below_drewN ?_ _))⟩
set_option maxRecDepth 100000 in
set_option maxHeartbeats 400000 in
theorem calc_219 (w : World) : Calls Tryd.prog 154 #[.int .u8 219] w fun e w' => e = .returned (specV 219) ∧ Below w.heap.size w w' := by
  go_enter Tryd.func154, Tryd.ntmps154
  go_wp2
  exact bodyPost_ret (v := .agg #[.int .u8 5, .int .i8 (-3), .int .u8 1, .int .u8 0]) (by simp [results, Tryd.results154, go_sem]) rfl ⟨rfl, (by repeat (first | with_reducible exact Below.refl _ _ | with_reducible exact x | with_reducible refine Below.alloc ?_ (by first | omega | (simp; omega) | (simp; done)) _ | with_reducible refine Below.setCell ?_ (by first | omega | (simp; omega) | (simp; done)) _ | with_reducible refine Below.drew ?_ | with_reducible refine below_drewN ?_ _))⟩
set_option maxRecDepth 100000 in
set_option maxHeartbeats 400000 in
theorem calc_220 (w : World) : Calls Tryd.prog 154 #[.int .u8 220] w fun e w' => e = .returned (specV 220) ∧ Below w.heap.size w w' := by
  go_enter Tryd.func154, Tryd.ntmps154
  go_wp2
  exact bodyPost_ret (v := .agg #[.int .u8 3, .int .i8 (-6), .int .u8 4, .int .u8 0]) (by simp [results, Tryd.results154, go_sem]) rfl ⟨rfl, (by repeat (first | with_reducible exact Below.refl _ _ | with_reducible exact x | with_reducible refine Below.alloc ?_ (by first | omega | (simp; omega) | (simp; done)) _ | with_reducible refine Below.setCell ?_ (by first | omega | (simp; omega) | (simp; done)) _ | with_reducible refine Below.drew ?_ | with_reducible refine below_drewN ?_ _))⟩
set_option maxRecDepth 100000 in
set_option maxHeartbeats 400000 in
theorem calc_221 (w : World) : Calls Tryd.prog 154 #[.int .u8 221] w fun e w' => e = .returned (specV 221) ∧ Below w.heap.size w w' := by
  go_enter Tryd.func154, Tryd.ntmps154
  go_wp2
  exact bodyPost_ret (v := .agg #[.int .u8 5, .int .i8 (-7), .int .u8 4, .int .u8 0]) (by simp [results, Tryd.results154, go_sem]) rfl ⟨rfl, (by repeat (first | with_reducible exact Below.refl _ _ | with_reducible exact x | with_reducible refine Below.alloc ?_ (by first | omega | (simp; omega) | (simp; done)) _ | with_reducible refine Below.setCell ?_ (by first | omega | (simp; omega) | (simp; done)) _ | with_reducible refine Below.drew ?_ | with_reducible refine below_drewN ?_ _))⟩
set_option maxRecDepth 100000 in
set_option maxHeartbeats 400000 in
theorem calc_222 (w : World) : Calls Tryd.prog 154 #[.int .u8 222] w fun e w' => e = .returned (specV 222) ∧ Below w.heap.size w w' := by
  go_enter Tryd.func154, Tryd.ntmps154
  go_wp2
  exact bodyPost_ret (v := .agg #[.int .u8 3, .int .i8 (-4), .int .u8 3, .int .u8 0]) (by simp [results, Tryd.results154, go_sem]) rfl ⟨rfl, (by repeat (first | with_reducible exact Below.refl _ _ | with_reducible exact x | with_reducible refine Below.alloc ?_ (by first | omega | (simp; omega) | (simp; done)) _ | with_reducible refine Below.setCell ?_ (by first | omega | (simp; omega) | (simp; done)) _ | with_reducible refine Below.drew ?_ | with_reducible refine below_drewN ?_ _))⟩
set_option maxRecDepth 100000 in
set_option maxHeartbeats 400000 in
theorem calc_223 (w : World) : Calls Tryd.prog 154 #[.int .u8 223] w fun e w' => e = .returned (specV 223) ∧ Below w.heap.size w w' := by
  go_enter Tryd.func154, Tryd.ntmps154
  go_wp2
  exact bodyPost_ret (v := .agg #[.int .u8 5, .int .i8 (-5), .int .u8 3, .int .u8 0]) (by simp [results, Tryd.results154, go_sem]) rfl ⟨rfl, (by repeat (first | with_reducible exact Below.refl _ _ | with_reducible exact x | with_reducible refine Below.alloc ?_ (by first | omega | (simp; omega) | (simp; done)) _ | with_reducible refine Below.setCell ?_ (by first | omega | (simp; omega) | (simp; done)) _ | with_reducible refine Below.drew ?_ | with_reducible refine below_drewN ?_ _))⟩
theorem bspec_lo (b : Nat) (h : b < 128) : specV b = .agg #[.int .u8 1, .int .i8 0, .int .u8 8, .int .u8 0] := by
  simp [bspec, h]
theorem bspec_map (b : Nat) (h : 128 ≤ b) (h' : b < 144) : specV b = .agg #[.int .u8 1, .int .i8 (2 * ((b : Int) % 16)), .int .u8 3, .int .u8 0] := by
  have : ¬ b < 128 := by omega
  simp [bspec, h', this]
theorem bspec_arr (b : Nat) (h : 144 ≤ b) (h' : b < 160) : specV b = .agg #[.int .u8 1, .int .i8 ((b : Int) % 16), .int .u8 4, .int .u8 0] := by
  have h1 : ¬ b < 128 := by omega
  have h2 : ¬ b < 144 := by omega
  simp [bspec, h', h1, h2]
theorem bspec_str (b : Nat) (h : 160 ≤ b) (h' : b < 192) : specV b = .agg #[.int .u8 (1 + (b : Int) % 32), .int .i8 0, .int .u8 1, .int .u8 0] := by
  have h1 : ¬ b < 128 := by omega
  have h2 : ¬ b < 144 := by omega
  have h3 : ¬ b < 160 := by omega
  simp [bspec, h', h1, h2, h3]
theorem bspec_hi (b : Nat) (h : 224 ≤ b) : specV b = .agg #[.int .u8 1, .int .i8 0, .int .u8 8, .int .u8 0] := by
  have h1 : ¬ b < 128 := by omega
  have h2 : ¬ b < 144 := by omega
  have h3 : ¬ b < 160 := by omega
  have h4 : ¬ b < 192 := by omega
  simp [bspec, h, h1, h2, h3, h4]
set_option maxRecDepth 100000 in
set_option maxHeartbeats 1600000 in
theorem calc_lo (b : Nat) (hb : b < 256) (hc : b < 128) (w : World) : Calls Tryd.prog 154 #[.int .u8 b] w fun e w' => e = .returned (specV b) ∧ Below w.heap.size w w' := by
  have n192 : ((b : Int) == 192) = false := by simp; omega
  have n194 : ((b : Int) == 194) = false := by simp; omega
  have n195 : ((b : Int) == 195) = false := by simp; omega
  have n196 : ((b : Int) == 196) = false := by simp; omega
  have n197 : ((b : Int) == 197) = false := by simp; omega
  have n198 : ((b : Int) == 198) = false := by simp; omega
  have n199 : ((b : Int) == 199) = false := by simp; omega
  have n200 : ((b : Int) == 200) = false := by simp; omega
  have n201 : ((b : Int) == 201) = false := by simp; omega
  have n202 : ((b : Int) == 202) = false := by simp; omega
  have n203 : ((b : Int) == 203) = false := by simp; omega
  have n204 : ((b : Int) == 204) = false := by simp; omega
  have n205 : ((b : Int) == 205) = false := by simp; omega
  have n206 : ((b : Int) == 206) = false := by simp; omega
  have n207 : ((b : Int) == 207) = false := by simp; omega
  have n208 : ((b : Int) == 208) = false := by simp; omega
  have n209 : ((b : Int) == 209) = false := by simp; omega
  have n210 : ((b : Int) == 210) = false := by simp; omega
  have n211 : ((b : Int) == 211) = false := by simp; omega
  have n212 : ((b : Int) == 212) = false := by simp; omega
  have n213 : ((b : Int) == 213) = false := by simp; omega
  have n214 : ((b : Int) == 214) = false := by simp; omega
  have n215 : ((b : Int) == 215) = false := by simp; omega
  have n216 : ((b : Int) == 216) = false := by simp; omega
  have n217 : ((b : Int) == 217) = false := by simp; omega
  have n218 : ((b : Int) == 218) = false := by simp; omega
  have n219 : ((b : Int) == 219) = false := by simp; omega
  have n220 : ((b : Int) == 220) = false := by simp; omega
  have n221 : ((b : Int) == 221) = false := by simp; omega
  have n222 : ((b : Int) == 222) = false := by simp; omega
  have n223 : ((b : Int) == 223) = false := by simp; omega
  have hs := hide (bspec_lo b hc)
  rw [unhide hs]
  clear hs
  go_enter Tryd.func154, Tryd.ntmps154
  go_wp2
  exact bodyPost_ret (v := .agg #[.int .u8 1, .int .i8 0, .int .u8 8, .int .u8 0]) (by simp [results, Tryd.results154, go_sem]) rfl ⟨rfl, (by repeat (first | with_reducible exact Below.refl _ _ | with_reducible exact x | with_reducible refine Below.alloc ?_ (by first | omega | (simp; omega) | (simp; done)) _ | with_reducible refine Below.setCell ?_ (by first | omega | (simp; omega) | (simp; done)) _ | with_reducible refine Below.drew ?_ | with_reducible refine below_drewN ?_ _))⟩
set_option maxRecDepth 100000 in
set_option maxHeartbeats 1600000 in
theorem calc_str (b : Nat) (hb : b < 256) (hc : 160 ≤ b) (hd : b < 192) (w : World) : Calls Tryd.prog 154 #[.int .u8 b] w fun e w' => e = .returned (specV b) ∧ Below w.heap.size w w' := by
  have n192 : ((b : Int) == 192) = false := by simp; omega
  have n194 : ((b : Int) == 194) = false := by simp; omega
  have n195 : ((b : Int) == 195) = false := by simp; omega
  have n196 : ((b : Int) == 196) = false := by simp; omega
  have n197 : ((b : Int) == 197) = false := by simp; omega
  have n198 : ((b : Int) == 198) = false := by simp; omega
  have n199 : ((b : Int) == 199) = false := by simp; omega
  have n200 : ((b : Int) == 200) = false := by simp; omega
  have n201 : ((b : Int) == 201) = false := by simp; omega
  have n202 : ((b : Int) == 202) = false := by simp; omega
  have n203 : ((b : Int) == 203) = false := by simp; omega
  have n204 : ((b : Int) == 204) = false := by simp; omega
  have n205 : ((b : Int) == 205) = false := by simp; omega
  have n206 : ((b : Int) == 206) = false := by simp; omega
  have n207 : ((b : Int) == 207) = false := by simp; omega
  have n208 : ((b : Int) == 208) = false := by simp; omega
  have n209 : ((b : Int) == 209) = false := by simp; omega
  have n210 : ((b : Int) == 210) = false := by simp; omega
  have n211 : ((b : Int) == 211) = false := by simp; omega
  have n212 : ((b : Int) == 212) = false := by simp; omega
  have n213 : ((b : Int) == 213) = false := by simp; omega
  have n214 : ((b : Int) == 214) = false := by simp; omega
  have n215 : ((b : Int) == 215) = false := by simp; omega
  have n216 : ((b : Int) == 216) = false := by simp; omega
  have n217 : ((b : Int) == 217) = false := by simp; omega
  have n218 : ((b : Int) == 218) = false := by simp; omega
  have n219 : ((b : Int) == 219) = false := by simp; omega
  have n220 : ((b : Int) == 220) = false := by simp; omega
  have n221 : ((b : Int) == 221) = false := by simp; omega
  have n222 : ((b : Int) == 222) = false := by simp; omega
  have n223 : ((b : Int) == 223) = false := by simp; omega
  have hs := hide (bspec_str b hc hd)
  rw [unhide hs]
  clear hs
  go_enter Tryd.func154, Tryd.ntmps154
  go_wp2_with (go_at_call 168; refine (rfixstr_any b hb _).mono ?_; rintro e w1 ⟨rfl, rfl⟩)
  exact bodyPost_ret (v := .agg #[.int .u8 (1 + (b : Int) % 32), .int .i8 0, .int .u8 1, .int .u8 0]) (by simp [results, Tryd.results154, go_sem]) rfl ⟨rfl, (by repeat (first | with_reducible exact Below.refl _ _ | with_reducible exact x | with_reducible refine Below.alloc ?_ (by first | omega | (simp; omega) | (simp; done)) _ | with_reducible refine Below.setCell ?_ (by first | omega | (simp; omega) | (simp; done)) _ | with_reducible refine Below.drew ?_ | with_reducible refine below_drewN ?_ _))⟩
set_option maxRecDepth 100000 in
set_option maxHeartbeats 1600000 in
theorem calc_map (b : Nat) (hb : b < 256) (hc : 128 ≤ b) (hd : b < 144) (w : World) : Calls Tryd.prog 154 #[.int .u8 b] w fun e w' => e = .returned (specV b) ∧ Below w.heap.size w w' := by
  have n192 : ((b : Int) == 192) = false := by simp; omega
  have n194 : ((b : Int) == 194) = false := by simp; omega
  have n195 : ((b : Int) == 195) = false := by simp; omega
  have n196 : ((b : Int) == 196) = false := by simp; omega
  have n197 : ((b : Int) == 197) = false := by simp; omega
  have n198 : ((b : Int) == 198) = false := by simp; omega
  have n199 : ((b : Int) == 199) = false := by simp; omega
  have n200 : ((b : Int) == 200) = false := by simp; omega
  have n201 : ((b : Int) == 201) = false := by simp; omega
  have n202 : ((b : Int) == 202) = false := by simp; omega
  have n203 : ((b : Int) == 203) = false := by simp; omega
  have n204 : ((b : Int) == 204) = false := by simp; omega
  have n205 : ((b : Int) == 205) = false := by simp; omega
  have n206 : ((b : Int) == 206) = false := by simp; omega
  have n207 : ((b : Int) == 207) = false := by simp; omega
  have n208 : ((b : Int) == 208) = false := by simp; omega
  have n209 : ((b : Int) == 209) = false := by simp; omega
  have n210 : ((b : Int) == 210) = false := by simp; omega
  have n211 : ((b : Int) == 211) = false := by simp; omega
  have n212 : ((b : Int) == 212) = false := by simp; omega
  have n213 : ((b : Int) == 213) = false := by simp; omega
  have n214 : ((b : Int) == 214) = false := by simp; omega
  have n215 : ((b : Int) == 215) = false := by simp; omega
  have n216 : ((b : Int) == 216) = false := by simp; omega
  have n217 : ((b : Int) == 217) = false := by simp; omega
  have n218 : ((b : Int) == 218) = false := by simp; omega
  have n219 : ((b : Int) == 219) = false := by simp; omega
  have n220 : ((b : Int) == 220) = false := by simp; omega
  have n221 : ((b : Int) == 221) = false := by simp; omega
  have n222 : ((b : Int) == 222) = false := by simp; omega
  have n223 : ((b : Int) == 223) = false := by simp; omega
  have hs := hide (bspec_map b hc hd)
  rw [unhide hs]
  clear hs
  go_enter Tryd.func154, Tryd.ntmps154
  go_wp2_with (go_at_call 169; refine (rfixmap_any b hb _).mono ?_; rintro e w1 ⟨rfl, rfl⟩)
  exact bodyPost_ret (v := .agg #[.int .u8 1, .int .i8 (2 * ((b : Int) % 16)), .int .u8 3, .int .u8 0]) (by simp [results, Tryd.results154, go_sem]) rfl ⟨rfl, (by repeat (first | with_reducible exact Below.refl _ _ | with_reducible exact x | with_reducible refine Below.alloc ?_ (by first | omega | (simp; omega) | (simp; done)) _ | with_reducible refine Below.setCell ?_ (by first | omega | (simp; omega) | (simp; done)) _ | with_reducible refine Below.drew ?_ | with_reducible refine below_drewN ?_ _))⟩
set_option maxRecDepth 100000 in
set_option maxHeartbeats 1600000 in
theorem calc_arr (b : Nat) (hb : b < 256) (hc : 144 ≤ b) (hd : b < 160) (w : World) : Calls Tryd.prog 154 #[.int .u8 b] w fun e w' => e = .returned (specV b) ∧ Below w.heap.size w w' := by
  have n192 : ((b : Int) == 192) = false := by simp; omega
  have n194 : ((b : Int) == 194) = false := by simp; omega
  have n195 : ((b : Int) == 195) = false := by simp; omega
  have n196 : ((b : Int) == 196) = false := by simp; omega
  have n197 : ((b : Int) == 197) = false := by simp; omega
  have n198 : ((b : Int) == 198) = false := by simp; omega
  have n199 : ((b : Int) == 199) = false := by simp; omega
  have n200 : ((b : Int) == 200) = false := by simp; omega
  have n201 : ((b : Int) == 201) = false := by simp; omega
  have n202 : ((b : Int) == 202) = false := by simp; omega
  have n203 : ((b : Int) == 203) = false := by simp; omega
  have n204 : ((b : Int) == 204) = false := by simp; omega
  have n205 : ((b : Int) == 205) = false := by simp; omega
  have n206 : ((b : Int) == 206) = false := by simp; omega
  have n207 : ((b : Int) == 207) = false := by simp; omega
  have n208 : ((b : Int) == 208) = false := by simp; omega
  have n209 : ((b : Int) == 209) = false := by simp; omega
  have n210 : ((b : Int) == 210) = false := by simp; omega
  have n211 : ((b : Int) == 211) = false := by simp; omega
  have n212 : ((b : Int) == 212) = false := by simp; omega
  have n213 : ((b : Int) == 213) = false := by simp; omega
  have n214 : ((b : Int) == 214) = false := by simp; omega
  have n215 : ((b : Int) == 215) = false := by simp; omega
  have n216 : ((b : Int) == 216) = false := by simp; omega
  have n217 : ((b : Int) == 217) = false := by simp; omega
  have n218 : ((b : Int) == 218) = false := by simp; omega
  have n219 : ((b : Int) == 219) = false := by simp; omega
  have n220 : ((b : Int) == 220) = false := by simp; omega
  have n221 : ((b : Int) == 221) = false := by simp; omega
  have n222 : ((b : Int) == 222) = false := by simp; omega
  have n223 : ((b : Int) == 223) = false := by simp; omega
  have hs := hide (bspec_arr b hc hd)
  rw [unhide hs]
  clear hs
  go_enter Tryd.func154, Tryd.ntmps154
  go_wp2_with (go_at_call 61; refine (rfixarray_any b hb _).mono ?_; rintro e w1 ⟨rfl, rfl⟩)
  exact bodyPost_ret (v := .agg #[.int .u8 1, .int .i8 ((b : Int) % 16), .int .u8 4, .int .u8 0]) (by simp [results, Tryd.results154, go_sem]) rfl ⟨rfl, (by repeat (first | with_reducible exact Below.refl _ _ | with_reducible exact x | with_reducible refine Below.alloc ?_ (by first | omega | (simp; omega) | (simp; done)) _ | with_reducible refine Below.setCell ?_ (by first | omega | (simp; omega) | (simp; done)) _ | with_reducible refine Below.drew ?_ | with_reducible refine below_drewN ?_ _))⟩
set_option maxRecDepth 100000 in
set_option maxHeartbeats 1600000 in
theorem calc_hi (b : Nat) (hb : b < 256) (hc : 224 ≤ b) (w : World) : Calls Tryd.prog 154 #[.int .u8 b] w fun e w' => e = .returned (specV b) ∧ Below w.heap.size w w' := by
  have n192 : ((b : Int) == 192) = false := by simp; omega
  have n194 : ((b : Int) == 194) = false := by simp; omega
  have n195 : ((b : Int) == 195) = false := by simp; omega
  have n196 : ((b : Int) == 196) = false := by simp; omega
  have n197 : ((b : Int) == 197) = false := by simp; omega
  have n198 : ((b : Int) == 198) = false := by simp; omega
  have n199 : ((b : Int) == 199) = false := by simp; omega
  have n200 : ((b : Int) == 200) = false := by simp; omega
  have n201 : ((b : Int) == 201) = false := by simp; omega
  have n202 : ((b : Int) == 202) = false := by simp; omega
  have n203 : ((b : Int) == 203) = false := by simp; omega
  have n204 : ((b : Int) == 204) = false := by simp; omega
  have n205 : ((b : Int) == 205) = false := by simp; omega
  have n206 : ((b : Int) == 206) = false := by simp; omega
  have n207 : ((b : Int) == 207) = false := by simp; omega
  have n208 : ((b : Int) == 208) = false := by simp; omega
  have n209 : ((b : Int) == 209) = false := by simp; omega
  have n210 : ((b : Int) == 210) = false := by simp; omega
  have n211 : ((b : Int) == 211) = false := by simp; omega
  have n212 : ((b : Int) == 212) = false := by simp; omega
  have n213 : ((b : Int) == 213) = false := by simp; omega
  have n214 : ((b : Int) == 214) = false := by simp; omega
  have n215 : ((b : Int) == 215) = false := by simp; omega
  have n216 : ((b : Int) == 216) = false := by simp; omega
  have n217 : ((b : Int) == 217) = false := by simp; omega
  have n218 : ((b : Int) == 218) = false := by simp; omega
  have n219 : ((b : Int) == 219) = false := by simp; omega
  have n220 : ((b : Int) == 220) = false := by simp; omega
  have n221 : ((b : Int) == 221) = false := by simp; omega
  have n222 : ((b : Int) == 222) = false := by simp; omega
  have n223 : ((b : Int) == 223) = false := by simp; omega
  have hs := hide (bspec_hi b hc)
  rw [unhide hs]
  clear hs
  go_enter Tryd.func154, Tryd.ntmps154
  go_wp2
  exact bodyPost_ret (v := .agg #[.int .u8 1, .int .i8 0, .int .u8 8, .int .u8 0]) (by simp [results, Tryd.results154, go_sem]) rfl ⟨rfl, (by repeat (first | with_reducible exact Below.refl _ _ | with_reducible exact x | with_reducible refine Below.alloc ?_ (by first | omega | (simp; omega) | (simp; done)) _ | with_reducible refine Below.setCell ?_ (by first | omega | (simp; omega) | (simp; done)) _ | with_reducible refine Below.drew ?_ | with_reducible refine below_drewN ?_ _))⟩
set_option maxRecDepth 100000 in
set_option maxHeartbeats 400000 in
theorem calc_193 (w : World) : Calls Tryd.prog 154 #[.int .u8 193] w fun e w' => e = .returned (specV 193) ∧ Below w.heap.size w w' := by
  go_enter Tryd.func154, Tryd.ntmps154
  go_wp2
  exact bodyPost_ret (v := .agg #[.int .u8 0, .int .i8 0, .int .u8 0, .int .u8 0]) (by simp [results, Tryd.results154, go_sem]) rfl ⟨rfl, (by repeat (first | with_reducible exact Below.refl _ _ | with_reducible exact x | with_reducible refine Below.alloc ?_ (by first | omega | (simp; omega) | (simp; done)) _ | with_reducible refine Below.setCell ?_ (by first | omega | (simp; omega) | (simp; done)) _ | with_reducible refine Below.drew ?_ | with_reducible refine below_drewN ?_ _))⟩
theorem calc_any (b : Nat) (hb : b < 256) (w : World) : Calls Tryd.prog 154 #[.int .u8 b] w fun e w' => e = .returned (specV b) ∧ Below w.heap.size w w' := by
  by_cases h1 : b < 128
  · exact calc_lo b hb h1 w
  by_cases h2 : b < 144
  · exact calc_map b hb (by omega) h2 w
  by_cases h3 : b < 160
  · exact calc_arr b hb (by omega) h3 w
  by_cases h4 : b < 192
  · exact calc_str b hb (by omega) h4 w
  by_cases h5 : 224 ≤ b
  · exact calc_hi b hb h5 w
  by_cases e192 : b = 192
  · subst e192
    exact calc_192 w
  by_cases e193 : b = 193
  · subst e193
    exact calc_193 w
  by_cases e194 : b = 194
  · subst e194
    exact calc_194 w
  by_cases e195 : b = 195
  · subst e195
    exact calc_195 w
  by_cases e196 : b = 196
  · subst e196
    exact calc_196 w
  by_cases e197 : b = 197
  · subst e197
    exact calc_197 w
  by_cases e198 : b = 198
  · subst e198
    exact calc_198 w
  by_cases e199 : b = 199
  · subst e199
    exact calc_199 w
  by_cases e200 : b = 200
  · subst e200
    exact calc_200 w
  by_cases e201 : b = 201
  · subst e201
    exact calc_201 w
  by_cases e202 : b = 202
  · subst e202
    exact calc_202 w
  by_cases e203 : b = 203
  · subst e203
    exact calc_203 w
  by_cases e204 : b = 204
  · subst e204
    exact calc_204 w
  by_cases e205 : b = 205
  · subst e205
    exact calc_205 w
  by_cases e206 : b = 206
  · subst e206
    exact calc_206 w
  by_cases e207 : b = 207
  · subst e207
    exact calc_207 w
  by_cases e208 : b = 208
  · subst e208
    exact calc_208 w
  by_cases e209 : b = 209
  · subst e209
    exact calc_209 w
  by_cases e210 : b = 210
  · subst e210
    exact calc_210 w
  by_cases e211 : b = 211
  · subst e211
    exact calc_211 w
  by_cases e212 : b = 212
  · subst e212
    exact calc_212 w
  by_cases e213 : b = 213
  · subst e213
    exact calc_213 w
  by_cases e214 : b = 214
  · subst e214
    exact calc_214 w
  by_cases e215 : b = 215
  · subst e215
    exact calc_215 w
  by_cases e216 : b = 216
  · subst e216
    exact calc_216 w
  by_cases e217 : b = 217
  · subst e217
    exact calc_217 w
  by_cases e218 : b = 218
  · subst e218
    exact calc_218 w
  by_cases e219 : b = 219
  · subst e219
    exact calc_219 w
  by_cases e220 : b = 220
  · subst e220
    exact calc_220 w
  by_cases e221 : b = 221
  · subst e221
    exact calc_221 w
  by_cases e222 : b = 222
  · subst e222
    exact calc_222 w
  by_cases e223 : b = 223
  · subst e223
    exact calc_223 w
  omega
end Go.Proofs.YtlnpiigdjjadiaaDoor

/-
  msgp's getBytespec, getType; badPrefix is an error. Conditions: bytes.
-/
namespace Go.Proofs.YtlnpiigdjjadiaaDoor
set_option linter.unusedSimpArgs false
set_option linter.unusedVariables false
open Go.RowKit
theorem getBytespec_any (b : Nat) (hb : b < 256) (w : World) : Calls Tryd.prog 116 #[.int .u8 b] w fun e w' => e = .returned (specV b) ∧ Below w.heap.size w w' := by
  have hC := calc_any b hb
  simp only [specV] at hC ⊢
  generalize (bspec b).1 = s at *
  generalize (bspec b).2.1 = x at *
  generalize (bspec b).2.2 = t at *
  replace hC := hide hC
  go_enter Tryd.func116, Tryd.ntmps116
  go_wp2_with fail
  refine (unhide hC _).mono ?_
  rintro e w1 ⟨rfl, hb1⟩
  have hB : Blk w1 w.heap.size 180 #[.int .u8 0, .int .i8 0, .int .u8 0, .int .u8 0] := (Blk.new w _ _).below hb1 (by simp)
  have c0 := hB.cell 0
  have c1 := hB.cell 1
  have c2 := hB.cell 2
  have c3 := hB.cell 3
  have f0 := hB.frozen 0
  have f1 := hB.frozen 1
  have f2 := hB.frozen 2
  have f3 := hB.frozen 3
  have hz := hB.lt
  have hw1 : Below w.heap.size w w1 := ((Below.refl w.heap.size w).alloc (Nat.le_refl _) _).trans (hb1.mono (by simp))
  have HW := hide hw1
  clear hb1 hw1
  go_wp2
  refine bodyPost_ret (v := .agg #[.int .u8 s, .int .i8 x, .int .u8 t, .int .u8 0]) (by simp [results, Tryd.results116, go_sem, c0, c1, c2, c3, hz]) rfl ⟨rfl, ?_⟩
  have hw1 := unhide HW
  exact (by repeat (first | with_reducible exact Below.refl _ _ | with_reducible exact hw1 | with_reducible refine Below.alloc ?_ (by first | omega | (simp; omega) | (simp; done)) _ | with_reducible refine Below.setCell ?_ (by first | omega | (simp; omega) | (simp; done)) _ | with_reducible refine Below.drew ?_ | with_reducible refine below_drewN ?_ _))
theorem field_typ (s x t : Int) (w : World) : (Instr.field 180 (.agg #[.int .u8 s, .int .i8 x, .int .u8 t, .int .u8 0]) 2).run Tryd.prog w = .ok (.int .u8 t) w := by kernel_rfl
set_option maxRecDepth 100000 in
theorem getType_any (b : Nat) (hb : b < 256) (w : World) : Calls Tryd.prog 81 #[.int .u8 b] w fun e w' => e = .returned (.int .u8 (bspec b).2.2) ∧ Below w.heap.size w w' := by
  have hC := getBytespec_any b hb
  simp only [specV] at hC
  generalize (bspec b).1 = s at *
  generalize (bspec b).2.1 = x at *
  generalize (bspec b).2.2 = t at *
  replace hC := hide hC
  have hfd := field_typ s x t
  go_enter Tryd.func81, Tryd.ntmps81
  go_wp2_with (go_at_call 116; refine (unhide hC _).mono ?_; rintro e w1 ⟨rfl, hb1⟩)
  go_ret
  exact ⟨rfl, hb1⟩
/-- An error. -/
def IsErr (w : World) (e : Ending) (w' : World) : Prop := ∃ t v, e = .returned (.iface t v) ∧ Below w.heap.size w w'
set_option maxRecDepth 100000 in
theorem badPrefix_any (k : Int) (b : Nat) (hb : b < 256) (w : World) : Calls Tryd.prog 64 #[.int .u8 k, .int .u8 b] w (IsErr w) := by
  have hC := getType_any b hb
  generalize (bspec b).2.2 = t at *
  replace hC := hide hC
  by_cases h0 : t = 0
  · subst h0
    go_enter Tryd.func64, Tryd.ntmps64
    go_wp2_with (go_at_call 81; refine (unhide hC _).mono ?_; rintro e w1 ⟨rfl, hb1⟩)
    go_ret
    exact ⟨_, _, rfl, hb1⟩
  · have h1 : (t == 0) = false := by simpa using h0
    go_enter Tryd.func64, Tryd.ntmps64
    go_wp2_with (go_at_call 81; refine (unhide hC _).mono ?_; rintro e w1 ⟨rfl, hb1⟩)
    go_ret
    exact ⟨_, _, rfl, hb1⟩
end Go.Proofs.YtlnpiigdjjadiaaDoor

/-
  What spec's writing of heads leans on: spec.big. Conditions: sizes of 1, 2, 4 or 8 bytes.
-/
namespace Go.Proofs.YtlnpiigdjjadiaaDoor
set_option linter.unusedSimpArgs false
set_option linter.unusedVariables false
open Go.RowKit
theorem infoB : (Tryd.prog.info? 5).map (fun i => (i.zero, i.size, i.bytes)) = some (some (.int .u8 0), 1, 1) := by kernel_rfl
/-- A number in so many bytes, the highest first. -/
def beL (u : Nat) : Nat → List UInt8
  | 1 => [UInt8.ofNat u]
  | 2 => [UInt8.ofNat (u / 256), UInt8.ofNat u]
  | 4 => [UInt8.ofNat (u / 16777216), UInt8.ofNat (u / 65536), UInt8.ofNat (u / 256), UInt8.ofNat u]
  | 8 => [UInt8.ofNat (u / 72057594037927936), UInt8.ofNat (u / 281474976710656), UInt8.ofNat (u / 1099511627776), UInt8.ofNat (u / 4294967296), UInt8.ofNat (u / 16777216), UInt8.ofNat (u / 65536), UInt8.ofNat (u / 256), UInt8.ofNat u]
  | _ => []
theorem beL_len (u s : Nat) (h : s = 1 ∨ s = 2 ∨ s = 4 ∨ s = 8) : (beL u s).length = s := by
  rcases h with rfl | rfl | rfl | rfl <;> rfl
theorem own_ge' {w : World} {base n : Nat} {e : TypeId} {size : Nat} {v : Value} {xs : List Value} (h : w.ownsRow base e size v n xs) : ∀ k, v.ownBlock = some k → base ≤ k ∧ k < w.heap.size := by
  intro k hk
  rcases h.2 with ⟨rfl, rfl⟩ | ⟨g, cap, cur, rfl, hb, hg, _⟩
  · simp [Value.ownBlock] at hk
  · simp [Value.ownBlock] at hk
    subst hk
    refine ⟨hb, ?_⟩
    rcases Nat.lt_or_ge g w.heap.size with h | h
    · exact h
    · rw [Array.getElem?_eq_none h] at hg; cases hg
theorem Blk.new2 {w : World} {t : TypeId} {cs : Array Value} {g : Nat} (h : w.heap.size = g) : Blk (w.alloc (.cells cs t)) g t cs := h ▸ Blk.new _ _ _
theorem reads_blk {w : World} {S : Nat → Prop} {g : Nat} {t : TypeId} {cs : Array Value} (h : Blk w g t cs) (hS : S g) (size n : Nat) (hn : cs.size = n * size) : Reads w S size (some ⟨g, 0, none⟩) n cs.toList := by
  refine ⟨by simpa using hn, fun _ => ⟨_, rfl, hS, fun j u hu => ?_⟩⟩
  have := h.cell j
  rw [Array.getElem?_toList] at hu
  rw [hu] at this
  rcases j with _ | j
  · exact this
  · simpa [Addr.add] using this
theorem one_u8 {w : World} {g : Nat} {x : Int} {b : UInt8} (h : Value.int .u8 x = u8 b) (hg : w.heap.size = g) : Reads (w.alloc (.cells #[.int .u8 x] 5)) (fun _ => True) 1 (some ⟨g, 0, none⟩) 1 ([b].map u8) := by
  have := reads_blk (S := fun _ => True) (Blk.new2 (w := w) (t := 5) (cs := #[.int .u8 x]) hg) trivial 1 1 rfl
  rw [← show [Value.int .u8 x] = [b].map u8 from by rw [h]; rfl]
  exact this
theorem cell8 (u p : Nat) : Value.int .u8 ((u : Int) / (p : Int) % 256) = u8 (UInt8.ofNat (u / p)) := by
  simp [u8]
theorem cell8t (u : Nat) (h : u < 18446744073709551616) : Value.int .u8 ((u : Int) / 72057594037927936) = u8 (UInt8.ofNat (u / 72057594037927936)) := by
  simp [u8]
  omega
theorem cell8' (u : Nat) : Value.int .u8 ((u : Int) % 256) = u8 (UInt8.ofNat u) := by
  simp [u8]
set_option maxHeartbeats 1600000 in
theorem big_1 (u : Nat) (hu : u < 18446744073709551616) (w : World) :
    Calls Tryd.prog 44 #[.int .u64 u, .int .i64 1] w fun e w' => ∃ v, e = .returned v ∧ w'.ownsRow w.heap.size 5 1 v 1 ((beL u 1).map u8) ∧ Below w.heap.size w w' := by
  go_enter Tryd.func44, Tryd.ntmps44
  go_wp2
  go_loopw [5, 6] (fun v i wr => ∃ k : Nat, k ≤ 1 ∧ i = .int .i64 (0 - (k : Int)) ∧ wr.ownsRow w.heap.size 5 1 v k (((beL u 1).take k).map u8) ∧ Below w.heap.size w wr) (fun _ i _ => (intOf i + 1).toNat)
  case atStart => exact ⟨0, by omega, rfl, World.ownsRow_nil _ _ _ _, Below.refl _ _⟩
  case round =>
  obtain ⟨k, hk, rfl, hown, hbel⟩ := hrel
  obtain ⟨Av, cv, rfl, hcv1, hcv2, _⟩ := own_slice hown
  have hsz := hbel.size
  have HOWN := hide hown
  have HB := hide hbel
  clear hown hbel
  rcases k with _ | k
  · go_wp2_with (at_builtin; obtain ⟨i0, hi0, hz0, hz1', hz2⟩ := info_parts infoB; go_loud (refine wpList_append_any (S := fun _ => True) _ rfl _ _ _ rfl w.heap.size 5 i0 _ 1 1 Tryd.underlying24 hi0 hz0 hz1' hz2 ?x1 ?x2 (.slice Av 0 cv) 0 (((beL u 1).take 0).map u8) ?x3 ?x8 (some ⟨wr.heap.size, 0, none⟩) 1 1 ([UInt8.ofNat u].map u8) ?x4 ?x5 (u8_one _) ?c3 ?x7 ?c4 ?_; (case x1 => rfl); (case x2 => omega); (case x3 => rfl); (case x4 => rfl); (case x5 => exact one_u8 (cell8' u) rfl); (case x7 => omega); (case x8 => exact own_below (unhide HOWN) (by repeat (first | with_reducible exact Below.refl _ _ | with_reducible exact x | with_reducible refine Below.alloc ?_ (by first | omega | (simp; omega) | (simp; done)) _ | with_reducible refine Below.setCell ?_ (by first | omega | (simp; omega) | (simp; done)) _ | with_reducible refine Below.drew ?_ | with_reducible refine below_drewN ?_ _))); (case c3 => unfold maxLen; omega); (case c4 => simp; omega); clear hi0 hz0 hz1' hz2; intro v1 w1 hown1 hgrow hat; have hB1 : Below w.heap.size w w1 := (((unhide HB).alloc hsz _).grown hgrow (by simp; omega) (fun k hk => (own_ge' (unhide HOWN) _ hk).1)); have HB1 := hide hB1; have HO1 := hide hown1; clear hgrow hown1 hat hB1))
    go_roundw
    case rel => exact ⟨1, by omega, rfl, unhide HO1, unhide HB1⟩
    case measure => simp [intOf]
  obtain rfl : k = 0 := by omega
  go_wp2
  go_ret
  exact ⟨_, rfl, unhide HOWN, unhide HB⟩
set_option maxHeartbeats 1600000 in
theorem big_2 (u : Nat) (hu : u < 18446744073709551616) (w : World) :
    Calls Tryd.prog 44 #[.int .u64 u, .int .i64 2] w fun e w' => ∃ v, e = .returned v ∧ w'.ownsRow w.heap.size 5 1 v 2 ((beL u 2).map u8) ∧ Below w.heap.size w w' := by
  go_enter Tryd.func44, Tryd.ntmps44
  go_wp2
  go_loopw [5, 6] (fun v i wr => ∃ k : Nat, k ≤ 2 ∧ i = .int .i64 (1 - (k : Int)) ∧ wr.ownsRow w.heap.size 5 1 v k (((beL u 2).take k).map u8) ∧ Below w.heap.size w wr) (fun _ i _ => (intOf i + 1).toNat)
  case atStart => exact ⟨0, by omega, rfl, World.ownsRow_nil _ _ _ _, Below.refl _ _⟩
  case round =>
  obtain ⟨k, hk, rfl, hown, hbel⟩ := hrel
  obtain ⟨Av, cv, rfl, hcv1, hcv2, _⟩ := own_slice hown
  have hsz := hbel.size
  have HOWN := hide hown
  have HB := hide hbel
  clear hown hbel
  rcases k with _ | k
  · go_wp2_with (at_builtin; obtain ⟨i0, hi0, hz0, hz1', hz2⟩ := info_parts infoB; go_loud (refine wpList_append_any (S := fun _ => True) _ rfl _ _ _ rfl w.heap.size 5 i0 _ 1 1 Tryd.underlying24 hi0 hz0 hz1' hz2 ?x1 ?x2 (.slice Av 0 cv) 0 (((beL u 2).take 0).map u8) ?x3 ?x8 (some ⟨wr.heap.size, 0, none⟩) 1 1 ([UInt8.ofNat (u / 256)].map u8) ?x4 ?x5 (u8_one _) ?c3 ?x7 ?c4 ?_; (case x1 => rfl); (case x2 => omega); (case x3 => rfl); (case x4 => rfl); (case x5 => exact one_u8 (cell8 u 256) rfl); (case x7 => omega); (case x8 => exact own_below (unhide HOWN) (by repeat (first | with_reducible exact Below.refl _ _ | with_reducible exact x | with_reducible refine Below.alloc ?_ (by first | omega | (simp; omega) | (simp; done)) _ | with_reducible refine Below.setCell ?_ (by first | omega | (simp; omega) | (simp; done)) _ | with_reducible refine Below.drew ?_ | with_reducible refine below_drewN ?_ _))); (case c3 => unfold maxLen; omega); (case c4 => simp; omega); clear hi0 hz0 hz1' hz2; intro v1 w1 hown1 hgrow hat; have hB1 : Below w.heap.size w w1 := (((unhide HB).alloc hsz _).grown hgrow (by simp; omega) (fun k hk => (own_ge' (unhide HOWN) _ hk).1)); have HB1 := hide hB1; have HO1 := hide hown1; clear hgrow hown1 hat hB1))
    go_roundw
    case rel => exact ⟨1, by omega, rfl, unhide HO1, unhide HB1⟩
    case measure => simp [intOf]
  by_cases hk1 : k = 0
  · subst hk1
    go_wp2_with (at_builtin; obtain ⟨i0, hi0, hz0, hz1', hz2⟩ := info_parts infoB; go_loud (refine wpList_append_any (S := fun _ => True) _ rfl _ _ _ rfl w.heap.size 5 i0 _ 1 1 Tryd.underlying24 hi0 hz0 hz1' hz2 ?x1 ?x2 (.slice Av 1 cv) 1 (((beL u 2).take 1).map u8) ?x3 ?x8 (some ⟨wr.heap.size, 0, none⟩) 1 1 ([UInt8.ofNat u].map u8) ?x4 ?x5 (u8_one _) ?c3 ?x7 ?c4 ?_; (case x1 => rfl); (case x2 => omega); (case x3 => rfl); (case x4 => rfl); (case x5 => exact one_u8 (cell8' u) rfl); (case x7 => omega); (case x8 => exact own_below (unhide HOWN) (by repeat (first | with_reducible exact Below.refl _ _ | with_reducible exact x | with_reducible refine Below.alloc ?_ (by first | omega | (simp; omega) | (simp; done)) _ | with_reducible refine Below.setCell ?_ (by first | omega | (simp; omega) | (simp; done)) _ | with_reducible refine Below.drew ?_ | with_reducible refine below_drewN ?_ _))); (case c3 => unfold maxLen; omega); (case c4 => simp; omega); clear hi0 hz0 hz1' hz2; intro v1 w1 hown1 hgrow hat; have hB1 : Below w.heap.size w w1 := (((unhide HB).alloc hsz _).grown hgrow (by simp; omega) (fun k hk => (own_ge' (unhide HOWN) _ hk).1)); have HB1 := hide hB1; have HO1 := hide hown1; clear hgrow hown1 hat hB1))
    go_roundw
    case rel => exact ⟨2, by omega, rfl, unhide HO1, unhide HB1⟩
    case measure => simp [intOf]
  obtain rfl : k = 1 := by omega
  go_wp2
  go_ret
  exact ⟨_, rfl, unhide HOWN, unhide HB⟩
set_option maxHeartbeats 1600000 in
theorem big_4 (u : Nat) (hu : u < 18446744073709551616) (w : World) :
    Calls Tryd.prog 44 #[.int .u64 u, .int .i64 4] w fun e w' => ∃ v, e = .returned v ∧ w'.ownsRow w.heap.size 5 1 v 4 ((beL u 4).map u8) ∧ Below w.heap.size w w' := by
  go_enter Tryd.func44, Tryd.ntmps44
  go_wp2
  go_loopw [5, 6] (fun v i wr => ∃ k : Nat, k ≤ 4 ∧ i = .int .i64 (3 - (k : Int)) ∧ wr.ownsRow w.heap.size 5 1 v k (((beL u 4).take k).map u8) ∧ Below w.heap.size w wr) (fun _ i _ => (intOf i + 1).toNat)
  case atStart => exact ⟨0, by omega, rfl, World.ownsRow_nil _ _ _ _, Below.refl _ _⟩
  case round =>
  obtain ⟨k, hk, rfl, hown, hbel⟩ := hrel
  obtain ⟨Av, cv, rfl, hcv1, hcv2, _⟩ := own_slice hown
  have hsz := hbel.size
  have HOWN := hide hown
  have HB := hide hbel
  clear hown hbel
  rcases k with _ | k
  · go_wp2_with (at_builtin; obtain ⟨i0, hi0, hz0, hz1', hz2⟩ := info_parts infoB; go_loud (refine wpList_append_any (S := fun _ => True) _ rfl _ _ _ rfl w.heap.size 5 i0 _ 1 1 Tryd.underlying24 hi0 hz0 hz1' hz2 ?x1 ?x2 (.slice Av 0 cv) 0 (((beL u 4).take 0).map u8) ?x3 ?x8 (some ⟨wr.heap.size, 0, none⟩) 1 1 ([UInt8.ofNat (u / 16777216)].map u8) ?x4 ?x5 (u8_one _) ?c3 ?x7 ?c4 ?_; (case x1 => rfl); (case x2 => omega); (case x3 => rfl); (case x4 => rfl); (case x5 => exact one_u8 (cell8 u 16777216) rfl); (case x7 => omega); (case x8 => exact own_below (unhide HOWN) (by repeat (first | with_reducible exact Below.refl _ _ | with_reducible exact x | with_reducible refine Below.alloc ?_ (by first | omega | (simp; omega) | (simp; done)) _ | with_reducible refine Below.setCell ?_ (by first | omega | (simp; omega) | (simp; done)) _ | with_reducible refine Below.drew ?_ | with_reducible refine below_drewN ?_ _))); (case c3 => unfold maxLen; omega); (case c4 => simp; omega); clear hi0 hz0 hz1' hz2; intro v1 w1 hown1 hgrow hat; have hB1 : Below w.heap.size w w1 := (((unhide HB).alloc hsz _).grown hgrow (by simp; omega) (fun k hk => (own_ge' (unhide HOWN) _ hk).1)); have HB1 := hide hB1; have HO1 := hide hown1; clear hgrow hown1 hat hB1))
    go_roundw
    case rel => exact ⟨1, by omega, rfl, unhide HO1, unhide HB1⟩
    case measure => simp [intOf]
  by_cases hk1 : k = 0
  · subst hk1
    go_wp2_with (at_builtin; obtain ⟨i0, hi0, hz0, hz1', hz2⟩ := info_parts infoB; go_loud (refine wpList_append_any (S := fun _ => True) _ rfl _ _ _ rfl w.heap.size 5 i0 _ 1 1 Tryd.underlying24 hi0 hz0 hz1' hz2 ?x1 ?x2 (.slice Av 1 cv) 1 (((beL u 4).take 1).map u8) ?x3 ?x8 (some ⟨wr.heap.size, 0, none⟩) 1 1 ([UInt8.ofNat (u / 65536)].map u8) ?x4 ?x5 (u8_one _) ?c3 ?x7 ?c4 ?_; (case x1 => rfl); (case x2 => omega); (case x3 => rfl); (case x4 => rfl); (case x5 => exact one_u8 (cell8 u 65536) rfl); (case x7 => omega); (case x8 => exact own_below (unhide HOWN) (by repeat (first | with_reducible exact Below.refl _ _ | with_reducible exact x | with_reducible refine Below.alloc ?_ (by first | omega | (simp; omega) | (simp; done)) _ | with_reducible refine Below.setCell ?_ (by first | omega | (simp; omega) | (simp; done)) _ | with_reducible refine Below.drew ?_ | with_reducible refine below_drewN ?_ _))); (case c3 => unfold maxLen; omega); (case c4 => simp; omega); clear hi0 hz0 hz1' hz2; intro v1 w1 hown1 hgrow hat; have hB1 : Below w.heap.size w w1 := (((unhide HB).alloc hsz _).grown hgrow (by simp; omega) (fun k hk => (own_ge' (unhide HOWN) _ hk).1)); have HB1 := hide hB1; have HO1 := hide hown1; clear hgrow hown1 hat hB1))
    go_roundw
    case rel => exact ⟨2, by omega, rfl, unhide HO1, unhide HB1⟩
    case measure => simp [intOf]
  by_cases hk2 : k = 1
  · subst hk2
    go_wp2_with (at_builtin; obtain ⟨i0, hi0, hz0, hz1', hz2⟩ := info_parts infoB; go_loud (refine wpList_append_any (S := fun _ => True) _ rfl _ _ _ rfl w.heap.size 5 i0 _ 1 1 Tryd.underlying24 hi0 hz0 hz1' hz2 ?x1 ?x2 (.slice Av 2 cv) 2 (((beL u 4).take 2).map u8) ?x3 ?x8 (some ⟨wr.heap.size, 0, none⟩) 1 1 ([UInt8.ofNat (u / 256)].map u8) ?x4 ?x5 (u8_one _) ?c3 ?x7 ?c4 ?_; (case x1 => rfl); (case x2 => omega); (case x3 => rfl); (case x4 => rfl); (case x5 => exact one_u8 (cell8 u 256) rfl); (case x7 => omega); (case x8 => exact own_below (unhide HOWN) (by repeat (first | with_reducible exact Below.refl _ _ | with_reducible exact x | with_reducible refine Below.alloc ?_ (by first | omega | (simp; omega) | (simp; done)) _ | with_reducible refine Below.setCell ?_ (by first | omega | (simp; omega) | (simp; done)) _ | with_reducible refine Below.drew ?_ | with_reducible refine below_drewN ?_ _))); (case c3 => unfold maxLen; omega); (case c4 => simp; omega); clear hi0 hz0 hz1' hz2; intro v1 w1 hown1 hgrow hat; have hB1 : Below w.heap.size w w1 := (((unhide HB).alloc hsz _).grown hgrow (by simp; omega) (fun k hk => (own_ge' (unhide HOWN) _ hk).1)); have HB1 := hide hB1; have HO1 := hide hown1; clear hgrow hown1 hat hB1))
    go_roundw
    case rel => exact ⟨3, by omega, rfl, unhide HO1, unhide HB1⟩
    case measure => simp [intOf]
  by_cases hk3 : k = 2
  · subst hk3
    go_wp2_with (at_builtin; obtain ⟨i0, hi0, hz0, hz1', hz2⟩ := info_parts infoB; go_loud (refine wpList_append_any (S := fun _ => True) _ rfl _ _ _ rfl w.heap.size 5 i0 _ 1 1 Tryd.underlying24 hi0 hz0 hz1' hz2 ?x1 ?x2 (.slice Av 3 cv) 3 (((beL u 4).take 3).map u8) ?x3 ?x8 (some ⟨wr.heap.size, 0, none⟩) 1 1 ([UInt8.ofNat u].map u8) ?x4 ?x5 (u8_one _) ?c3 ?x7 ?c4 ?_; (case x1 => rfl); (case x2 => omega); (case x3 => rfl); (case x4 => rfl); (case x5 => exact one_u8 (cell8' u) rfl); (case x7 => omega); (case x8 => exact own_below (unhide HOWN) (by repeat (first | with_reducible exact Below.refl _ _ | with_reducible exact x | with_reducible refine Below.alloc ?_ (by first | omega | (simp; omega) | (simp; done)) _ | with_reducible refine Below.setCell ?_ (by first | omega | (simp; omega) | (simp; done)) _ | with_reducible refine Below.drew ?_ | with_reducible refine below_drewN ?_ _))); (case c3 => unfold maxLen; omega); (case c4 => simp; omega); clear hi0 hz0 hz1' hz2; intro v1 w1 hown1 hgrow hat; have hB1 : Below w.heap.size w w1 := (((unhide HB).alloc hsz _).grown hgrow (by simp; omega) (fun k hk => (own_ge' (unhide HOWN) _ hk).1)); have HB1 := hide hB1; have HO1 := hide hown1; clear hgrow hown1 hat hB1))
    go_roundw
    case rel => exact ⟨4, by omega, rfl, unhide HO1, unhide HB1⟩
    case measure => simp [intOf]
  obtain rfl : k = 3 := by omega
  go_wp2
  go_ret
  exact ⟨_, rfl, unhide HOWN, unhide HB⟩
set_option maxHeartbeats 1600000 in
theorem big_8 (u : Nat) (hu : u < 18446744073709551616) (w : World) :
    Calls Tryd.prog 44 #[.int .u64 u, .int .i64 8] w fun e w' => ∃ v, e = .returned v ∧ w'.ownsRow w.heap.size 5 1 v 8 ((beL u 8).map u8) ∧ Below w.heap.size w w' := by
  go_enter Tryd.func44, Tryd.ntmps44
  go_wp2
  go_loopw [5, 6] (fun v i wr => ∃ k : Nat, k ≤ 8 ∧ i = .int .i64 (7 - (k : Int)) ∧ wr.ownsRow w.heap.size 5 1 v k (((beL u 8).take k).map u8) ∧ Below w.heap.size w wr) (fun _ i _ => (intOf i + 1).toNat)
  case atStart => exact ⟨0, by omega, rfl, World.ownsRow_nil _ _ _ _, Below.refl _ _⟩
  case round =>
  obtain ⟨k, hk, rfl, hown, hbel⟩ := hrel
  obtain ⟨Av, cv, rfl, hcv1, hcv2, _⟩ := own_slice hown
  have hsz := hbel.size
  have HOWN := hide hown
  have HB := hide hbel
  clear hown hbel
  rcases k with _ | k
  · go_wp2_with (at_builtin; obtain ⟨i0, hi0, hz0, hz1', hz2⟩ := info_parts infoB; go_loud (refine wpList_append_any (S := fun _ => True) _ rfl _ _ _ rfl w.heap.size 5 i0 _ 1 1 Tryd.underlying24 hi0 hz0 hz1' hz2 ?x1 ?x2 (.slice Av 0 cv) 0 (((beL u 8).take 0).map u8) ?x3 ?x8 (some ⟨wr.heap.size, 0, none⟩) 1 1 ([UInt8.ofNat (u / 72057594037927936)].map u8) ?x4 ?x5 (u8_one _) ?c3 ?x7 ?c4 ?_; (case x1 => rfl); (case x2 => omega); (case x3 => rfl); (case x4 => rfl); (case x5 => exact one_u8 (cell8t u hu) rfl); (case x7 => omega); (case x8 => exact own_below (unhide HOWN) (by repeat (first | with_reducible exact Below.refl _ _ | with_reducible exact x | with_reducible refine Below.alloc ?_ (by first | omega | (simp; omega) | (simp; done)) _ | with_reducible refine Below.setCell ?_ (by first | omega | (simp; omega) | (simp; done)) _ | with_reducible refine Below.drew ?_ | with_reducible refine below_drewN ?_ _))); (case c3 => unfold maxLen; omega); (case c4 => simp; omega); clear hi0 hz0 hz1' hz2; intro v1 w1 hown1 hgrow hat; have hB1 : Below w.heap.size w w1 := (((unhide HB).alloc hsz _).grown hgrow (by simp; omega) (fun k hk => (own_ge' (unhide HOWN) _ hk).1)); have HB1 := hide hB1; have HO1 := hide hown1; clear hgrow hown1 hat hB1))
    go_roundw
    case rel => exact ⟨1, by omega, rfl, unhide HO1, unhide HB1⟩
    case measure => simp [intOf]
  by_cases hk1 : k = 0
  · subst hk1
    go_wp2_with (at_builtin; obtain ⟨i0, hi0, hz0, hz1', hz2⟩ := info_parts infoB; go_loud (refine wpList_append_any (S := fun _ => True) _ rfl _ _ _ rfl w.heap.size 5 i0 _ 1 1 Tryd.underlying24 hi0 hz0 hz1' hz2 ?x1 ?x2 (.slice Av 1 cv) 1 (((beL u 8).take 1).map u8) ?x3 ?x8 (some ⟨wr.heap.size, 0, none⟩) 1 1 ([UInt8.ofNat (u / 281474976710656)].map u8) ?x4 ?x5 (u8_one _) ?c3 ?x7 ?c4 ?_; (case x1 => rfl); (case x2 => omega); (case x3 => rfl); (case x4 => rfl); (case x5 => exact one_u8 (cell8 u 281474976710656) rfl); (case x7 => omega); (case x8 => exact own_below (unhide HOWN) (by repeat (first | with_reducible exact Below.refl _ _ | with_reducible exact x | with_reducible refine Below.alloc ?_ (by first | omega | (simp; omega) | (simp; done)) _ | with_reducible refine Below.setCell ?_ (by first | omega | (simp; omega) | (simp; done)) _ | with_reducible refine Below.drew ?_ | with_reducible refine below_drewN ?_ _))); (case c3 => unfold maxLen; omega); (case c4 => simp; omega); clear hi0 hz0 hz1' hz2; intro v1 w1 hown1 hgrow hat; have hB1 : Below w.heap.size w w1 := (((unhide HB).alloc hsz _).grown hgrow (by simp; omega) (fun k hk => (own_ge' (unhide HOWN) _ hk).1)); have HB1 := hide hB1; have HO1 := hide hown1; clear hgrow hown1 hat hB1))
    go_roundw
    case rel => exact ⟨2, by omega, rfl, unhide HO1, unhide HB1⟩
    case measure => simp [intOf]
  by_cases hk2 : k = 1
  · subst hk2
    go_wp2_with (at_builtin; obtain ⟨i0, hi0, hz0, hz1', hz2⟩ := info_parts infoB; go_loud (refine wpList_append_any (S := fun _ => True) _ rfl _ _ _ rfl w.heap.size 5 i0 _ 1 1 Tryd.underlying24 hi0 hz0 hz1' hz2 ?x1 ?x2 (.slice Av 2 cv) 2 (((beL u 8).take 2).map u8) ?x3 ?x8 (some ⟨wr.heap.size, 0, none⟩) 1 1 ([UInt8.ofNat (u / 1099511627776)].map u8) ?x4 ?x5 (u8_one _) ?c3 ?x7 ?c4 ?_; (case x1 => rfl); (case x2 => omega); (case x3 => rfl); (case x4 => rfl); (case x5 => exact one_u8 (cell8 u 1099511627776) rfl); (case x7 => omega); (case x8 => exact own_below (unhide HOWN) (by repeat (first | with_reducible exact Below.refl _ _ | with_reducible exact x | with_reducible refine Below.alloc ?_ (by first | omega | (simp; omega) | (simp; done)) _ | with_reducible refine Below.setCell ?_ (by first | omega | (simp; omega) | (simp; done)) _ | with_reducible refine Below.drew ?_ | with_reducible refine below_drewN ?_ _))); (case c3 => unfold maxLen; omega); (case c4 => simp; omega); clear hi0 hz0 hz1' hz2; intro v1 w1 hown1 hgrow hat; have hB1 : Below w.heap.size w w1 := (((unhide HB).alloc hsz _).grown hgrow (by simp; omega) (fun k hk => (own_ge' (unhide HOWN) _ hk).1)); have HB1 := hide hB1; have HO1 := hide hown1; clear hgrow hown1 hat hB1))
    go_roundw
    case rel => exact ⟨3, by omega, rfl, unhide HO1, unhide HB1⟩
    case measure => simp [intOf]
  by_cases hk3 : k = 2
  · subst hk3
    go_wp2_with (at_builtin; obtain ⟨i0, hi0, hz0, hz1', hz2⟩ := info_parts infoB; go_loud (refine wpList_append_any (S := fun _ => True) _ rfl _ _ _ rfl w.heap.size 5 i0 _ 1 1 Tryd.underlying24 hi0 hz0 hz1' hz2 ?x1 ?x2 (.slice Av 3 cv) 3 (((beL u 8).take 3).map u8) ?x3 ?x8 (some ⟨wr.heap.size, 0, none⟩) 1 1 ([UInt8.ofNat (u / 4294967296)].map u8) ?x4 ?x5 (u8_one _) ?c3 ?x7 ?c4 ?_; (case x1 => rfl); (case x2 => omega); (case x3 => rfl); (case x4 => rfl); (case x5 => exact one_u8 (cell8 u 4294967296) rfl); (case x7 => omega); (case x8 => exact own_below (unhide HOWN) (by repeat (first | with_reducible exact Below.refl _ _ | with_reducible exact x | with_reducible refine Below.alloc ?_ (by first | omega | (simp; omega) | (simp; done)) _ | with_reducible refine Below.setCell ?_ (by first | omega | (simp; omega) | (simp; done)) _ | with_reducible refine Below.drew ?_ | with_reducible refine below_drewN ?_ _))); (case c3 => unfold maxLen; omega); (case c4 => simp; omega); clear hi0 hz0 hz1' hz2; intro v1 w1 hown1 hgrow hat; have hB1 : Below w.heap.size w w1 := (((unhide HB).alloc hsz _).grown hgrow (by simp; omega) (fun k hk => (own_ge' (unhide HOWN) _ hk).1)); have HB1 := hide hB1; have HO1 := hide hown1; clear hgrow hown1 hat hB1))
    go_roundw
    case rel => exact ⟨4, by omega, rfl, unhide HO1, unhide HB1⟩
    case measure => simp [intOf]
  by_cases hk4 : k = 3
  · subst hk4
    go_wp2_with (at_builtin; obtain ⟨i0, hi0, hz0, hz1', hz2⟩ := info_parts infoB; go_loud (refine wpList_append_any (S := fun _ => True) _ rfl _ _ _ rfl w.heap.size 5 i0 _ 1 1 Tryd.underlying24 hi0 hz0 hz1' hz2 ?x1 ?x2 (.slice Av 4 cv) 4 (((beL u 8).take 4).map u8) ?x3 ?x8 (some ⟨wr.heap.size, 0, none⟩) 1 1 ([UInt8.ofNat (u / 16777216)].map u8) ?x4 ?x5 (u8_one _) ?c3 ?x7 ?c4 ?_; (case x1 => rfl); (case x2 => omega); (case x3 => rfl); (case x4 => rfl); (case x5 => exact one_u8 (cell8 u 16777216) rfl); (case x7 => omega); (case x8 => exact own_below (unhide HOWN) (by repeat (first | with_reducible exact Below.refl _ _ | with_reducible exact x | with_reducible refine Below.alloc ?_ (by first | omega | (simp; omega) | (simp; done)) _ | with_reducible refine Below.setCell ?_ (by first | omega | (simp; omega) | (simp; done)) _ | with_reducible refine Below.drew ?_ | with_reducible refine below_drewN ?_ _))); (case c3 => unfold maxLen; omega); (case c4 => simp; omega); clear hi0 hz0 hz1' hz2; intro v1 w1 hown1 hgrow hat; have hB1 : Below w.heap.size w w1 := (((unhide HB).alloc hsz _).grown hgrow (by simp; omega) (fun k hk => (own_ge' (unhide HOWN) _ hk).1)); have HB1 := hide hB1; have HO1 := hide hown1; clear hgrow hown1 hat hB1))
    go_roundw
    case rel => exact ⟨5, by omega, rfl, unhide HO1, unhide HB1⟩
    case measure => simp [intOf]
  by_cases hk5 : k = 4
  · subst hk5
    go_wp2_with (at_builtin; obtain ⟨i0, hi0, hz0, hz1', hz2⟩ := info_parts infoB; go_loud (refine wpList_append_any (S := fun _ => True) _ rfl _ _ _ rfl w.heap.size 5 i0 _ 1 1 Tryd.underlying24 hi0 hz0 hz1' hz2 ?x1 ?x2 (.slice Av 5 cv) 5 (((beL u 8).take 5).map u8) ?x3 ?x8 (some ⟨wr.heap.size, 0, none⟩) 1 1 ([UInt8.ofNat (u / 65536)].map u8) ?x4 ?x5 (u8_one _) ?c3 ?x7 ?c4 ?_; (case x1 => rfl); (case x2 => omega); (case x3 => rfl); (case x4 => rfl); (case x5 => exact one_u8 (cell8 u 65536) rfl); (case x7 => omega); (case x8 => exact own_below (unhide HOWN) (by repeat (first | with_reducible exact Below.refl _ _ | with_reducible exact x | with_reducible refine Below.alloc ?_ (by first | omega | (simp; omega) | (simp; done)) _ | with_reducible refine Below.setCell ?_ (by first | omega | (simp; omega) | (simp; done)) _ | with_reducible refine Below.drew ?_ | with_reducible refine below_drewN ?_ _))); (case c3 => unfold maxLen; omega); (case c4 => simp; omega); clear hi0 hz0 hz1' hz2; intro v1 w1 hown1 hgrow hat; have hB1 : Below w.heap.size w w1 := (((unhide HB).alloc hsz _).grown hgrow (by simp; omega) (fun k hk => (own_ge' (unhide HOWN) _ hk).1)); have HB1 := hide hB1; have HO1 := hide hown1; clear hgrow hown1 hat hB1))
    go_roundw
    case rel => exact ⟨6, by omega, rfl, unhide HO1, unhide HB1⟩
    case measure => simp [intOf]
  by_cases hk6 : k = 5
  · subst hk6
    go_wp2_with (at_builtin; obtain ⟨i0, hi0, hz0, hz1', hz2⟩ := info_parts infoB; go_loud (refine wpList_append_any (S := fun _ => True) _ rfl _ _ _ rfl w.heap.size 5 i0 _ 1 1 Tryd.underlying24 hi0 hz0 hz1' hz2 ?x1 ?x2 (.slice Av 6 cv) 6 (((beL u 8).take 6).map u8) ?x3 ?x8 (some ⟨wr.heap.size, 0, none⟩) 1 1 ([UInt8.ofNat (u / 256)].map u8) ?x4 ?x5 (u8_one _) ?c3 ?x7 ?c4 ?_; (case x1 => rfl); (case x2 => omega); (case x3 => rfl); (case x4 => rfl); (case x5 => exact one_u8 (cell8 u 256) rfl); (case x7 => omega); (case x8 => exact own_below (unhide HOWN) (by repeat (first | with_reducible exact Below.refl _ _ | with_reducible exact x | with_reducible refine Below.alloc ?_ (by first | omega | (simp; omega) | (simp; done)) _ | with_reducible refine Below.setCell ?_ (by first | omega | (simp; omega) | (simp; done)) _ | with_reducible refine Below.drew ?_ | with_reducible refine below_drewN ?_ _))); (case c3 => unfold maxLen; omega); (case c4 => simp; omega); clear hi0 hz0 hz1' hz2; intro v1 w1 hown1 hgrow hat; have hB1 : Below w.heap.size w w1 := (((unhide HB).alloc hsz _).grown hgrow (by simp; omega) (fun k hk => (own_ge' (unhide HOWN) _ hk).1)); have HB1 := hide hB1; have HO1 := hide hown1; clear hgrow hown1 hat hB1))
    go_roundw
    case rel => exact ⟨7, by omega, rfl, unhide HO1, unhide HB1⟩
    case measure => simp [intOf]
  by_cases hk7 : k = 6
  · subst hk7
    go_wp2_with (at_builtin; obtain ⟨i0, hi0, hz0, hz1', hz2⟩ := info_parts infoB; go_loud (refine wpList_append_any (S := fun _ => True) _ rfl _ _ _ rfl w.heap.size 5 i0 _ 1 1 Tryd.underlying24 hi0 hz0 hz1' hz2 ?x1 ?x2 (.slice Av 7 cv) 7 (((beL u 8).take 7).map u8) ?x3 ?x8 (some ⟨wr.heap.size, 0, none⟩) 1 1 ([UInt8.ofNat u].map u8) ?x4 ?x5 (u8_one _) ?c3 ?x7 ?c4 ?_; (case x1 => rfl); (case x2 => omega); (case x3 => rfl); (case x4 => rfl); (case x5 => exact one_u8 (cell8' u) rfl); (case x7 => omega); (case x8 => exact own_below (unhide HOWN) (by repeat (first | with_reducible exact Below.refl _ _ | with_reducible exact x | with_reducible refine Below.alloc ?_ (by first | omega | (simp; omega) | (simp; done)) _ | with_reducible refine Below.setCell ?_ (by first | omega | (simp; omega) | (simp; done)) _ | with_reducible refine Below.drew ?_ | with_reducible refine below_drewN ?_ _))); (case c3 => unfold maxLen; omega); (case c4 => simp; omega); clear hi0 hz0 hz1' hz2; intro v1 w1 hown1 hgrow hat; have hB1 : Below w.heap.size w w1 := (((unhide HB).alloc hsz _).grown hgrow (by simp; omega) (fun k hk => (own_ge' (unhide HOWN) _ hk).1)); have HB1 := hide hB1; have HO1 := hide hown1; clear hgrow hown1 hat hB1))
    go_roundw
    case rel => exact ⟨8, by omega, rfl, unhide HO1, unhide HB1⟩
    case measure => simp [intOf]
  obtain rfl : k = 7 := by omega
  go_wp2
  go_ret
  exact ⟨_, rfl, unhide HOWN, unhide HB⟩
theorem big_any (u s : Nat) (hs : s = 1 ∨ s = 2 ∨ s = 4 ∨ s = 8) (hu : u < 18446744073709551616) (w : World) :
    Calls Tryd.prog 44 #[.int .u64 u, .int .i64 s] w fun e w' => ∃ v, e = .returned v ∧ w'.ownsRow w.heap.size 5 1 v s ((beL u s).map u8) ∧ Below w.heap.size w w' := by
  rcases hs with rfl | rfl | rfl | rfl
  · exact big_1 u hu w
  · exact big_2 u hu w
  · exact big_4 u hu w
  · exact big_8 u hu w
end Go.Proofs.YtlnpiigdjjadiaaDoor
