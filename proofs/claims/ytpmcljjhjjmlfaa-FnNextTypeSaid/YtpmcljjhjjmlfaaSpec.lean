/-
  msgp's table of lead bytes: calcBytespec, getBytespec, getType; badPrefix is an error. Conditions: bytes.
-/
import Derived.Test.YtpmcljjhjjmlfaaProg
import Derived.Test.YtpmcljjhjjmlfaaWords
import Derived.BigFrame
namespace Go.Proofs.Ytpmcljjhjjmlfaa
set_option linter.unusedSimpArgs false
set_option linter.unusedVariables false
open Go.RowKit
/-- Size, mode, type of a lead byte. -/
def bspec (b : Nat) : Int × Int × Int :=
  if b < 128 then (1, 0, 8) else if b < 144 then (1, 2 * ((b : Int) % 16), 3) else if b < 160 then (1, (b : Int) % 16, 4) else if b < 192 then (1 + (b : Int) % 32, 0, 1) else if 224 ≤ b then (1, 0, 8) else
  match b with
  | 192 => (1, 0, 10)
  | 194 => (1, 0, 7)
  | 195 => (1, 0, 7)
  | 196 => (2, -1, 2)
  | 197 => (3, -2, 2)
  | 198 => (5, -3, 2)
  | 199 => (3, -1, 12)
  | 200 => (4, -2, 12)
  | 201 => (6, -3, 12)
  | 202 => (5, 0, 6)
  | 203 => (9, 0, 5)
  | 204 => (2, 0, 9)
  | 205 => (3, 0, 9)
  | 206 => (5, 0, 9)
  | 207 => (9, 0, 9)
  | 208 => (2, 0, 8)
  | 209 => (3, 0, 8)
  | 210 => (5, 0, 8)
  | 211 => (9, 0, 8)
  | 212 => (3, 0, 12)
  | 213 => (4, 0, 12)
  | 214 => (6, 0, 12)
  | 215 => (10, 0, 12)
  | 216 => (18, 0, 12)
  | 217 => (2, -1, 1)
  | 218 => (3, -2, 1)
  | 219 => (5, -3, 1)
  | 220 => (3, -6, 4)
  | 221 => (5, -7, 4)
  | 222 => (3, -4, 3)
  | 223 => (5, -5, 3)
  | _ => (0, 0, 0)
abbrev specV (b : Nat) : Value := .agg #[.int .u8 (bspec b).1, .int .i8 (bspec b).2.1, .int .u8 (bspec b).2.2, .int .u8 0]
theorem and15 : ∀ b : Nat, b < 256 → bits BinOp.and IntKind.u8 (b : Int) 15 = ((b % 16 : Nat) : Int) := by decide +kernel
theorem and31 : ∀ b : Nat, b < 256 → bits BinOp.and IntKind.u8 (b : Int) 31 = ((b % 32 : Nat) : Int) := by decide +kernel
theorem and240_90 : ∀ b : Nat, b < 256 → (bits BinOp.and IntKind.u8 (b : Int) 240 == 144) = decide (144 ≤ b ∧ b < 160) := by decide +kernel
theorem and224_a0 : ∀ b : Nat, b < 256 → (bits BinOp.and IntKind.u8 (b : Int) 224 == 160) = decide (160 ≤ b ∧ b < 192) := by decide +kernel
theorem and224_e0 : ∀ b : Nat, b < 256 → (bits BinOp.and IntKind.u8 (b : Int) 224 == 224) = decide (224 ≤ b) := by decide +kernel
theorem rfixarray_any (b : Nat) (hb : b < 256) (w : World) : Calls Try.prog 25 #[.int .u8 b] w fun e w' => e = .returned (.int .u8 ((b : Int) % 16)) ∧ w = w' := by
  go_enter Try.func25, Try.ntmps25
  go_wp2
  go_ret
  exact ⟨rfl, rfl⟩
theorem rfixmap_any (b : Nat) (hb : b < 256) (w : World) : Calls Try.prog 24 #[.int .u8 b] w fun e w' => e = .returned (.int .u8 ((b : Int) % 16)) ∧ w = w' := by
  go_enter Try.func24, Try.ntmps24
  go_wp2
  go_ret
  exact ⟨rfl, rfl⟩
theorem rfixstr_any (b : Nat) (hb : b < 256) (w : World) : Calls Try.prog 23 #[.int .u8 b] w fun e w' => e = .returned (.int .u8 ((b : Int) % 32)) ∧ w = w' := by
  go_enter Try.func23, Try.ntmps23
  go_wp2
  go_ret
  exact ⟨rfl, rfl⟩
set_option maxRecDepth 100000 in
set_option maxHeartbeats 400000 in
theorem calc_192 (w : World) : Calls Try.prog 19 #[.int .u8 192] w fun e w' => e = .returned (specV 192) ∧ Below w.heap.size w w' := by
  go_enter Try.func19, Try.ntmps19
  go_wp2
  exact bodyPost_ret (v := .agg #[.int .u8 1, .int .i8 (0), .int .u8 10, .int .u8 0]) (by simp [results, Try.results19, go_sem]) rfl ⟨rfl, (by repeat (first | with_reducible exact Below.refl _ _ | with_reducible exact x | with_reducible refine Below.alloc ?_ (by first | omega | (simp; omega) | (simp; done)) _ | with_reducible refine Below.setCell ?_ (by first | omega | (simp; omega) | (simp; done)) _ | with_reducible refine Below.drew ?_ | with_reducible refine below_drewN ?_ _))⟩
set_option maxRecDepth 100000 in
set_option maxHeartbeats 400000 in
theorem calc_194 (w : World) : Calls Try.prog 19 #[.int .u8 194] w fun e w' => e = .returned (specV 194) ∧ Below w.heap.size w w' := by
  go_enter Try.func19, Try.ntmps19
  go_wp2
  exact bodyPost_ret (v := .agg #[.int .u8 1, .int .i8 (0), .int .u8 7, .int .u8 0]) (by simp [results, Try.results19, go_sem]) rfl ⟨rfl, (by repeat (first | with_reducible exact Below.refl _ _ | with_reducible exact x | with_reducible refine Below.alloc ?_ (by first | omega | (simp; omega) | (simp; done)) _ | with_reducible refine Below.setCell ?_ (by first | omega | (simp; omega) | (simp; done)) _ | with_reducible refine Below.drew ?_ | with_reducible refine below_drewN ?_ _))⟩
set_option maxRecDepth 100000 in
set_option maxHeartbeats 400000 in
theorem calc_195 (w : World) : Calls Try.prog 19 #[.int .u8 195] w fun e w' => e = .returned (specV 195) ∧ Below w.heap.size w w' := by
  go_enter Try.func19, Try.ntmps19
  go_wp2
  exact bodyPost_ret (v := .agg #[.int .u8 1, .int .i8 (0), .int .u8 7, .int .u8 0]) (by simp [results, Try.results19, go_sem]) rfl ⟨rfl, (by repeat (first | with_reducible exact Below.refl _ _ | with_reducible exact x | with_reducible refine Below.alloc ?_ (by first | omega | (simp; omega) | (simp; done)) _ | with_reducible refine Below.setCell ?_ (by first | omega | (simp; omega) | (simp; done)) _ | with_reducible refine Below.drew ?_ | with_reducible refine below_drewN ?_ _))⟩
set_option maxRecDepth 100000 in
set_option maxHeartbeats 400000 in
theorem calc_196 (w : World) : Calls Try.prog 19 #[.int .u8 196] w fun e w' => e = .returned (specV 196) ∧ Below w.heap.size w w' := by
  go_enter Try.func19, Try.ntmps19
  go_wp2
  exact bodyPost_ret (v := .agg #[.int .u8 2, .int .i8 (-1), .int .u8 2, .int .u8 0]) (by simp [results, Try.results19, go_sem]) rfl ⟨rfl, (by repeat (first | with_reducible exact Below.refl _ _ | with_reducible exact x | with_reducible refine Below.alloc ?_ (by first | omega | (simp; omega) | (simp; done)) _ | with_reducible refine Below.setCell ?_ (by first | omega | (simp; omega) | (simp; done)) _ | with_reducible refine Below.drew ?_ | with_reducible refine below_drewN ?_ _))⟩
set_option maxRecDepth 100000 in
set_option maxHeartbeats 400000 in
theorem calc_197 (w : World) : Calls Try.prog 19 #[.int .u8 197] w fun e w' => e = .returned (specV 197) ∧ Below w.heap.size w w' := by
  go_enter Try.func19, Try.ntmps19
  go_wp2
  exact bodyPost_ret (v := .agg #[.int .u8 3, .int .i8 (-2), .int .u8 2, .int .u8 0]) (by simp [results, Try.results19, go_sem]) rfl ⟨rfl, (by repeat (first | with_reducible exact Below.refl _ _ | with_reducible exact x | with_reducible refine Below.alloc ?_ (by first | omega | (simp; omega) | (simp; done)) _ | with_reducible refine Below.setCell ?_ (by first | omega | (simp; omega) | (simp; done)) _ | with_reducible refine Below.drew ?_ | with_reducible refine below_drewN ?_ _))⟩
set_option maxRecDepth 100000 in
set_option maxHeartbeats 400000 in
theorem calc_198 (w : World) : Calls Try.prog 19 #[.int .u8 198] w fun e w' => e = .returned (specV 198) ∧ Below w.heap.size w w' := by
  go_enter Try.func19, Try.ntmps19
  go_wp2
  exact bodyPost_ret (v := .agg #[.int .u8 5, .int .i8 (-3), .int .u8 2, .int .u8 0]) (by simp [results, Try.results19, go_sem]) rfl ⟨rfl, (by repeat (first | with_reducible exact Below.refl _ _ | with_reducible exact x | with_reducible refine Below.alloc ?_ (by first | omega | (simp; omega) | (simp; done)) _ | with_reducible refine Below.setCell ?_ (by first | omega | (simp; omega) | (simp; done)) _ | with_reducible refine Below.drew ?_ | with_reducible refine below_drewN ?_ _))⟩
set_option maxRecDepth 100000 in
set_option maxHeartbeats 400000 in
theorem calc_199 (w : World) : Calls Try.prog 19 #[.int .u8 199] w fun e w' => e = .returned (specV 199) ∧ Below w.heap.size w w' := by
  go_enter Try.func19, Try.ntmps19
  go_wp2
  exact bodyPost_ret (v := .agg #[.int .u8 3, .int .i8 (-1), .int .u8 12, .int .u8 0]) (by simp [results, Try.results19, go_sem]) rfl ⟨rfl, (by repeat (first | with_reducible exact Below.refl _ _ | with_reducible exact x | with_reducible refine Below.alloc ?_ (by first | omega | (simp; omega) | (simp; done)) _ | with_reducible refine Below.setCell ?_ (by first | omega | (simp; omega) | (simp; done)) _ | with_reducible refine Below.drew ?_ | with_reducible refine below_drewN ?_ _))⟩
set_option maxRecDepth 100000 in
set_option maxHeartbeats 400000 in
theorem calc_200 (w : World) : Calls Try.prog 19 #[.int .u8 200] w fun e w' => e = .returned (specV 200) ∧ Below w.heap.size w w' := by
  go_enter Try.func19, Try.ntmps19
  go_wp2
  exact bodyPost_ret (v := .agg #[.int .u8 4, .int .i8 (-2), .int .u8 12, .int .u8 0]) (by simp [results, Try.results19, go_sem]) rfl ⟨rfl, (by repeat (first | with_reducible exact Below.refl _ _ | with_reducible exact x | with_reducible refine Below.alloc ?_ (by first | omega | (simp; omega) | (simp; done)) _ | with_reducible refine Below.setCell ?_ (by first | omega | (simp; omega) | (simp; done)) _ | with_reducible refine Below.drew ?_ | with_reducible refine below_drewN ?_ _))⟩
set_option maxRecDepth 100000 in
set_option maxHeartbeats 400000 in
theorem calc_201 (w : World) : Calls Try.prog 19 #[.int .u8 201] w fun e w' => e = .returned (specV 201) ∧ Below w.heap.size w w' := by
  go_enter Try.func19, Try.ntmps19
  go_wp2
  exact bodyPost_ret (v := .agg #[.int .u8 6, .int .i8 (-3), .int .u8 12, .int .u8 0]) (by simp [results, Try.results19, go_sem]) rfl ⟨rfl, (by repeat (first | with_reducible exact Below.refl _ _ | with_reducible exact x | with_reducible refine Below.alloc ?_ (by first | omega | (simp; omega) | (simp; done)) _ | with_reducible refine Below.setCell ?_ (by first | omega | (simp; omega) | (simp; done)) _ | with_reducible refine Below.drew ?_ | with_reducible refine below_drewN ?_ _))⟩
set_option maxRecDepth 100000 in
set_option maxHeartbeats 400000 in
theorem calc_202 (w : World) : Calls Try.prog 19 #[.int .u8 202] w fun e w' => e = .returned (specV 202) ∧ Below w.heap.size w w' := by
  go_enter Try.func19, Try.ntmps19
  go_wp2
  exact bodyPost_ret (v := .agg #[.int .u8 5, .int .i8 (0), .int .u8 6, .int .u8 0]) (by simp [results, Try.results19, go_sem]) rfl ⟨rfl, (by repeat (first | with_reducible exact Below.refl _ _ | with_reducible exact x | with_reducible refine Below.alloc ?_ (by first | omega | (simp; omega) | (simp; done)) _ | with_reducible refine Below.setCell ?_ (by first | omega | (simp; omega) | (simp; done)) _ | with_reducible refine Below.drew ?_ | with_reducible refine below_drewN ?_ _))⟩
set_option maxRecDepth 100000 in
set_option maxHeartbeats 400000 in
theorem calc_203 (w : World) : Calls Try.prog 19 #[.int .u8 203] w fun e w' => e = .returned (specV 203) ∧ Below w.heap.size w w' := by
  go_enter Try.func19, Try.ntmps19
  go_wp2
  exact bodyPost_ret (v := .agg #[.int .u8 9, .int .i8 (0), .int .u8 5, .int .u8 0]) (by simp [results, Try.results19, go_sem]) rfl ⟨rfl, (by repeat (first | with_reducible exact Below.refl _ _ | with_reducible exact x | with_reducible refine Below.alloc ?_ (by first | omega | (simp; omega) | (simp; done)) _ | with_reducible refine Below.setCell ?_ (by first | omega | (simp; omega) | (simp; done)) _ | with_reducible refine Below.drew ?_ | with_reducible refine below_drewN ?_ _))⟩
set_option maxRecDepth 100000 in
set_option maxHeartbeats 400000 in
theorem calc_204 (w : World) : Calls Try.prog 19 #[.int .u8 204] w fun e w' => e = .returned (specV 204) ∧ Below w.heap.size w w' := by
  go_enter Try.func19, Try.ntmps19
  go_wp2
  exact bodyPost_ret (v := .agg #[.int .u8 2, .int .i8 (0), .int .u8 9, .int .u8 0]) (by simp [results, Try.results19, go_sem]) rfl ⟨rfl, (by repeat (first | with_reducible exact Below.refl _ _ | with_reducible exact x | with_reducible refine Below.alloc ?_ (by first | omega | (simp; omega) | (simp; done)) _ | with_reducible refine Below.setCell ?_ (by first | omega | (simp; omega) | (simp; done)) _ | with_reducible refine Below.drew ?_ | with_reducible refine below_drewN ?_ _))⟩
set_option maxRecDepth 100000 in
set_option maxHeartbeats 400000 in
theorem calc_205 (w : World) : Calls Try.prog 19 #[.int .u8 205] w fun e w' => e = .returned (specV 205) ∧ Below w.heap.size w w' := by
  go_enter Try.func19, Try.ntmps19
  go_wp2
  exact bodyPost_ret (v := .agg #[.int .u8 3, .int .i8 (0), .int .u8 9, .int .u8 0]) (by simp [results, Try.results19, go_sem]) rfl ⟨rfl, (by repeat (first | with_reducible exact Below.refl _ _ | with_reducible exact x | with_reducible refine Below.alloc ?_ (by first | omega | (simp; omega) | (simp; done)) _ | with_reducible refine Below.setCell ?_ (by first | omega | (simp; omega) | (simp; done)) _ | with_reducible refine Below.drew ?_ | with_reducible refine below_drewN ?_ _))⟩
set_option maxRecDepth 100000 in
set_option maxHeartbeats 400000 in
theorem calc_206 (w : World) : Calls Try.prog 19 #[.int .u8 206] w fun e w' => e = .returned (specV 206) ∧ Below w.heap.size w w' := by
  go_enter Try.func19, Try.ntmps19
  go_wp2
  exact bodyPost_ret (v := .agg #[.int .u8 5, .int .i8 (0), .int .u8 9, .int .u8 0]) (by simp [results, Try.results19, go_sem]) rfl ⟨rfl, (by repeat (first | with_reducible exact Below.refl _ _ | with_reducible exact x | with_reducible refine Below.alloc ?_ (by first | omega | (simp; omega) | (simp; done)) _ | with_reducible refine Below.setCell ?_ (by first | omega | (simp; omega) | (simp; done)) _ | with_reducible refine Below.drew ?_ | with_reducible refine below_drewN ?_ _))⟩
set_option maxRecDepth 100000 in
set_option maxHeartbeats 400000 in
theorem calc_207 (w : World) : Calls Try.prog 19 #[.int .u8 207] w fun e w' => e = .returned (specV 207) ∧ Below w.heap.size w w' := by
  go_enter Try.func19, Try.ntmps19
  go_wp2
  exact bodyPost_ret (v := .agg #[.int .u8 9, .int .i8 (0), .int .u8 9, .int .u8 0]) (by simp [results, Try.results19, go_sem]) rfl ⟨rfl, (by repeat (first | with_reducible exact Below.refl _ _ | with_reducible exact x | with_reducible refine Below.alloc ?_ (by first | omega | (simp; omega) | (simp; done)) _ | with_reducible refine Below.setCell ?_ (by first | omega | (simp; omega) | (simp; done)) _ | with_reducible refine Below.drew ?_ | with_reducible refine below_drewN ?_ _))⟩
set_option maxRecDepth 100000 in
set_option maxHeartbeats 400000 in
theorem calc_208 (w : World) : Calls Try.prog 19 #[.int .u8 208] w fun e w' => e = .returned (specV 208) ∧ Below w.heap.size w w' := by
  go_enter Try.func19, Try.ntmps19
  go_wp2
  exact bodyPost_ret (v := .agg #[.int .u8 2, .int .i8 (0), .int .u8 8, .int .u8 0]) (by simp [results, Try.results19, go_sem]) rfl ⟨rfl, (by repeat (first | with_reducible exact Below.refl _ _ | with_reducible exact x | with_reducible refine Below.alloc ?_ (by first | omega | (simp; omega) | (simp; done)) _ | with_reducible refine Below.setCell ?_ (by first | omega | (simp; omega) | (simp; done)) _ | with_reducible refine Below.drew ?_ | with_reducible refine below_drewN ?_ _))⟩
set_option maxRecDepth 100000 in
set_option maxHeartbeats 400000 in
theorem calc_209 (w : World) : Calls Try.prog 19 #[.int .u8 209] w fun e w' => e = .returned (specV 209) ∧ Below w.heap.size w w' := by
  go_enter Try.func19, Try.ntmps19
  go_wp2
  exact bodyPost_ret (v := .agg #[.int .u8 3, .int .i8 (0), .int .u8 8, .int .u8 0]) (by simp [results, Try.results19, go_sem]) rfl ⟨rfl, (by repeat (first | with_reducible exact Below.refl _ _ | with_reducible exact x | with_reducible refine Below.alloc ?_ (by first | omega | (simp; omega) | (simp; done)) _ | with_reducible refine Below.setCell ?_ (by first | omega | (simp; omega) | (simp; done)) _ | with_reducible refine Below.drew ?_ | with_reducible refine below_drewN ?_ _))⟩
set_option maxRecDepth 100000 in
set_option maxHeartbeats 400000 in
theorem calc_210 (w : World) : Calls Try.prog 19 #[.int .u8 210] w fun e w' => e = .returned (specV 210) ∧ Below w.heap.size w w' := by
  go_enter Try.func19, Try.ntmps19
  go_wp2
  exact bodyPost_ret (v := .agg #[.int .u8 5, .int .i8 (0), .int .u8 8, .int .u8 0]) (by simp [results, Try.results19, go_sem]) rfl ⟨rfl, (by repeat (first | with_reducible exact Below.refl _ _ | with_reducible exact x | with_reducible refine Below.alloc ?_ (by first | omega | (simp; omega) | (simp; done)) _ | with_reducible refine Below.setCell ?_ (by first | omega | (simp; omega) | (simp; done)) _ | with_reducible refine Below.drew ?_ | with_reducible refine below_drewN ?_ _))⟩
set_option maxRecDepth 100000 in
set_option maxHeartbeats 400000 in
theorem calc_211 (w : World) : Calls Try.prog 19 #[.int .u8 211] w fun e w' => e = .returned (specV 211) ∧ Below w.heap.size w w' := by
  go_enter Try.func19, Try.ntmps19
  go_wp2
  exact bodyPost_ret (v := .agg #[.int .u8 9, .int .i8 (0), .int .u8 8, .int .u8 0]) (by simp [results, Try.results19, go_sem]) rfl ⟨rfl, (by repeat (first | with_reducible exact Below.refl _ _ | with_reducible exact x | with_reducible refine Below.alloc ?_ (by first | omega | (simp; omega) | (simp; done)) _ | with_reducible refine Below.setCell ?_ (by first | omega | (simp; omega) | (simp; done)) _ | with_reducible refine Below.drew ?_ | with_reducible refine below_drewN ?_ _))⟩
set_option maxRecDepth 100000 in
set_option maxHeartbeats 400000 in
theorem calc_212 (w : World) : Calls Try.prog 19 #[.int .u8 212] w fun e w' => e = .returned (specV 212) ∧ Below w.heap.size w w' := by
  go_enter Try.func19, Try.ntmps19
  go_wp2
  exact bodyPost_ret (v := .agg #[.int .u8 3, .int .i8 (0), .int .u8 12, .int .u8 0]) (by simp [results, Try.results19, go_sem]) rfl ⟨rfl, (by repeat (first | with_reducible exact Below.refl _ _ | with_reducible exact x | with_reducible refine Below.alloc ?_ (by first | omega | (simp; omega) | (simp; done)) _ | with_reducible refine Below.setCell ?_ (by first | omega | (simp; omega) | (simp; done)) _ | with_reducible refine Below.drew ?_ | with_reducible refine below_drewN ?_ _))⟩
set_option maxRecDepth 100000 in
set_option maxHeartbeats 400000 in
theorem calc_213 (w : World) : Calls Try.prog 19 #[.int .u8 213] w fun e w' => e = .returned (specV 213) ∧ Below w.heap.size w w' := by
  go_enter Try.func19, Try.ntmps19
  go_wp2
  exact bodyPost_ret (v := .agg #[.int .u8 4, .int .i8 (0), .int .u8 12, .int .u8 0]) (by simp [results, Try.results19, go_sem]) rfl ⟨rfl, (by repeat (first | with_reducible exact Below.refl _ _ | with_reducible exact x | with_reducible refine Below.alloc ?_ (by first | omega | (simp; omega) | (simp; done)) _ | with_reducible refine Below.setCell ?_ (by first | omega | (simp; omega) | (simp; done)) _ | with_reducible refine Below.drew ?_ | with_reducible refine below_drewN ?_ _))⟩
set_option maxRecDepth 100000 in
set_option maxHeartbeats 400000 in
theorem calc_214 (w : World) : Calls Try.prog 19 #[.int .u8 214] w fun e w' => e = .returned (specV 214) ∧ Below w.heap.size w w' := by
  go_enter Try.func19, Try.ntmps19
  go_wp2
  exact bodyPost_ret (v := .agg #[.int .u8 6, .int .i8 (0), .int .u8 12, .int .u8 0]) (by simp [results, Try.results19, go_sem]) rfl ⟨rfl, (by repeat (first | with_reducible exact Below.refl _ _ | with_reducible exact x | with_reducible refine Below.alloc ?_ (by first | omega | (simp; omega) | (simp; done)) _ | with_reducible refine Below.setCell ?_ (by first | omega | (simp; omega) | (simp; done)) _ | with_reducible refine Below.drew ?_ | with_reducible refine below_drewN ?_ _))⟩
set_option maxRecDepth 100000 in
set_option maxHeartbeats 400000 in
theorem calc_215 (w : World) : Calls Try.prog 19 #[.int .u8 215] w fun e w' => e = .returned (specV 215) ∧ Below w.heap.size w w' := by
  go_enter Try.func19, Try.ntmps19
  go_wp2
  exact bodyPost_ret (v := .agg #[.int .u8 10, .int .i8 (0), .int .u8 12, .int .u8 0]) (by simp [results, Try.results19, go_sem]) rfl ⟨rfl, (by repeat (first | with_reducible exact Below.refl _ _ | with_reducible exact x | with_reducible refine Below.alloc ?_ (by first | omega | (simp; omega) | (simp; done)) _ | with_reducible refine Below.setCell ?_ (by first | omega | (simp; omega) | (simp; done)) _ | with_reducible refine Below.drew ?_ | with_reducible refine below_drewN ?_ _))⟩
set_option maxRecDepth 100000 in
set_option maxHeartbeats 400000 in
theorem calc_216 (w : World) : Calls Try.prog 19 #[.int .u8 216] w fun e w' => e = .returned (specV 216) ∧ Below w.heap.size w w' := by
  go_enter Try.func19, Try.ntmps19
  go_wp2
  exact bodyPost_ret (v := .agg #[.int .u8 18, .int .i8 (0), .int .u8 12, .int .u8 0]) (by simp [results, Try.results19, go_sem]) rfl ⟨rfl, (by repeat (first | with_reducible exact Below.refl _ _ | with_reducible exact x | with_reducible refine Below.alloc ?_ (by first | omega | (simp; omega) | (simp; done)) _ | with_reducible refine Below.setCell ?_ (by first | omega | (simp; omega) | (simp; done)) _ | with_reducible refine Below.drew ?_ | with_reducible refine below_drewN ?_ _))⟩
set_option maxRecDepth 100000 in
set_option maxHeartbeats 400000 in
theorem calc_217 (w : World) : Calls Try.prog 19 #[.int .u8 217] w fun e w' => e = .returned (specV 217) ∧ Below w.heap.size w w' := by
  go_enter Try.func19, Try.ntmps19
  go_wp2
  exact bodyPost_ret (v := .agg #[.int .u8 2, .int .i8 (-1), .int .u8 1, .int .u8 0]) (by simp [results, Try.results19, go_sem]) rfl ⟨rfl, (by repeat (first | with_reducible exact Below.refl _ _ | with_reducible exact x | with_reducible refine Below.alloc ?_ (by first | omega | (simp; omega) | (simp; done)) _ | with_reducible refine Below.setCell ?_ (by first | omega | (simp; omega) | (simp; done)) _ | with_reducible refine Below.drew ?_ | with_reducible refine below_drewN ?_ _))⟩
set_option maxRecDepth 100000 in
set_option maxHeartbeats 400000 in
theorem calc_218 (w : World) : Calls Try.prog 19 #[.int .u8 218] w fun e w' => e = .returned (specV 218) ∧ Below w.heap.size w w' := by
  go_enter Try.func19, Try.ntmps19
  go_wp2
  exact bodyPost_ret (v := .agg #[.int .u8 3, .int .i8 (-2), .int .u8 1, .int .u8 0]) (by simp [results, Try.results19, go_sem]) rfl ⟨rfl, (by repeat (first | with_reducible exact Below.refl _ _ | with_reducible exact x | with_reducible refine Below.alloc ?_ (by first | omega | (simp; omega) | (simp; done)) _ | with_reducible refine Below.setCell ?_ (by first | omega | (simp; omega) | (simp; done)) _ | with_reducible refine Below.drew ?_ | with_reducible refine below_drewN ?_ _))⟩
set_option maxRecDepth 100000 in
set_option maxHeartbeats 400000 in
theorem calc_219 (w : World) : Calls Try.prog 19 #[.int .u8 219] w fun e w' => e = .returned (specV 219) ∧ Below w.heap.size w w' := by
  go_enter Try.func19, Try.ntmps19
  go_wp2
  exact bodyPost_ret (v := .agg #[.int .u8 5, .int .i8 (-3), .int .u8 1, .int .u8 0]) (by simp [results, Try.results19, go_sem]) rfl ⟨rfl, (by repeat (first | with_reducible exact Below.refl _ _ | with_reducible exact x | with_reducible refine Below.alloc ?_ (by first | omega | (simp; omega) | (simp; done)) _ | with_reducible refine Below.setCell ?_ (by first | omega | (simp; omega) | (simp; done)) _ | with_reducible refine Below.drew ?_ | with_reducible refine below_drewN ?_ _))⟩
set_option maxRecDepth 100000 in
set_option maxHeartbeats 400000 in
theorem calc_220 (w : World) : Calls Try.prog 19 #[.int .u8 220] w fun e w' => e = .returned (specV 220) ∧ Below w.heap.size w w' := by
  go_enter Try.func19, Try.ntmps19
  go_wp2
  exact bodyPost_ret (v := .agg #[.int .u8 3, .int .i8 (-6), .int .u8 4, .int .u8 0]) (by simp [results, Try.results19, go_sem]) rfl ⟨rfl, (by repeat (first | with_reducible exact Below.refl _ _ | with_reducible exact x | with_reducible refine Below.alloc ?_ (by first | omega | (simp; omega) | (simp; done)) _ | with_reducible refine Below.setCell ?_ (by first | omega | (simp; omega) | (simp; done)) _ | with_reducible refine Below.drew ?_ | with_reducible refine below_drewN ?_ _))⟩
set_option maxRecDepth 100000 in
set_option maxHeartbeats 400000 in
theorem calc_221 (w : World) : Calls Try.prog 19 #[.int .u8 221] w fun e w' => e = .returned (specV 221) ∧ Below w.heap.size w w' := by
  go_enter Try.func19, Try.ntmps19
  go_wp2
  exact bodyPost_ret (v := .agg #[.int .u8 5, .int .i8 (-7), .int .u8 4, .int .u8 0]) (by simp [results, Try.results19, go_sem]) rfl ⟨rfl, (by repeat (first | with_reducible exact Below.refl _ _ | with_reducible exact x | with_reducible refine Below.alloc ?_ (by first | omega | (simp; omega) | (simp; done)) _ | with_reducible refine Below.setCell ?_ (by first | omega | (simp; omega) | (simp; done)) _ | with_reducible refine Below.drew ?_ | with_reducible refine below_drewN ?_ _))⟩
set_option maxRecDepth 100000 in
set_option maxHeartbeats 400000 in
theorem calc_222 (w : World) : Calls Try.prog 19 #[.int .u8 222] w fun e w' => e = .returned (specV 222) ∧ Below w.heap.size w w' := by
  go_enter Try.func19, Try.ntmps19
  go_wp2
  exact bodyPost_ret (v := .agg #[.int .u8 3, .int .i8 (-4), .int .u8 3, .int .u8 0]) (by simp [results, Try.results19, go_sem]) rfl ⟨rfl, (by repeat (first | with_reducible exact Below.refl _ _ | with_reducible exact x | with_reducible refine Below.alloc ?_ (by first | omega | (simp; omega) | (simp; done)) _ | with_reducible refine Below.setCell ?_ (by first | omega | (simp; omega) | (simp; done)) _ | with_reducible refine Below.drew ?_ | with_reducible refine below_drewN ?_ _))⟩
set_option maxRecDepth 100000 in
set_option maxHeartbeats 400000 in
theorem calc_223 (w : World) : Calls Try.prog 19 #[.int .u8 223] w fun e w' => e = .returned (specV 223) ∧ Below w.heap.size w w' := by
  go_enter Try.func19, Try.ntmps19
  go_wp2
  exact bodyPost_ret (v := .agg #[.int .u8 5, .int .i8 (-5), .int .u8 3, .int .u8 0]) (by simp [results, Try.results19, go_sem]) rfl ⟨rfl, (by repeat (first | with_reducible exact Below.refl _ _ | with_reducible exact x | with_reducible refine Below.alloc ?_ (by first | omega | (simp; omega) | (simp; done)) _ | with_reducible refine Below.setCell ?_ (by first | omega | (simp; omega) | (simp; done)) _ | with_reducible refine Below.drew ?_ | with_reducible refine below_drewN ?_ _))⟩
theorem bspec_lo (b : Nat) (h : b < 128) : specV b = .agg #[.int .u8 1, .int .i8 0, .int .u8 8, .int .u8 0] := by
  simp [bspec, h]
theorem bspec_map (b : Nat) (h : 128 ≤ b) (h' : b < 144) : specV b = .agg #[.int .u8 1, .int .i8 (2 * ((b : Int) % 16)), .int .u8 3, .int .u8 0] := by
  have : ¬ b < 128 := by omega
  simp [bspec, h', this]
theorem bspec_arr (b : Nat) (h : 144 ≤ b) (h' : b < 160) : specV b = .agg #[.int .u8 1, .int .i8 ((b : Int) % 16), .int .u8 4, .int .u8 0] := by
  have h1 : ¬ b < 128 := by omega
  have h2 : ¬ b < 144 := by omega
  simp [bspec, h', h1, h2]
theorem bspec_str (b : Nat) (h : 160 ≤ b) (h' : b < 192) : specV b = .agg #[.int .u8 (1 + (b : Int) % 32), .int .i8 0, .int .u8 1, .int .u8 0] := by
  have h1 : ¬ b < 128 := by omega
  have h2 : ¬ b < 144 := by omega
  have h3 : ¬ b < 160 := by omega
  simp [bspec, h', h1, h2, h3]
theorem bspec_hi (b : Nat) (h : 224 ≤ b) : specV b = .agg #[.int .u8 1, .int .i8 0, .int .u8 8, .int .u8 0] := by
  have h1 : ¬ b < 128 := by omega
  have h2 : ¬ b < 144 := by omega
  have h3 : ¬ b < 160 := by omega
  have h4 : ¬ b < 192 := by omega
  simp [bspec, h, h1, h2, h3, h4]
set_option maxRecDepth 100000 in
set_option maxHeartbeats 1600000 in
theorem calc_lo (b : Nat) (hb : b < 256) (hc : b < 128) (w : World) : Calls Try.prog 19 #[.int .u8 b] w fun e w' => e = .returned (specV b) ∧ Below w.heap.size w w' := by
  have n192 : ((b : Int) == 192) = false := by simp; omega
  have n194 : ((b : Int) == 194) = false := by simp; omega
  have n195 : ((b : Int) == 195) = false := by simp; omega
  have n196 : ((b : Int) == 196) = false := by simp; omega
  have n197 : ((b : Int) == 197) = false := by simp; omega
  have n198 : ((b : Int) == 198) = false := by simp; omega
  have n199 : ((b : Int) == 199) = false := by simp; omega
  have n200 : ((b : Int) == 200) = false := by simp; omega
  have n201 : ((b : Int) == 201) = false := by simp; omega
  have n202 : ((b : Int) == 202) = false := by simp; omega
  have n203 : ((b : Int) == 203) = false := by simp; omega
  have n204 : ((b : Int) == 204) = false := by simp; omega
  have n205 : ((b : Int) == 205) = false := by simp; omega
  have n206 : ((b : Int) == 206) = false := by simp; omega
  have n207 : ((b : Int) == 207) = false := by simp; omega
  have n208 : ((b : Int) == 208) = false := by simp; omega
  have n209 : ((b : Int) == 209) = false := by simp; omega
  have n210 : ((b : Int) == 210) = false := by simp; omega
  have n211 : ((b : Int) == 211) = false := by simp; omega
  have n212 : ((b : Int) == 212) = false := by simp; omega
  have n213 : ((b : Int) == 213) = false := by simp; omega
  have n214 : ((b : Int) == 214) = false := by simp; omega
  have n215 : ((b : Int) == 215) = false := by simp; omega
  have n216 : ((b : Int) == 216) = false := by simp; omega
  have n217 : ((b : Int) == 217) = false := by simp; omega
  have n218 : ((b : Int) == 218) = false := by simp; omega
  have n219 : ((b : Int) == 219) = false := by simp; omega
  have n220 : ((b : Int) == 220) = false := by simp; omega
  have n221 : ((b : Int) == 221) = false := by simp; omega
  have n222 : ((b : Int) == 222) = false := by simp; omega
  have n223 : ((b : Int) == 223) = false := by simp; omega
  have hs := hide (bspec_lo b hc)
  rw [unhide hs]
  clear hs
  go_enter Try.func19, Try.ntmps19
  go_wp2
  exact bodyPost_ret (v := .agg #[.int .u8 1, .int .i8 0, .int .u8 8, .int .u8 0]) (by simp [results, Try.results19, go_sem]) rfl ⟨rfl, (by repeat (first | with_reducible exact Below.refl _ _ | with_reducible exact x | with_reducible refine Below.alloc ?_ (by first | omega | (simp; omega) | (simp; done)) _ | with_reducible refine Below.setCell ?_ (by first | omega | (simp; omega) | (simp; done)) _ | with_reducible refine Below.drew ?_ | with_reducible refine below_drewN ?_ _))⟩
set_option maxRecDepth 100000 in
set_option maxHeartbeats 1600000 in
theorem calc_str (b : Nat) (hb : b < 256) (hc : 160 ≤ b) (hd : b < 192) (w : World) : Calls Try.prog 19 #[.int .u8 b] w fun e w' => e = .returned (specV b) ∧ Below w.heap.size w w' := by
  have n192 : ((b : Int) == 192) = false := by simp; omega
  have n194 : ((b : Int) == 194) = false := by simp; omega
  have n195 : ((b : Int) == 195) = false := by simp; omega
  have n196 : ((b : Int) == 196) = false := by simp; omega
  have n197 : ((b : Int) == 197) = false := by simp; omega
  have n198 : ((b : Int) == 198) = false := by simp; omega
  have n199 : ((b : Int) == 199) = false := by simp; omega
  have n200 : ((b : Int) == 200) = false := by simp; omega
  have n201 : ((b : Int) == 201) = false := by simp; omega
  have n202 : ((b : Int) == 202) = false := by simp; omega
  have n203 : ((b : Int) == 203) = false := by simp; omega
  have n204 : ((b : Int) == 204) = false := by simp; omega
  have n205 : ((b : Int) == 205) = false := by simp; omega
  have n206 : ((b : Int) == 206) = false := by simp; omega
  have n207 : ((b : Int) == 207) = false := by simp; omega
  have n208 : ((b : Int) == 208) = false := by simp; omega
  have n209 : ((b : Int) == 209) = false := by simp; omega
  have n210 : ((b : Int) == 210) = false := by simp; omega
  have n211 : ((b : Int) == 211) = false := by simp; omega
  have n212 : ((b : Int) == 212) = false := by simp; omega
  have n213 : ((b : Int) == 213) = false := by simp; omega
  have n214 : ((b : Int) == 214) = false := by simp; omega
  have n215 : ((b : Int) == 215) = false := by simp; omega
  have n216 : ((b : Int) == 216) = false := by simp; omega
  have n217 : ((b : Int) == 217) = false := by simp; omega
  have n218 : ((b : Int) == 218) = false := by simp; omega
  have n219 : ((b : Int) == 219) = false := by simp; omega
  have n220 : ((b : Int) == 220) = false := by simp; omega
  have n221 : ((b : Int) == 221) = false := by simp; omega
  have n222 : ((b : Int) == 222) = false := by simp; omega
  have n223 : ((b : Int) == 223) = false := by simp; omega
  have hs := hide (bspec_str b hc hd)
  rw [unhide hs]
  clear hs
  go_enter Try.func19, Try.ntmps19
  go_wp2_with (go_at_call 23; refine (rfixstr_any b hb _).mono ?_; rintro e w1 ⟨rfl, rfl⟩)
  exact bodyPost_ret (v := .agg #[.int .u8 (1 + (b : Int) % 32), .int .i8 0, .int .u8 1, .int .u8 0]) (by simp [results, Try.results19, go_sem]) rfl ⟨rfl, (by repeat (first | with_reducible exact Below.refl _ _ | with_reducible exact x | with_reducible refine Below.alloc ?_ (by first | omega | (simp; omega) | (simp; done)) _ | with_reducible refine Below.setCell ?_ (by first | omega | (simp; omega) | (simp; done)) _ | with_reducible refine Below.drew ?_ | with_reducible refine below_drewN ?_ _))⟩
set_option maxRecDepth 100000 in
set_option maxHeartbeats 1600000 in
theorem calc_map (b : Nat) (hb : b < 256) (hc : 128 ≤ b) (hd : b < 144) (w : World) : Calls Try.prog 19 #[.int .u8 b] w fun e w' => e = .returned (specV b) ∧ Below w.heap.size w w' := by
  have n192 : ((b : Int) == 192) = false := by simp; omega
  have n194 : ((b : Int) == 194) = false := by simp; omega
  have n195 : ((b : Int) == 195) = false := by simp; omega
  have n196 : ((b : Int) == 196) = false := by simp; omega
  have n197 : ((b : Int) == 197) = false := by simp; omega
  have n198 : ((b : Int) == 198) = false := by simp; omega
  have n199 : ((b : Int) == 199) = false := by simp; omega
  have n200 : ((b : Int) == 200) = false := by simp; omega
  have n201 : ((b : Int) == 201) = false := by simp; omega
  have n202 : ((b : Int) == 202) = false := by simp; omega
  have n203 : ((b : Int) == 203) = false := by simp; omega
  have n204 : ((b : Int) == 204) = false := by simp; omega
  have n205 : ((b : Int) == 205) = false := by simp; omega
  have n206 : ((b : Int) == 206) = false := by simp; omega
  have n207 : ((b : Int) == 207) = false := by simp; omega
  have n208 : ((b : Int) == 208) = false := by simp; omega
  have n209 : ((b : Int) == 209) = false := by simp; omega
  have n210 : ((b : Int) == 210) = false := by simp; omega
  have n211 : ((b : Int) == 211) = false := by simp; omega
  have n212 : ((b : Int) == 212) = false := by simp; omega
  have n213 : ((b : Int) == 213) = false := by simp; omega
  have n214 : ((b : Int) == 214) = false := by simp; omega
  have n215 : ((b : Int) == 215) = false := by simp; omega
  have n216 : ((b : Int) == 216) = false := by simp; omega
  have n217 : ((b : Int) == 217) = false := by simp; omega
  have n218 : ((b : Int) == 218) = false := by simp; omega
  have n219 : ((b : Int) == 219) = false := by simp; omega
  have n220 : ((b : Int) == 220) = false := by simp; omega
  have n221 : ((b : Int) == 221) = false := by simp; omega
  have n222 : ((b : Int) == 222) = false := by simp; omega
  have n223 : ((b : Int) == 223) = false := by simp; omega
  have hs := hide (bspec_map b hc hd)
  rw [unhide hs]
  clear hs
  go_enter Try.func19, Try.ntmps19
  go_wp2_with (go_at_call 24; refine (rfixmap_any b hb _).mono ?_; rintro e w1 ⟨rfl, rfl⟩)
  exact bodyPost_ret (v := .agg #[.int .u8 1, .int .i8 (2 * ((b : Int) % 16)), .int .u8 3, .int .u8 0]) (by simp [results, Try.results19, go_sem]) rfl ⟨rfl, (by repeat (first | with_reducible exact Below.refl _ _ | with_reducible exact x | with_reducible refine Below.alloc ?_ (by first | omega | (simp; omega) | (simp; done)) _ | with_reducible refine Below.setCell ?_ (by first | omega | (simp; omega) | (simp; done)) _ | with_reducible refine Below.drew ?_ | with_reducible refine below_drewN ?_ _))⟩
set_option maxRecDepth 100000 in
set_option maxHeartbeats 1600000 in
theorem calc_arr (b : Nat) (hb : b < 256) (hc : 144 ≤ b) (hd : b < 160) (w : World) : Calls Try.prog 19 #[.int .u8 b] w fun e w' => e = .returned (specV b) ∧ Below w.heap.size w w' := by
  have n192 : ((b : Int) == 192) = false := by simp; omega
  have n194 : ((b : Int) == 194) = false := by simp; omega
  have n195 : ((b : Int) == 195) = false := by simp; omega
  have n196 : ((b : Int) == 196) = false := by simp; omega
  have n197 : ((b : Int) == 197) = false := by simp; omega
  have n198 : ((b : Int) == 198) = false := by simp; omega
  have n199 : ((b : Int) == 199) = false := by simp; omega
  have n200 : ((b : Int) == 200) = false := by simp; omega
  have n201 : ((b : Int) == 201) = false := by simp; omega
  have n202 : ((b : Int) == 202) = false := by simp; omega
  have n203 : ((b : Int) == 203) = false := by simp; omega
  have n204 : ((b : Int) == 204) = false := by simp; omega
  have n205 : ((b : Int) == 205) = false := by simp; omega
  have n206 : ((b : Int) == 206) = false := by simp; omega
  have n207 : ((b : Int) == 207) = false := by simp; omega
  have n208 : ((b : Int) == 208) = false := by simp; omega
  have n209 : ((b : Int) == 209) = false := by simp; omega
  have n210 : ((b : Int) == 210) = false := by simp; omega
  have n211 : ((b : Int) == 211) = false := by simp; omega
  have n212 : ((b : Int) == 212) = false := by simp; omega
  have n213 : ((b : Int) == 213) = false := by simp; omega
  have n214 : ((b : Int) == 214) = false := by simp; omega
  have n215 : ((b : Int) == 215) = false := by simp; omega
  have n216 : ((b : Int) == 216) = false := by simp; omega
  have n217 : ((b : Int) == 217) = false := by simp; omega
  have n218 : ((b : Int) == 218) = false := by simp; omega
  have n219 : ((b : Int) == 219) = false := by simp; omega
  have n220 : ((b : Int) == 220) = false := by simp; omega
  have n221 : ((b : Int) == 221) = false := by simp; omega
  have n222 : ((b : Int) == 222) = false := by simp; omega
  have n223 : ((b : Int) == 223) = false := by simp; omega
  have hs := hide (bspec_arr b hc hd)
  rw [unhide hs]
  clear hs
  go_enter Try.func19, Try.ntmps19
  go_wp2_with (go_at_call 25; refine (rfixarray_any b hb _).mono ?_; rintro e w1 ⟨rfl, rfl⟩)
  exact bodyPost_ret (v := .agg #[.int .u8 1, .int .i8 ((b : Int) % 16), .int .u8 4, .int .u8 0]) (by simp [results, Try.results19, go_sem]) rfl ⟨rfl, (by repeat (first | with_reducible exact Below.refl _ _ | with_reducible exact x | with_reducible refine Below.alloc ?_ (by first | omega | (simp; omega) | (simp; done)) _ | with_reducible refine Below.setCell ?_ (by first | omega | (simp; omega) | (simp; done)) _ | with_reducible refine Below.drew ?_ | with_reducible refine below_drewN ?_ _))⟩
set_option maxRecDepth 100000 in
set_option maxHeartbeats 1600000 in
theorem calc_hi (b : Nat) (hb : b < 256) (hc : 224 ≤ b) (w : World) : Calls Try.prog 19 #[.int .u8 b] w fun e w' => e = .returned (specV b) ∧ Below w.heap.size w w' := by
  have n192 : ((b : Int) == 192) = false := by simp; omega
  have n194 : ((b : Int) == 194) = false := by simp; omega
  have n195 : ((b : Int) == 195) = false := by simp; omega
  have n196 : ((b : Int) == 196) = false := by simp; omega
  have n197 : ((b : Int) == 197) = false := by simp; omega
  have n198 : ((b : Int) == 198) = false := by simp; omega
  have n199 : ((b : Int) == 199) = false := by simp; omega
  have n200 : ((b : Int) == 200) = false := by simp; omega
  have n201 : ((b : Int) == 201) = false := by simp; omega
  have n202 : ((b : Int) == 202) = false := by simp; omega
  have n203 : ((b : Int) == 203) = false := by simp; omega
  have n204 : ((b : Int) == 204) = false := by simp; omega
  have n205 : ((b : Int) == 205) = false := by simp; omega
  have n206 : ((b : Int) == 206) = false := by simp; omega
  have n207 : ((b : Int) == 207) = false := by simp; omega
  have n208 : ((b : Int) == 208) = false := by simp; omega
  have n209 : ((b : Int) == 209) = false := by simp; omega
  have n210 : ((b : Int) == 210) = false := by simp; omega
  have n211 : ((b : Int) == 211) = false := by simp; omega
  have n212 : ((b : Int) == 212) = false := by simp; omega
  have n213 : ((b : Int) == 213) = false := by simp; omega
  have n214 : ((b : Int) == 214) = false := by simp; omega
  have n215 : ((b : Int) == 215) = false := by simp; omega
  have n216 : ((b : Int) == 216) = false := by simp; omega
  have n217 : ((b : Int) == 217) = false := by simp; omega
  have n218 : ((b : Int) == 218) = false := by simp; omega
  have n219 : ((b : Int) == 219) = false := by simp; omega
  have n220 : ((b : Int) == 220) = false := by simp; omega
  have n221 : ((b : Int) == 221) = false := by simp; omega
  have n222 : ((b : Int) == 222) = false := by simp; omega
  have n223 : ((b : Int) == 223) = false := by simp; omega
  have hs := hide (bspec_hi b hc)
  rw [unhide hs]
  clear hs
  go_enter Try.func19, Try.ntmps19
  go_wp2
  exact bodyPost_ret (v := .agg #[.int .u8 1, .int .i8 0, .int .u8 8, .int .u8 0]) (by simp [results, Try.results19, go_sem]) rfl ⟨rfl, (by repeat (first | with_reducible exact Below.refl _ _ | with_reducible exact x | with_reducible refine Below.alloc ?_ (by first | omega | (simp; omega) | (simp; done)) _ | with_reducible refine Below.setCell ?_ (by first | omega | (simp; omega) | (simp; done)) _ | with_reducible refine Below.drew ?_ | with_reducible refine below_drewN ?_ _))⟩
set_option maxRecDepth 100000 in
set_option maxHeartbeats 400000 in
theorem calc_193 (w : World) : Calls Try.prog 19 #[.int .u8 193] w fun e w' => e = .returned (specV 193) ∧ Below w.heap.size w w' := by
  go_enter Try.func19, Try.ntmps19
  go_wp2
  exact bodyPost_ret (v := .agg #[.int .u8 0, .int .i8 0, .int .u8 0, .int .u8 0]) (by simp [results, Try.results19, go_sem]) rfl ⟨rfl, (by repeat (first | with_reducible exact Below.refl _ _ | with_reducible exact x | with_reducible refine Below.alloc ?_ (by first | omega | (simp; omega) | (simp; done)) _ | with_reducible refine Below.setCell ?_ (by first | omega | (simp; omega) | (simp; done)) _ | with_reducible refine Below.drew ?_ | with_reducible refine below_drewN ?_ _))⟩
theorem calc_any (b : Nat) (hb : b < 256) (w : World) : Calls Try.prog 19 #[.int .u8 b] w fun e w' => e = .returned (specV b) ∧ Below w.heap.size w w' := by
  by_cases h1 : b < 128
  · exact calc_lo b hb h1 w
  by_cases h2 : b < 144
  · exact calc_map b hb (by omega) h2 w
  by_cases h3 : b < 160
  · exact calc_arr b hb (by omega) h3 w
  by_cases h4 : b < 192
  · exact calc_str b hb (by omega) h4 w
  by_cases h5 : 224 ≤ b
  · exact calc_hi b hb h5 w
  by_cases e192 : b = 192
  · subst e192
    exact calc_192 w
  by_cases e193 : b = 193
  · subst e193
    exact calc_193 w
  by_cases e194 : b = 194
  · subst e194
    exact calc_194 w
  by_cases e195 : b = 195
  · subst e195
    exact calc_195 w
  by_cases e196 : b = 196
  · subst e196
    exact calc_196 w
  by_cases e197 : b = 197
  · subst e197
    exact calc_197 w
  by_cases e198 : b = 198
  · subst e198
    exact calc_198 w
  by_cases e199 : b = 199
  · subst e199
    exact calc_199 w
  by_cases e200 : b = 200
  · subst e200
    exact calc_200 w
  by_cases e201 : b = 201
  · subst e201
    exact calc_201 w
  by_cases e202 : b = 202
  · subst e202
    exact calc_202 w
  by_cases e203 : b = 203
  · subst e203
    exact calc_203 w
  by_cases e204 : b = 204
  · subst e204
    exact calc_204 w
  by_cases e205 : b = 205
  · subst e205
    exact calc_205 w
  by_cases e206 : b = 206
  · subst e206
    exact calc_206 w
  by_cases e207 : b = 207
  · subst e207
    exact calc_207 w
  by_cases e208 : b = 208
  · subst e208
    exact calc_208 w
  by_cases e209 : b = 209
  · subst e209
    exact calc_209 w
  by_cases e210 : b = 210
  · subst e210
    exact calc_210 w
  by_cases e211 : b = 211
  · subst e211
    exact calc_211 w
  by_cases e212 : b = 212
  · subst e212
    exact calc_212 w
  by_cases e213 : b = 213
  · subst e213
    exact calc_213 w
  by_cases e214 : b = 214
  · subst e214
    exact calc_214 w
  by_cases e215 : b = 215
  · subst e215
    exact calc_215 w
  by_cases e216 : b = 216
  · subst e216
    exact calc_216 w
  by_cases e217 : b = 217
  · subst e217
    exact calc_217 w
  by_cases e218 : b = 218
  · subst e218
    exact calc_218 w
  by_cases e219 : b = 219
  · subst e219
    exact calc_219 w
  by_cases e220 : b = 220
  · subst e220
    exact calc_220 w
  by_cases e221 : b = 221
  · subst e221
    exact calc_221 w
  by_cases e222 : b = 222
  · subst e222
    exact calc_222 w
  by_cases e223 : b = 223
  · subst e223
    exact calc_223 w
  omega
end Go.Proofs.Ytpmcljjhjjmlfaa
