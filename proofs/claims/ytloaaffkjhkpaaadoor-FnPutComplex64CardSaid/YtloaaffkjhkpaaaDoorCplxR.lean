/-
  ReadComplex64Bytes and impl.GetComplex64 over ten bytes that begin with 215, 3. Conditions: the data read as bytes.
-/
import Derived.Test.YtloaaffkjhkpaaaDoorPutOut
import Derived.Test.YtloaaffkjhkpaaaDoorBytesR
import Derived.Laws.Externs
import Derived.Deep.RegionWith
import Derived.Deep.RegionHeld3
import Derived.BigRegion
namespace Go.Proofs.YtloaaffkjhkpaaaDoor
set_option linter.unusedSimpArgs false
set_option linter.unusedVariables false
set_option linter.unusedVariables false
open Go.RowKit
theorem rfrom32 (n : Int) (w : World) : (callFunc 10 #[.int .u32 n]).run Tryd.prog w = .ok (.value (.float .f32 n.toNat)) w := by
  rw [run_callFunc_extern (e := Extern.MathFloatBits.float32frombits) Tryd.func10 (by kernel_rfl) (by kernel_rfl) (by kernel_rfl) (by kernel_rfl)]
  rfl
theorem rbits32 (n : Nat) (w : World) : (callFunc 15 #[.float .f32 n]).run Tryd.prog w = .ok (.value (.int .u32 n)) w := by
  rw [run_callFunc_extern (e := Extern.MathFloatBits.float32bits) Tryd.func15 (by kernel_rfl) (by kernel_rfl) (by kernel_rfl) (by kernel_rfl)]
  rfl
set_option maxRecDepth 100000 in
set_option maxHeartbeats 1600000 in
theorem readComplex64_any (S : Nat → Prop) (A : Option Addr) (r : List UInt8) (n c : Nat) (w : World) (hr : RB w S A (215 :: 3 :: r)) (hn : n = r.length + 2) (h8 : r.length = 8) (hc : n ≤ c) (hcm : c ≤ 9223372036854775807) (hS : Old w S) :
    Calls Tryd.prog 14 #[.slice A n c] w fun e w' => ∃ A2, e = .returned (.tuple #[.complex .f32 (bigU (r.take 4)) (bigU ((r.drop 4).take 4)), .slice A2 0 (c - 10), .nilIface]) ∧ Below w.heap.size w w' := by
  have hn10 : n = 10 := by omega
  clear hn
  subst hn10
  obtain ⟨ad, rfl, hb, hc0⟩ := hr.at_ (k := 0) (by simp)
  obtain ⟨ad1, had, _, hc1⟩ := hr.at_ (k := 1) (by simp)
  obtain rfl := Option.some.inj had
  simp only [u8, add_zero_, List.getElem_cons_zero] at hc0
  simp only [u8, List.getElem_cons_succ, List.getElem_cons_zero] at hc1
  have hcut2 := hr.cut (k := 2) (cap := c) (by simp) (by simp [h8]; omega)
  have hcut6 := hr.cut (k := 6) (cap := c) (by simp; omega) (by simp [h8]; omega)
  rw [show (215 :: 3 :: r : List UInt8).drop 2 = r from rfl] at hcut2
  rw [show (215 :: 3 :: r : List UInt8).drop 6 = r.drop 4 from rfl] at hcut6
  have hlt := hS _ hb
  have hU2 := fun (W : World) (hB : Below w.heap.size w W) => beu32_any S (cutA (some ad) c 2 1) r 8 (c - 2) W (by omega) (by omega) (hcut2.keep (stays_below (Stays.refl _ _) hB hS)) (old_below hB hS)
  have hU6 := fun (W : World) (hB : Below w.heap.size w W) => beu32_any S (cutA (some ad) c 6 1) (r.drop 4) 4 (c - 6) W (by rw [List.length_drop]; omega) (by omega) (hcut6.keep (stays_below (Stays.refl _ _) hB hS)) (old_below hB hS)
  generalize bigU (r.take 4) = x at *
  generalize bigU ((r.drop 4).take 4) = y at *
  have HU2 := hide hU2
  have HU6 := hide hU6
  have hfx := rfrom32 (x : Nat)
  have hfy := rfrom32 (y : Nat)
  simp only [Int.toNat_natCast] at hfx hfy
  have e215 : ((215 : UInt8).toNat : Int) = 215 := rfl
  have e3 : ((3 : UInt8).toNat : Int) = 3 := rfl
  rw [e215] at hc0
  rw [e3] at hc1
  replace hc1 : w.cell? ⟨ad.block, ad.off + 1, none⟩ = some (.int .u8 3) := hc1
  clear hU2 hU6 hcut2 hcut6 hr had
  go_enter Tryd.func14, Tryd.ntmps14
  go_wp2
  go_region_held3 (fun _ => True) (trivial) ((go_at_call 22; first | (have h := unhide HB2; go_loud (refine (unhide HU6 _ ?_).mono ?_; (exact (by repeat (first | with_reducible exact Below.refl _ _ | with_reducible exact h | with_reducible refine Below.alloc ?_ (by first | omega | (simp; omega) | (simp; done)) _ | with_reducible refine Below.setCell ?_ (by first | omega | (simp; omega) | (simp; done)) _ | with_reducible refine Below.drew ?_ | with_reducible refine below_drewN ?_ _))); rintro e w3 ⟨rfl, hb3⟩; have HB3 := hide (h.trans (Below.mono (Below.trans (by repeat (first | with_reducible exact Below.refl _ _ | with_reducible exact x | with_reducible refine Below.alloc ?_ (by first | omega | (simp; omega) | (simp; done)) _ | with_reducible refine Below.setCell ?_ (by first | omega | (simp; omega) | (simp; done)) _ | with_reducible refine Below.drew ?_ | with_reducible refine below_drewN ?_ _)) hb3) h.size)); clear hb3 h)) | (go_loud (refine (unhide HU2 _ ?_).mono ?_; (exact (by repeat (first | with_reducible exact Below.refl _ _ | with_reducible exact x | with_reducible refine Below.alloc ?_ (by first | omega | (simp; omega) | (simp; done)) _ | with_reducible refine Below.setCell ?_ (by first | omega | (simp; omega) | (simp; done)) _ | with_reducible refine Below.drew ?_ | with_reducible refine below_drewN ?_ _))); rintro e w2 ⟨rfl, hb2⟩; have HB2 := hide (show Below w.heap.size w w2 from Below.trans (by repeat (first | with_reducible exact Below.refl _ _ | with_reducible exact x | with_reducible refine Below.alloc ?_ (by first | omega | (simp; omega) | (simp; done)) _ | with_reducible refine Below.setCell ?_ (by first | omega | (simp; omega) | (simp; done)) _ | with_reducible refine Below.drew ?_ | with_reducible refine below_drewN ?_ _)) hb2); clear hb2))))
  all_goals (
    go_wp2
    refine bodyPost_ret (v := .tuple #[.complex .f32 x y, .slice (cutA (some ad) c 10 1) 0 (c - 10), .nilIface]) (by simp [results, Tryd.results14, go_sem]) rfl ?_
    exact ⟨_, rfl, unhide HB3⟩)
end Go.Proofs.YtloaaffkjhkpaaaDoor
