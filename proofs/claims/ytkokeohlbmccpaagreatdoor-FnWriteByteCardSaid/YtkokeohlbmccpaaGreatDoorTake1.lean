/-
  spec.takeBig, spec.kindOf, spec.asciiOnly compute their plain functions. Conditions: the data read as bytes.
-/
import Derived.Test.YtkokeohlbmccpaaGreatDoorProg
import Derived.Test.YtkokeohlbmccpaaGreatDoorAval
import Derived.Test.YtkokeohlbmccpaaGreatDoorMaps2
import Derived.BigQuiet
import Derived.Deep.QuietTactic
namespace Go.Proofs.YtkokeohlbmccpaaGreatDoor
set_option linter.unusedSimpArgs false
set_option linter.unusedVariables false
open Go.RowKit
theorem or_byteA (a b : Nat) (ha : a < 72057594037927936) (hb : b < 256) : bits BinOp.or IntKind.u64 ((a : Int) * 256) (b : Int) = ((a * 256 + b : Nat) : Int) := by
  have h := u64_or_nat (a * 256) b (by omega) (by omega)
  have e : ((a * 256 : Nat) : Int) = (a : Int) * 256 := by omega
  rw [e] at h
  rw [h, Nat.mul_comm, show (256 : Nat) = 2 ^ 8 from rfl, Nat.two_pow_add_eq_or_of_lt (i := 8) (by omega)]
set_option maxHeartbeats 400000 in
theorem takeBig_short (A : Option Addr) (n cap : Nat) (s : Int) (w : World) (_hn : n ≤ 9223372036854775807) (h : (n : Int) < s) :
    Calls Tryz.prog 58 #[.slice A n cap, .int .i64 s] w fun e w' => e = .returned (.tuple #[.int .u64 0, .slice none 0 0, .bool false]) ∧ w = w' := by
  go_enter Tryz.func58, Tryz.ntmps58
  go_wp2
  go_ret3
  exact ⟨rfl, rfl⟩
set_option maxHeartbeats 400000 in
theorem takeBig_ok (S : Nat → Prop) (A : Option Addr) (bs : List UInt8) (cap s : Nat) (w : World) (hr : RB w S A bs) (_hc : bs.length ≤ cap) (_hcap : cap ≤ 9223372036854775807)
    (hs : s ≤ bs.length) (h8 : s ≤ 8) :
    Calls Tryz.prog 58 #[.slice A bs.length cap, .int .i64 s] w fun e w' => e = .returned (.tuple #[.int .u64 (bigA (bs.take s)), .slice (cutA A cap s 1) (bs.length - s) (cap - s), .bool true]) ∧ Quiet w w' := by
  go_enter Tryz.func58, Tryz.ntmps58
  go_wp2
  go_loop [7, 18] (fun u i => ∃ k : Nat, k ≤ s ∧ i = .int .i64 k ∧ u = .int .u64 (bigA (bs.take k))) (fun _ i => s - (intOf i).toNat)
  case atStart => exact ⟨0, Nat.zero_le _, rfl, rfl⟩
  case round =>
    obtain ⟨k, hk, rfl, rfl⟩ := hrel
    by_cases hlt : k < s
    · obtain ⟨ad, rfl, hb, hc⟩ := hr.at_ (show k < bs.length by omega)
      unfold u8 at hc
      have hb := UInt8.toNat_lt bs[k]
      have hN := bigA_lt7 bs k (by omega)
      go_wp2
      go_round
      case rel => exact ⟨k + 1, by omega, by go_num, by rw [bigA_take bs k (by omega), or_byteA _ _ hN hb]⟩
      case measure => simp [intOf]; omega
    · obtain rfl : k = s := by omega
      go_wp2
      go_quiet (fail)
      go_wp2
      go_ret3
      exact ⟨rfl, _, rfl⟩
theorem built99 (x y : Int) : Tryz.prog.built 193 [(0, .int .i64 x), (1, .int .i64 y)] = some #[.int .i64 x, .int .i64 y] := by kernel_rfl
theorem zero99 (w : World) : (zeroValue 193).run Tryz.prog w = .ok (.agg #[.int .i64 0, .int .i64 0]) w := by kernel_rfl
def kRes (c : Nat) : Int × Int × Bool := match kOf c with
  | some (k, s) => (k, s, true)
  | none => (0, 0, false)
def lookP : List (Nat × Int × Int × Int) → Int → Option (Int × Int)
  | [], _ => none
  | p :: r, x => if x = p.2.1 then some (p.2.2.1, p.2.2.2) else lookP r x
theorem lookV_map (l : List (Nat × Int × Int × Int)) (x : Int) : lookV (l.map pairV) x = (lookP l x).map fun p => .agg #[.int .i64 p.1, .int .i64 p.2] := by
  induction l with
  | nil => rfl
  | cons p l ih =>
    simp only [List.map_cons, lookP]
    unfold lookV pairV
    simp only
    split
    · rfl
    · exact ih
theorem lookP_kinds : ∀ c : Nat, c < 256 → lookP kindTab (c : Int) = (kOf c).map fun p => ((p.1 : Int), (p.2 : Int)) := by decide +kernel
theorem kLook (c : Nat) (h : c < 256) : (lookV (kindTab.map pairV) (c : Int)).getD (.agg #[.int .i64 0, .int .i64 0]) = .agg #[.int .i64 (kRes c).1, .int .i64 (kRes c).2.1] ∧ (lookV (kindTab.map pairV) (c : Int)).isSome = (kRes c).2.2 := by
  rw [lookV_map, lookP_kinds c h]
  unfold kRes
  cases kOf c <;> simp
set_option maxRecDepth 100000 in
set_option maxHeartbeats 1600000 in
theorem kindOf_any (c : Nat) (hc : c < 256) (w : World) :
    Calls Tryz.prog 57 #[.int .i64 c] w fun e w' => e = .returned (.tuple #[.int .i64 (kRes c).1, .int .i64 (kRes c).2.1, .bool (kRes c).2.2]) ∧ Below w.heap.size w w' := by
  have hlk := fun (w : World) (n : Nat) (hn : w.heap.size = n) => run_lookupV Tryz.underlying194 Tryz.underlying3 w (kindTab.map pairV) n hn c _ zero99
  rw [(kLook c hc).1, (kLook c hc).2] at hlk
  generalize kRes c = r at *
  obtain ⟨k, s, b⟩ := r
  simp only at hlk ⊢
  go_enter Tryz.func57, Tryz.ntmps57
  go_step
  go_step
  go_step
  go_step
  go_step
  go_step
  go_step
  go_step
  go_step
  go_step
  go_step
  go_step
  go_step
  go_step
  go_step
  go_step
  refine wp_region_lit ?_
  simp only [List.append]
  refine wpList_mapLit2 Tryz.underlying194 Tryz.underlying3 built99 78 kindTab ?hm ?hl ?hf ?hd ?_
  case hm => simp
  case hl => kernel_rfl
  case hf => kernel_rfl
  case hd => simp [kindTab]
  generalize mapOfV (kindTab.map pairV) = M at *
  simp only [List.drop_succ_cons, List.drop_zero, kindTab, putPairs, Act.put]
  go_simp
  go_wp2
  go_quiet (fail)
  go_wp2
  go_ret3
  exact ⟨rfl, below_drewN (((Below.refl _ _).alloc (Nat.le_refl _) _).alloc (by simp) _) _⟩
set_option maxHeartbeats 400000 in
theorem asciiOnly_any (s : List UInt8) (hs : s.length ≤ 9223372036854775807) (w : World) :
    Calls Tryz.prog 61 #[.string ⟨s.toArray⟩] w fun e w' => e = .returned (.bool (asciiB s)) ∧ w = w' := by
  have hz : (⟨s.toArray⟩ : ByteArray).size = s.length := by simp [ByteArray.size]
  obtain ⟨S, hS⟩ : ∃ S : ByteArray, S = ⟨s.toArray⟩ := ⟨_, rfl⟩
  rw [← hS] at hz ⊢
  have HS := hide hS
  clear hS
  have hz' : S.size ≤ 9223372036854775807 := by omega
  have HZ := hide hz
  clear hz
  go_enter Tryz.func61, Tryz.ntmps61
  go_wp2
  go_loop [3] (fun i => ∃ k : Nat, k ≤ S.size ∧ i = .int .i64 k ∧ Hid (asciiB (s.take k) = true)) (fun i => S.size - (intOf i).toNat)
  case atStart => exact ⟨0, Nat.zero_le _, rfl, hide rfl⟩
  case round =>
    obtain ⟨k, hk, rfl, ha⟩ := hrel
    by_cases hlt : k < S.size
    · have hv := UInt8.toNat_lt S[k]
      have hkl : k < s.length := by have := unhide HZ; omega
      have hgk : S[k] = s[k] := by have := unhide HS; subst this; rfl
      have hsn : asciiB (s.take (k + 1)) = (asciiB (s.take k) && decide (s[k].toNat < 128)) := by
        unfold asciiB
        rw [List.take_succ_eq_append_getElem hkl, List.all_append]
        simp only [List.all_cons, List.all_nil, Bool.and_true]
      have HN := hide hsn
      have HG := hide hgk
      clear hsn hgk
      by_cases hb : S[k].toNat < 128
      · have hb' : ¬ (128 : Int) ≤ (S[k].toNat : Int) := by omega
        go_wp2
        go_round
        case rel => exact ⟨k + 1, by omega, by go_num, hide (by rw [unhide HN, unhide ha, ← unhide HG]; simp [hb])⟩
        case measure => simp [intOf]; omega
      · have hb' : (128 : Int) ≤ (S[k].toNat : Int) := by omega
        have hf : asciiB s = false := by
          unfold asciiB
          rw [List.all_eq_false]
          exact ⟨s[k], List.getElem_mem hkl, by have := unhide HG; rw [← this]; simp; omega⟩
        have HF := hide hf
        clear hf
        go_wp2
        go_ret
        exact ⟨by rw [unhide HF]; rfl, rfl⟩
    · obtain rfl : k = S.size := by omega
      have hfin : asciiB s = true := by
        have := unhide ha
        rwa [unhide HZ, List.take_length] at this
      have HF := hide hfin
      clear hfin
      go_wp2
      go_ret
      exact ⟨by rw [unhide HF]; rfl, rfl⟩
end Go.Proofs.YtkokeohlbmccpaaGreatDoor
