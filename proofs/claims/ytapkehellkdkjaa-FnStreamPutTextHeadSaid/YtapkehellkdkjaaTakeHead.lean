/-
  spec.TakeHead reads the head of a text that stands at the front of bytes. Condition: the head is a text's.
-/
import Derived.Test.YtapkehellkdkjaaPackReadT
import Derived.Test.YtapkehellkdkjaaEncRead
import Derived.Test.YtapkehellkdkjaaMaps2
namespace Go.Proofs.Ytapkehellkdkjaa
set_option linter.unusedSimpArgs false
set_option linter.unusedVariables false
set_option linter.unusedVariables false
open Go.RowKit
theorem builtH (x y : Int) : Try.prog.built 63 [(0, .int .i64 x), (1, .int .i64 y)] = some #[.int .i64 x, .int .i64 y] := by kernel_rfl
theorem zeroH (w : World) : (zeroValue 63).run Try.prog w = .ok (.agg #[.int .i64 0, .int .i64 0]) w := by kernel_rfl
/-- The table of spec.TakeHead: tmp, code, kind, size. -/
def headTab : List (Nat × Int × Int × Int) :=
  [(53, 196, 7, 1), (54, 197, 7, 2), (55, 198, 7, 4), (56, 217, 6, 1), (57, 218, 6, 2), (58, 219, 6, 4), (59, 220, 8, 2), (60, 221, 8, 4), (61, 222, 9, 2), (62, 223, 9, 4)]
/-- A head was read: kind, number, what stands behind. -/
def Headed (S : Nat → Prop) (k : Int) (u : Nat) (zs : List UInt8) (w : World) (e : Ending) (w' : World) : Prop :=
  ∃ A n c, e = .returned (.tuple #[.int .i64 k, .int .u64 u, .slice A n c, .bool true]) ∧ n = zs.length ∧ n ≤ c ∧ c ≤ 9223372036854775807 ∧ RB w' S A zs ∧ Below w.heap.size w w'
set_option maxRecDepth 100000 in
set_option maxHeartbeats 800000 in
theorem takeHead_fix (S : Nat → Prop) (A : Option Addr) (b : UInt8) (zs : List UInt8) (n cap : Nat) (w : World) (hr : RB w S A (b :: zs)) (hn : n = zs.length + 1) (hc : n ≤ cap) (hcap : cap ≤ 9223372036854775807) (hS : Old w S) (h1 : 160 ≤ b.toNat) (h2 : b.toNat < 192) :
    Calls Try.prog 15 #[.slice A n cap] w (Headed S 6 (b.toNat % 32) zs w) := by
  subst hn
  obtain ⟨ad, rfl, hb, hcell⟩ := hr.at_ (k := 0) (by simp)
  simp only [u8, add_zero_, List.getElem_cons_zero] at hcell
  have hcut := hr.cut (k := 1) (cap := cap) (by simp) (by simpa using hc)
  have HCUT := hide hcut
  clear hcut hr
  have h31 := i64_and31 b.toNat (by omega)
  generalize b.toNat = c at *
  have hm : c % 32 < 32 := by omega
  generalize c % 32 = u at *
  have t0 : ((zs.length : Int) + 1 == 0) = false := by simp; omega
  have k1 : (128 : Int) ≤ c := by omega
  have k2 : ¬ (c : Int) < 144 := by omega
  have k3 : (144 : Int) ≤ c := by omega
  have k4 : ¬ (c : Int) < 160 := by omega
  have k5 : (160 : Int) ≤ c := by omega
  have k6 : (c : Int) < 192 := by omega
  go_enter Try.func15, Try.ntmps15
  go_wp2
  go_region
  go_wp2
  refine bodyPost_ret (v := .tuple #[.int .i64 6, .int .u64 u, .slice (cutA (some ad) cap 1 1) (zs.length + 1 - 1) (cap - 1), .bool true]) (by simp [results, Try.results15, go_sem]) rfl ?_
  exact ⟨_, _, _, rfl, by omega, by omega, by omega, (unhide HCUT).keep (by rw [stays_drew]; exact Stays.refl _ _), (Below.refl _ _).drew⟩
set_option maxRecDepth 100000 in
set_option maxHeartbeats 1600000 in
theorem takeHead_tab (k s : Nat) (S : Nat → Prop) (A : Option Addr) (b : UInt8) (bs : List UInt8) (n cap : Nat) (w : World) (hr : RB w S A (b :: bs)) (hn : n = bs.length + 1) (hc : n ≤ cap) (hcap : cap ≤ 9223372036854775807) (hS : Old w S) (h1 : 192 ≤ b.toNat) (hlook : lookV (headTab.map pairV) (b.toNat : Int) = some (.agg #[.int .i64 k, .int .i64 s])) (hs8 : s ≤ 8) (hsn : s ≤ bs.length) :
    Calls Try.prog 15 #[.slice A n cap] w (Headed S k (bigN (bs.take s)) (bs.drop s) w) := by
  subst hn
  obtain ⟨ad, rfl, hb, hcell⟩ := hr.at_ (k := 0) (by simp)
  simp only [u8, add_zero_, List.getElem_cons_zero] at hcell
  have hcut := hr.cut (k := 1) (cap := cap) (by simp) (by simpa using hc)
  rw [show (b :: bs).drop 1 = bs from rfl] at hcut
  have HCUT := hide hcut
  clear hcut hr
  have hlk := fun (w : World) (n : Nat) (hn : w.heap.size = n) => run_lookupV Try.underlying64 Try.underlying3 w (headTab.map pairV) n hn (b.toNat : Int) _ zeroH
  rw [hlook] at hlk
  simp only [Option.getD_some, Option.isSome_some] at hlk
  have hc256 := b.toNat_lt
  clear hlook
  generalize b.toNat = c at *
  have t0 : ((bs.length : Int) + 1 == 0) = false := by simp; omega
  have k1 : (128 : Int) ≤ c := by omega
  have k2 : ¬ (c : Int) < 144 := by omega
  have k3 : (144 : Int) ≤ c := by omega
  have k4 : ¬ (c : Int) < 160 := by omega
  have k5 : (160 : Int) ≤ c := by omega
  have k6 : ¬ (c : Int) < 192 := by omega
  have k7 : (1 : Int) ≤ (bs.length : Int) + 1 := by omega
  go_enter Try.func15, Try.ntmps15
  go_wp2_with (refine wpList_mapLit2 Try.underlying64 Try.underlying3 builtH 20 headTab ?hm ?hl ?hf ?hd ?_; (case hm => simp); (case hl => kernel_rfl); (case hf => kernel_rfl); (case hd => simp [headTab]); generalize mapOfV (headTab.map pairV) = M at *; simp only [List.drop_succ_cons, List.drop_zero, headTab, putPairs, Act.put]; go_simp)
  have s0 : ((w.alloc M).alloc (.cells #[.int .i64 k, .int .i64 s] 63)).cell? ⟨w.heap.size + 1, 0, none⟩ = some (.int .i64 k) := by go_simp
  have s1 : ((w.alloc M).alloc (.cells #[.int .i64 k, .int .i64 s] 63)).cell? ⟨w.heap.size + 1, 1, none⟩ = some (.int .i64 s) := by go_simp
  have hN0 : Blk ((w.alloc M).alloc (.cells #[.int .i64 k, .int .i64 s] 63)) (w.heap.size + 1) 63 #[.int .i64 k, .int .i64 s] := by
    have := Blk.new (w.alloc M) 63 #[.int .i64 k, .int .i64 s]
    simpa using this
  go_region_held3 (fun W => W.cell? ⟨w.heap.size + 1, 0, none⟩ = some (.int .i64 k) ∧ W.cell? ⟨w.heap.size + 1, 1, none⟩ = some (.int .i64 s)) (go_keep)
    ((go_at_call 30; refine (takeBig_ok S _ bs (cap - 1) s _ ((unhide HCUT).keep (by go_simp)) (by omega) (by omega) hsn hs8).mono ?_; rintro e w1 ⟨rfl, hq⟩; have hst : Stays S w w1 := hq.stays (by go_simp); have hb1 : Below w.heap.size w w1 := hq.below (by repeat (first | with_reducible exact Below.refl _ _ | with_reducible exact x | with_reducible refine Below.alloc ?_ (by first | omega | (simp; omega) | (simp; done)) _ | with_reducible refine Below.setCell ?_ (by first | omega | (simp; omega) | (simp; done)) _ | with_reducible refine Below.drew ?_ | with_reducible refine below_drewN ?_ _)); have hB0 : Blk w1 (w.heap.size + 1) 63 #[.int .i64 k, .int .i64 s] := hq.blk (by first | exact hN0 | exact Blk.drew hN0); have q0 : w1.cell? ⟨w.heap.size + 1, 0, none⟩ = some (.int .i64 k) := hB0.cell 0; have q1 : w1.cell? ⟨w.heap.size + 1, 1, none⟩ = some (.int .i64 s) := hB0.cell 1; have HST := hide hst; have HB1 := hide hb1; clear hq hst hb1 hB0))
  all_goals (
    go_wp2
    refine bodyPost_ret (v := .tuple #[.int .i64 k, .int .u64 (bigN (bs.take s)), .slice (cutA (cutA (some ad) cap 1 1) (cap - 1) s 1) (bs.length - s) (cap - 1 - s), .bool true]) (by simp [results, Try.results15, go_sem]) rfl ?_
    exact ⟨_, _, _, rfl, by rw [List.length_drop], by omega, by omega, ((unhide HCUT).cut hsn (by omega)).keep (unhide HST), unhide HB1⟩)
set_option maxRecDepth 100000 in
theorem takeHead_T (x : Int) (h0 : 0 ≤ x) (h32 : x ≤ 4294967295) (S : Nat → Prop) (A : Option Addr) (bs zs : List UInt8) (n cap : Nat) (w : World) (he : bs = encT x ++ zs) (hr : RB w S A bs) (hn : n = bs.length) (hc : n ≤ cap) (hcap : cap ≤ 9223372036854775807) (hS : Old w S) :
    Calls Try.prog 15 #[.slice A n cap] w (Headed S 6 x.toNat zs w) := by
  unfold encT at he
  split at he
  · have hb : (UInt8.ofNat (160 + x).toNat).toNat = 160 + x.toNat := by simp; omega
    have h := takeHead_fix S A (UInt8.ofNat (160 + x).toNat) zs n cap w (by rw [he] at hr; exact hr) (by rw [hn, he]; simp) hc hcap hS (by omega) (by omega)
    rw [hb, show (160 + x.toNat) % 32 = x.toNat by omega] at h
    exact h
  split at he
  · have h := takeHead_tab 6 1 S A 217 (be x 1 ++ zs) n cap w (by rw [he] at hr; exact hr) (by rw [hn, he]; simp) hc hcap hS (by decide) (by kernel_rfl) (by omega) (by rw [List.length_append, be_length]; omega)
    rw [take_bez, drop_bez, bigN_be1, show (x % 256).toNat = x.toNat by omega] at h
    exact h
  split at he
  · have h := takeHead_tab 6 2 S A 218 (be x 2 ++ zs) n cap w (by rw [he] at hr; exact hr) (by rw [hn, he]; simp) hc hcap hS (by decide) (by kernel_rfl) (by omega) (by rw [List.length_append, be_length]; omega)
    rw [take_bez, drop_bez, bigN_be2, show (x % 65536).toNat = x.toNat by omega] at h
    exact h
  · have h := takeHead_tab 6 4 S A 219 (be x 4 ++ zs) n cap w (by rw [he] at hr; exact hr) (by rw [hn, he]; simp) hc hcap hS (by decide) (by kernel_rfl) (by omega) (by rw [List.length_append, be_length]; omega)
    rw [take_bez, drop_bez, bigN_be4, show (x % 4294967296).toNat = x.toNat by omega] at h
    exact h
end Go.Proofs.Ytapkehellkdkjaa
