/-
  The reference's reader of what stands behind a code from C0 to DF (spec.takeCoded), over contracts of the readers of lists.
-/
import Derived.Test.YtlnpiigdjjadiaaPackRead
namespace Go.Proofs.Ytlnpiigdjjadiaa
set_option linter.unusedSimpArgs false
set_option linter.unusedVariables false
open Go.RowKit
theorem info30 : (Try.prog.info? 31).map (fun i => (i.zero, i.size, i.bytes)) = some (some (.agg #[.int .i64 0, .int .u64 0, .string ByteArray.empty, .int .i64 0, .slice none 0 0]), 5, 64) := by kernel_rfl
def TakesPack (lv : Nat) : Prop := ∀ (lv' : Int) (S : Nat → Prop) (A : Option Addr) (bs : List UInt8) (m cap : Nat) (w : World), lv' = lv → m = bs.length → RB w S A bs → bs.length ≤ cap → cap ≤ 9223372036854775807 → bs.length ≤ 1099511627776 → Old w S →
  Calls Try.prog 17 #[.slice A m cap, .int .i64 lv'] w (Took S w (tPack lv bs))
def TakesKids (lv : Nat) : Prop := ∀ (kind n' lv' : Int) (n : Nat) (S : Nat → Prop) (A : Option Addr) (bs : List UInt8) (m cap : Nat) (w : World), n' = n → lv' = lv + 1 → m = bs.length → RB w S A bs → bs.length ≤ cap → cap ≤ 9223372036854775807 → bs.length ≤ 1099511627776 → Old w S →
  n ≤ 4611686018427387904 → Calls Try.prog 27 #[.int .i64 kind, .int .i64 n', .slice A m cap, .int .i64 lv'] w (Took S w (tList (tPack lv) kind n bs))
theorem takeText_any (kind n' : Int) (n : Nat) (hn' : n' = n) (A : Option Addr) (bs : List UInt8) (m cap : Nat) (S : Nat → Prop) (w : World) (hm : m = bs.length) (hr : RB w S A bs) (hc : bs.length ≤ cap) (hcap : cap ≤ 9223372036854775807) (hS : Old w S) (h64 : n < 18446744073709551616) :
    Calls Try.prog 28 #[.int .i64 kind, .int .u64 n', .slice A m cap] w (Took S w (tText kind n bs)) := by
  subst hm hn'
  by_cases h : bs.length < n
  · rw [tText, if_pos h]
    exact takeText_no kind n A bs.length cap S w (by omega) h h64
  · exact takeText_ok kind n A bs cap S w hr hc hcap hS (by omega)
theorem takeExt_any (n' : Int) (n : Nat) (hn' : n' = n) (A : Option Addr) (bs : List UInt8) (m cap : Nat) (S : Nat → Prop) (w : World) (hm : m = bs.length) (hr : RB w S A bs) (hc : bs.length ≤ cap) (hcap : cap ≤ 9223372036854775807) (hS : Old w S) (h64 : n < 18446744073709551616) :
    Calls Try.prog 46 #[.int .u64 n', .slice A m cap] w (Took S w (tExt n bs)) := by
  subst hm hn'
  rcases bs with _ | ⟨t, bs⟩
  · exact takeExt_no n A 0 cap S w (by omega) (by omega) h64
  · by_cases h : bs.length < n
    · rw [tExt, if_pos h]
      exact takeExt_no n A _ cap S w (by simp at hc ⊢; omega) (by simp; omega) h64
    · exact takeExt_ok n A t bs cap S w hr (by simpa using hc) hcap hS (by omega)
theorem zero2 (w : World) : (zeroValue 3).run Try.prog w = .ok (.int .i64 0) w := by kernel_rfl
theorem look_size : ∀ b : Nat, b < 256 → look codeSizes (b : Int) = codeSize b := by decide +kernel
theorem codeSize_le (b : Nat) (h : b < 256) : codeSize b ≤ 8 := by
  revert b
  decide +kernel
set_option maxRecDepth 100000 in
set_option maxHeartbeats 800000 in
/-- Too few bytes, or the code that is none. -/
theorem takeCoded_no (lv : Int) (b : Nat) (hb : b < 256) (S : Nat → Prop) (A : Option Addr) (len cap : Nat) (w : World) (_hl : len ≤ 9223372036854775807) (hn : len < codeSize b) :
    Calls Try.prog 29 #[.int .i64 b, .slice A len cap, .int .i64 lv] w (Took S w none) := by
  have hlk := fun (w : World) (n : Nat) (hn : w.heap.size = n) => run_lookup_lit Try.underlying78 Try.underlying3 w codeSizes n hn b zero2
  rw [look_size b hb] at hlk
  obtain ⟨cs, hcs⟩ : ∃ cs, cs = codeSize b := ⟨_, rfl⟩
  rw [← hcs] at hlk hn
  clear hcs
  go_enter Try.func29, Try.ntmps29
  go_wp2_with (first
    | (refine wpList_mapLit Try.underlying78 Try.underlying3 23 codeSizes ?hm ?hl ?hf ?_; (case hm => simp); (case hl => kernel_rfl); (case hf => kernel_rfl); simp only [List.drop_succ_cons, List.drop_zero])
    | (go_at_call 45; refine (takeBig_short A len cap cs _ (by omega) (by omega)).mono ?_; rintro e w' ⟨rfl, rfl⟩))
  exact bodyPost_ret (v := .tuple #[packV 0 0 [] 0 none 0 0, .slice none 0 0, .bool false]) (by simp [results, Try.results29, go_sem]) rfl (took_none ((((Below.refl _ _).alloc (Nat.le_refl _) _).alloc (by simp) _).alloc (by simp; omega) _))
end Go.Proofs.Ytlnpiigdjjadiaa
