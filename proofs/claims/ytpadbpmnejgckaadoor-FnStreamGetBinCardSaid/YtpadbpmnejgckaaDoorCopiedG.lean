/-
  impl.copied: bytes of their own. Conditions: at most 2^46 bytes. And: a number of so many bytes is below 256 to that.
-/
import Derived.Test.YtpadbpmnejgckaaDoorForms
import Derived.Test.YtpadbpmnejgckaaDoorBytesR
namespace Go.Proofs.YtpadbpmnejgckaaDoor
set_option linter.unusedSimpArgs false
set_option linter.unusedVariables false
open Go.RowKit
/-- The blocks that w' has and w has not. -/
def Made (w w' : World) : Nat → Prop := fun b => w.heap.size ≤ b ∧ b < w'.heap.size
theorem bigU_snoc (bs : List UInt8) (b : UInt8) : bigU (bs ++ [b]) = bigU bs * 256 + b.toNat := by simp [bigU]
theorem bigU_lt (bs : List UInt8) : bigU bs < 256 ^ bs.length := by
  have key : ∀ k, k ≤ bs.length → bigU (bs.take k) < 256 ^ k := by
    intro k
    induction k with
    | zero => intro _; simp [bigU]
    | succ k ih =>
      intro h
      have h1 := ih (by omega)
      rw [List.take_succ_eq_append_getElem (by omega), bigU_snoc, Nat.pow_succ]
      have := bs[k].toNat_lt
      omega
  have := key bs.length (Nat.le_refl _)
  rwa [List.take_length] at this
set_option maxHeartbeats 400000 in
theorem copied_any (S : Nat → Prop) (A : Option Addr) (bs : List UInt8) (n cap : Nat) (w : World) (hn : n = bs.length) (hr : RB w S A bs) (hS : Old w S) (hlen : bs.length ≤ 70368744177664) :
    Calls Tryd.prog 45 #[.slice A n cap] w fun e w' => ∃ v, e = .returned v ∧ w'.ownsRow w.heap.size 5 1 v bs.length (bs.map u8) ∧ Below w.heap.size w w' := by
  subst hn
  go_enter Tryd.func45, Tryd.ntmps45
  go_wp2_with (at_builtin; obtain ⟨i0, hi0, hz0, hz1', hz2⟩ := info_parts infoB; refine wpList_append_any (S := S) _ rfl (.tmp 3) (.tmp 4) _ rfl w.heap.size 5 i0 _ 1 1 Tryd.underlying26 hi0 hz0 hz1' hz2 ?x1 ?x2 (.slice (some ⟨w.heap.size, 0, none⟩) 0 0) 0 [] ?x3 ?x8 A bs.length cap (bs.map u8) ?x4 ?x5 (u8_one bs) ?c3 ?x7 ?c4 ?_; (case x1 => rfl); (case x2 => omega); (case x3 => rfl); (case x4 => rfl); (case x5 => exact hr.keep (by go_simp)); (case x7 => omega); (case x8 => exact World.ownsRow_made w #[] 0 (Nat.le_refl _) (Nat.zero_le _) rfl); (case c3 => unfold maxLen; omega); (case c4 => simp); clear hi0 hz0 hz1' hz2; intro v1 w1 hown hgrow hat)
  go_ret
  refine ⟨v1, rfl, by simpa using hown, ?_⟩
  exact ((by repeat (first | with_reducible exact Below.refl _ _ | with_reducible exact x | with_reducible refine Below.alloc ?_ (by first | omega | (simp; omega) | (simp; done)) _ | with_reducible refine Below.setCell ?_ (by first | omega | (simp; omega) | (simp; done)) _ | with_reducible refine Below.drew ?_ | with_reducible refine below_drewN ?_ _)) : Below w.heap.size w (w.alloc _)).grown hgrow (by simp) (fun k hk => by simp [Value.ownBlock] at hk; omega)
end Go.Proofs.YtpadbpmnejgckaaDoor
