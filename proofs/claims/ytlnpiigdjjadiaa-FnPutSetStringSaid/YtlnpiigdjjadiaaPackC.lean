/-
  Values of MessagePack in memory (PackC: five cells and the kids' block). No condition.
-/
import Derived.Test.YtlnpiigdjjadiaaWords
import Derived.Test.YtlnpiigdjjadiaaPlain
namespace Go.Proofs.Ytlnpiigdjjadiaa
set_option linter.unusedSimpArgs false
set_option linter.unusedVariables false
open Go.RowKit
mutual
/-- Five cells that are a value of MessagePack; its kids lie in blocks that S takes. -/
def PackC (w : World) (S : Nat → Prop) : Pack → List Value → Prop
  | .mk kind num text ext kids, cs => ∃ A cap xs, cs = [.int .i64 kind, .int .u64 num, .string ⟨text.toArray⟩, .int .i64 ext, .slice A kids.length cap] ∧
      kids.length ≤ cap ∧ cap ≤ maxLen ∧ Reads w S 5 A kids.length xs ∧ PacksC w S kids xs
def PacksC (w : World) (S : Nat → Prop) : List Pack → List Value → Prop
  | [], xs => xs = []
  | p :: ps, xs => ∃ c r, xs = c ++ r ∧ c.length = 5 ∧ PackC w S p c ∧ PacksC w S ps r
end
mutual
theorem PackC.keep {w w' : World} {S : Nat → Prop} (hk : Stays S w w') : ∀ (p : Pack) (cs : List Value), PackC w S p cs → PackC w' S p cs
  | .mk kind num text ext kids, cs, h => by
    unfold PackC at h ⊢
    obtain ⟨A, cap, xs, h1, h2, h3, h4, h5⟩ := h
    exact ⟨A, cap, xs, h1, h2, h3, h4.keep hk, PacksC.keep hk kids xs h5⟩
theorem PacksC.keep {w w' : World} {S : Nat → Prop} (hk : Stays S w w') : ∀ (ps : List Pack) (cs : List Value), PacksC w S ps cs → PacksC w' S ps cs
  | [], cs, h => h
  | p :: ps, cs, h => by
    unfold PacksC at h ⊢
    obtain ⟨c, r, h1, h2, h3, h4⟩ := h
    exact ⟨c, r, h1, h2, PackC.keep hk p c h3, PacksC.keep hk ps r h4⟩
end
mutual
theorem PackC.sub {w : World} {S T : Nat → Prop} (hk : ∀ b, S b → T b) : ∀ (p : Pack) (cs : List Value), PackC w S p cs → PackC w T p cs
  | .mk kind num text ext kids, cs, h => by
    unfold PackC at h ⊢
    obtain ⟨A, cap, xs, h1, h2, h3, h4, h5⟩ := h
    exact ⟨A, cap, xs, h1, h2, h3, h4.sub hk, PacksC.sub hk kids xs h5⟩
theorem PacksC.sub {w : World} {S T : Nat → Prop} (hk : ∀ b, S b → T b) : ∀ (ps : List Pack) (cs : List Value), PacksC w S ps cs → PacksC w T ps cs
  | [], cs, h => h
  | p :: ps, cs, h => by
    unfold PacksC at h ⊢
    obtain ⟨c, r, h1, h2, h3, h4⟩ := h
    exact ⟨c, r, h1, h2, PackC.sub hk p c h3, PacksC.sub hk ps r h4⟩
end
theorem PackC.flat (w : World) (S : Nat → Prop) (kind : Int) (num : Nat) (text : List UInt8) (ext : Int) :
    PackC w S (.mk kind num text ext []) [.int .i64 kind, .int .u64 num, .string ⟨text.toArray⟩, .int .i64 ext, .slice none 0 0] := by
  unfold PackC
  exact ⟨none, 0, [], rfl, Nat.le_refl _, Nat.zero_le _, Reads.none_, by unfold PacksC; rfl⟩
/-- A struct impl.Pack by value. -/
abbrev packV (kind : Int) (num : Nat) (text : List UInt8) (ext : Int) (K : Option Addr) (kl kc : Nat) : Value := .agg #[.int .i64 kind, .int .u64 num, .string ⟨text.toArray⟩, .int .i64 ext, .slice K kl kc]
def Pack.kind : Pack → Int | .mk k _ _ _ _ => k
def Pack.num : Pack → Nat | .mk _ n _ _ _ => n
def Pack.kids : Pack → List Pack | .mk _ _ _ _ ks => ks
theorem PacksC.at_ {w : World} {S : Nat → Prop} : ∀ (ps : List Pack) (xs : List Value), PacksC w S ps xs → ∀ (k : Nat) (hk : k < ps.length), ∃ c0 c1 c2 c3 c4, (∀ j u, [c0, c1, c2, c3, c4][j]? = some u → xs[k * 5 + j]? = some u) ∧ PackC w S ps[k] [c0, c1, c2, c3, c4]
  | [], _, _, k, hk => by simp at hk
  | p :: ps, xs, h, k, hk => by
    unfold PacksC at h
    obtain ⟨c, r, rfl, hl, hp, hr⟩ := h
    match c, hl with
    | [c0, c1, c2, c3, c4], _ =>
      rcases k with _ | k
      · refine ⟨c0, c1, c2, c3, c4, fun j u hu => ?_, hp⟩
        have hj : j < 5 := by
          rcases Nat.lt_or_ge j 5 with h | h
          · exact h
          · rw [List.getElem?_eq_none (by simpa using h)] at hu
            cases hu
        rw [List.getElem?_append_left (by simp; omega)]
        simpa using hu
      · obtain ⟨d0, d1, d2, d3, d4, h1, h2⟩ := PacksC.at_ ps r hr k (by simpa using hk)
        refine ⟨d0, d1, d2, d3, d4, fun j u hu => ?_, h2⟩
        rw [List.getElem?_append_right (by simp; omega)]
        have := h1 j u hu
        rw [show (k + 1) * 5 + j - [c0, c1, c2, c3, c4].length = k * 5 + j by simp; omega]
        exact this
theorem sizeOf_mem : ∀ (ps : List Pack) (p : Pack), p ∈ ps → SizeOf.sizeOf p < SizeOf.sizeOf ps
  | [], p, h => by simp at h
  | q :: qs, p, hp => by
    rcases List.mem_cons.1 hp with rfl | hp
    · simp
      omega
    · have := sizeOf_mem qs p hp
      simp
      omega
end Go.Proofs.Ytlnpiigdjjadiaa
