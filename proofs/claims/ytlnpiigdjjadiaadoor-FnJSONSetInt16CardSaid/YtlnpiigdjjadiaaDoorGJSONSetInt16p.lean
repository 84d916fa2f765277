/-
  spec.ReadJSON of the text of an array of numbers. Conditions: one to 100 numbers of 64 bits.
-/
import Derived.Test.YtlnpiigdjjadiaaDoorGJSONSetInt16o
import Derived.Test.YtlnpiigdjjadiaaDoorGJSONSetInt16c
import Derived.BigRegion
namespace Go.Proofs.YtlnpiigdjjadiaaDoor
set_option linter.unusedSimpArgs false
set_option linter.unusedVariables false
set_option linter.unusedVariables false
open Go.RowKit
/-- An array of numbers was read, and nothing else. -/
def RJPost (n : Nat) (ks : List Int) (w : World) (e : Ending) (w' : World) : Prop :=
  ∃ K kc, e = .returned (.tuple #[.agg #[.int .i64 8, .int .u64 0, .string ⟨#[]⟩, .int .i64 0, .slice K n kc], .bool true]) ∧ w'.ownsRow w.heap.size 29 5 (.slice K n kc) n (ks.flatMap rc) ∧ Below w.heap.size w w'
set_option maxRecDepth 100000 in
set_option maxHeartbeats 3200000 in
theorem readJSON_any (S : ByteArray) (ks : List Int) (n : Nat) (w : World) (hT : S.data.toList = jtext ks) (hne : ks ≠ []) (hn : n = ks.length) (hn2 : n ≤ 100) (hx : ∀ x ∈ ks, Num64 x) :
    Calls Tryd.prog 18 #[.string S] w (RJPost n ks w) := by
  have hz : S.size = (jcat ks).length + 2 := by
    have h : S.data.toList.length = S.size := by simp
    rw [← h, hT]
    simp [jtext]
  have hjl := jcat_len ks (fun x h => by
    have h2 := hx x h
    unfold Lib.itoa
    split
    · have := Lib.nDigits_le20 x.natAbs (by have := h2.1; omega)
      simp only [List.length_cons, Lib.decDigits_length]
      omega
    · have := Lib.nDigits_le20 x.toNat (by have := h2.2; omega)
      rw [Lib.decDigits_length]
      omega)
  have hS : S.size ≤ 1099511627776 := by omega
  have hat : At S 0 (91 :: (jcat ks ++ 93 :: [])) := ⟨Nat.zero_le _, hT⟩
  obtain ⟨hp0, hc0, _⟩ := At.cons hat
  have hval : ∀ (W : World) (g : Nat), JT W g S 0 → Calls Tryd.prog 35 #[.pointer (some ⟨g, 0, none⟩), .int .i64 50] W
      (ValPost S g S.size 8 (fun num K kl kc X => num = 0 ∧ kl = n ∧ X.ownsRow (W.heap.size + 1) 29 5 (.slice K kl kc) n (ks.flatMap rc)) W) := by
    intro W g hJ
    refine value_list S g 0 S.size 50 W hS hJ hp0 (by rw [hc0]; exact ⟨⟨by decide, by decide, by decide, by decide⟩, by decide, by decide, by decide, by decide, by decide⟩) hc0 (by omega) 8 _ (fun num K kl kc X i v h => ⟨h.1, h.2.1, h.2.2.kept (grownSetJ X ⟨W.heap.size, i, none⟩ v) (Or.inr (fun e => by have h2 := (h.2.2.lt _ e).1; revert h2; simp))⟩) (fun X hJX hsz => ?_)
    refine (list_any S g 0 n ks [] 50 X hS hJX hat hne hn hn2 hx (by omega) (by omega)).mono ?_
    rintro e w' ⟨num, K, kl, kc, rfl, hj, h1, h2, h3⟩
    exact ⟨num, K, kl, kc, rfl, by rw [hz]; simpa using hj, h1, h2, own_baseS h3 (by simp at hsz; omega)⟩
  have HVAL := hide hval
  obtain ⟨T, hTT⟩ : ∃ T, T = RJPost n ks w := ⟨_, rfl⟩
  rw [← hTT]
  have HT := hide hTT
  have hJ0 : JT ((w.alloc (.cells #[.int .i64 0, .int .u64 0, .string ⟨#[]⟩, .int .i64 0, .slice none 0 0] 29)).alloc (.cells #[.string S, .int .i64 0, .bool false] 81)) (w.heap.size + 1) S 0 := by
    have h := Blk.new (w.alloc (.cells #[.int .i64 0, .int .u64 0, .string ⟨#[]⟩, .int .i64 0, .slice none 0 0] 29)) 81 #[.string S, .int .i64 0, .bool false]
    simpa [JT] using h
  have HJ0 := hide hJ0
  clear hT hne hn hx hz hjl hat hc0 hval hTT hJ0
  go_enter Tryd.func18, Tryd.ntmps18
  go_wp2_with (first
    | (go_at_call 35; go_loud (refine (unhide HVAL _ _ (unhide HJ0)).mono ?_; rintro e w1 ⟨num, K, kl, kc, rfl, hj, hnum, hkl, hown⟩; have hnum2 := hnum.symm; clear hnum; subst hnum2; have hkl2 := hkl.symm; clear hkl; subst hkl2; have hR1 := Blk.grown (w := (w.alloc (.cells #[.int .i64 0, .int .u64 0, .string ⟨#[]⟩, .int .i64 0, .slice none 0 0] 29)).alloc (.cells #[.string S, .int .i64 0, .bool false] 81)) (Blk.alloc (Blk.new w 29 #[.int .i64 0, .int .u64 0, .string ⟨#[]⟩, .int .i64 0, .slice none 0 0]) _) hj.2 (by intro e; injection e with e; omega); obtain ⟨⟨z0, z1, z2, z3, z4⟩, ⟨y0, y1, y2, y3, y4⟩⟩ := five_cells hR1; have hzl := hR1.lt; have hzg := Blk.lt hj.1; obtain ⟨⟨c0, c1, c2⟩, f0, f1, f2⟩ := hj.1.cells; have HBL := hide (fun (o : Obj) => blank_end S (w.heap.size + 1) S.size (w1.alloc o) hS (Blk.alloc hj.1 o) rfl); have HJ1 := hide hj; have HOWN := hide hown; clear hj hown hR1))
    | (go_at_call 36; go_loud (refine (unhide HBL _).mono ?_; rintro e w2 ⟨rfl, ⟨q2, rfl⟩⟩)))
  have hJ2 : JT ((w1.alloc (.cells #[.int .i64 8, .int .u64 0, .string ⟨#[]⟩, .int .i64 0, .slice K n kc] 29)).drewN q2) (w.heap.size + 1) S S.size := (JT.drewN (Blk.alloc (unhide HJ1).1 _) q2)
  have hR2 : Blk ((w1.alloc (.cells #[.int .i64 8, .int .u64 0, .string ⟨#[]⟩, .int .i64 0, .slice K n kc] 29)).drewN q2) w.heap.size 29 #[.int .i64 0, .int .u64 0, .string ⟨#[]⟩, .int .i64 0, .slice none 0 0] := Blk.drewN (Blk.alloc (Blk.grown (w := (w.alloc (.cells #[.int .i64 0, .int .u64 0, .string ⟨#[]⟩, .int .i64 0, .slice none 0 0] 29)).alloc (.cells #[.string S, .int .i64 0, .bool false] 81)) (Blk.alloc (Blk.new w 29 #[.int .i64 0, .int .u64 0, .string ⟨#[]⟩, .int .i64 0, .slice none 0 0]) _) (unhide HJ1).2 (by intro e; injection e with e; omega)) _) q2
  have hV2 : Blk ((w1.alloc (.cells #[.int .i64 8, .int .u64 0, .string ⟨#[]⟩, .int .i64 0, .slice K n kc] 29)).drewN q2) w1.heap.size 29 #[.int .i64 8, .int .u64 0, .string ⟨#[]⟩, .int .i64 0, .slice K n kc] := Blk.drewN (Blk.new _ _ _) q2
  have hO2 : ((w1.alloc (.cells #[.int .i64 8, .int .u64 0, .string ⟨#[]⟩, .int .i64 0, .slice K n kc] 29)).drewN q2).ownsRow (w.heap.size + 1 + 1 + 1) 29 5 (.slice K n kc) n (ks.flatMap rc) := own_below (own_below (by simpa using unhide HOWN) (by repeat (first | with_reducible exact Below.refl _ _ | with_reducible exact x | with_reducible refine Below.alloc ?_ (by first | omega | (simp; omega) | (simp; done)) _ | with_reducible refine Below.setCell ?_ (by first | omega | (simp; omega) | (simp; done)) _ | with_reducible refine Below.drew ?_ | with_reducible refine below_drewN ?_ _))) (Quiet.below (Quiet.drewN _ q2) (Below.refl _ _))
  have hG2 : Below w.heap.size w ((w1.alloc (.cells #[.int .i64 8, .int .u64 0, .string ⟨#[]⟩, .int .i64 0, .slice K n kc] 29)).drewN q2) := by
    have h1 : Below w.heap.size w ((w.alloc (.cells #[.int .i64 0, .int .u64 0, .string ⟨#[]⟩, .int .i64 0, .slice none 0 0] 29)).alloc (.cells #[.string S, .int .i64 0, .bool false] 81)) := (by repeat (first | with_reducible exact Below.refl _ _ | with_reducible exact x | with_reducible refine Below.alloc ?_ (by first | omega | (simp; omega) | (simp; done)) _ | with_reducible refine Below.setCell ?_ (by first | omega | (simp; omega) | (simp; done)) _ | with_reducible refine Below.drew ?_ | with_reducible refine below_drewN ?_ _))
    have h2 := h1.grown (unhide HJ1).2 (by simp; omega) (fun j hj => by cases hj; omega)
    exact Quiet.below (Quiet.drewN _ q2) (h2.alloc (by omega) _)
  generalize (w1.alloc (.cells #[.int .i64 8, .int .u64 0, .string ⟨#[]⟩, .int .i64 0, .slice K n kc] 29)).drewN q2 = W2 at *
  clear z0 z1 z2 z3 z4 y0 y1 y2 y3 y4 c0 c1 c2 f0 f1 f2
  obtain ⟨⟨c0, c1, c2⟩, f0, f1, f2⟩ := hJ2.cells
  obtain ⟨⟨z0, z1, z2, z3, z4⟩, ⟨y0, y1, y2, y3, y4⟩⟩ := five_cells hR2
  obtain ⟨⟨t0, t1, t2, t3, t4⟩, ⟨v0, v1, v2, v3, v4⟩⟩ := five_cells hV2
  have hzr := hR2.lt
  have HO2 := hide hO2
  have HG2 := hide hG2
  have hne3 : ¬ w1.heap.size = w.heap.size := by omega
  clear hJ2 hR2 hV2 hO2 hG2
  go_region
  all_goals
    go_wp2_with fail
    refine bodyPost_ret (v := .tuple #[.agg #[.int .i64 8, .int .u64 0, .string ⟨#[]⟩, .int .i64 0, .slice K n kc], .bool true]) (by simp [results, Tryd.results18, go_sem, z0, z1, z2, z3, z4, hzr]) rfl ?_
    rw [unhide HT]
    have hset : ∀ (X : World) (i : Nat) (v : Value), (X.ownsRow (w.heap.size + 1 + 1 + 1) 29 5 (.slice K n kc) n (ks.flatMap rc) ∧ Below w.heap.size w X) → ((X.setCell ⟨w.heap.size, i, none⟩ v).ownsRow (w.heap.size + 1 + 1 + 1) 29 5 (.slice K n kc) n (ks.flatMap rc) ∧ Below w.heap.size w (X.setCell ⟨w.heap.size, i, none⟩ v)) := fun X i v h => ⟨h.1.kept (grownSetJ X ⟨w.heap.size, i, none⟩ v) (Or.inr (fun e => by have h2 := (h.1.lt _ e).1; revert h2; simp <;> omega)), Below.setCell h.2 (Nat.le_refl _) v⟩
    have hdrew : ∀ (X : World), (X.ownsRow (w.heap.size + 1 + 1 + 1) 29 5 (.slice K n kc) n (ks.flatMap rc) ∧ Below w.heap.size w X) → (X.drew.ownsRow (w.heap.size + 1 + 1 + 1) 29 5 (.slice K n kc) n (ks.flatMap rc) ∧ Below w.heap.size w X.drew) := fun X h => ⟨own_below h.1 (Below.drew (Below.refl _ _)), Below.drew h.2⟩
    have h0 := And.intro (unhide HO2) (unhide HG2)
    refine ⟨K, kc, rfl, ?_⟩
    refine And.imp_left (fun h => own_baseS h (show w.heap.size ≤ w.heap.size + 1 + 1 + 1 by omega)) ?_
    repeat (first | with_reducible exact h0 | with_reducible refine hset _ _ _ ?_ | with_reducible refine hdrew _ ?_)
end Go.Proofs.YtlnpiigdjjadiaaDoor
