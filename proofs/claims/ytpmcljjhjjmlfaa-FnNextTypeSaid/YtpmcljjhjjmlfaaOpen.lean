/-
  What the reading of an argument gives a walk: values of MessagePack (impl.Pack), and laws.Given. Conditions: none.
-/
import Derived.Test.YtpmcljjhjjmlfaaProg
import Derived.Test.YtpmcljjhjjmlfaaPackC
import Derived.Test.YtpmcljjhjjmlfaaFitsP
import Derived.Test.YtpmcljjhjjmlfaaRow
import Derived.ChangeArms
import Derived.ChangeOld
import Derived.OpenShut
import Derived.WideShapes
namespace Go.Proofs.Ytpmcljjhjjmlfaa
set_option linter.unusedSimpArgs false
set_option linter.unusedVariables false
set_option linter.unusedVariables false
open Go.RowKit Go.ChangeShapes Go.WideShapes
theorem cof_pack : Try.prog.cellsOf 25 = 5 := by kernel_rfl
theorem cof_int : Try.prog.cellsOf 3 = 1 := by kernel_rfl
theorem cof_u64 : Try.prog.cellsOf 22 = 1 := by kernel_rfl
theorem cof_str : Try.prog.cellsOf 9 = 1 := by kernel_rfl
theorem cof_packs : Try.prog.cellsOf 23 = 1 := by kernel_rfl
theorem PacksC_snoc {w : World} {S : Nat → Prop} : ∀ (ps : List Pack) (xs : List Value) (p : Pack) (c : List Value), PacksC w S ps xs → PackC w S p c → c.length = 5 → PacksC w S (ps ++ [p]) (xs ++ c)
  | [], xs, p, c, h, hp, hl => by
    unfold PacksC at h
    subst h
    simp only [List.nil_append]
    unfold PacksC
    exact ⟨c, [], by simp, hl, hp, by unfold PacksC; rfl⟩
  | q :: ps, xs, p, c, h, hp, hl => by
    unfold PacksC at h
    obtain ⟨d, r, rfl, hd, hq, hr⟩ := h
    simp only [List.cons_append]
    unfold PacksC
    exact ⟨d, r ++ c, by simp, hd, hq, PacksC_snoc ps r p c hr hp hl⟩
theorem WfPs_snoc : ∀ (ps : List Pack) (p : Pack), WfPs ps → WfP p → WfPs (ps ++ [p])
  | [], p, _, h => ⟨h, trivial⟩
  | q :: ps, p, h, hp => by
    unfold WfPs at h
    simp only [List.cons_append]
    unfold WfPs
    exact ⟨h.1, WfPs_snoc ps p h.2 hp⟩
theorem build_kids {w : World} {S : Nat → Prop} {a : Addr} : ∀ len : Nat, (∀ i, i < len → ∃ cs p, w.cells? 0 (a.add (i * 5)) 5 = some cs ∧ PackC w S p cs ∧ WfP p) →
    ∃ ps xs, ps.length = len ∧ xs.length = len * 5 ∧ PacksC w S ps xs ∧ WfPs ps ∧ ∀ j u, xs[j]? = some u → w.cell? (a.add j) = some u
  | 0, _ => ⟨[], [], rfl, rfl, by unfold PacksC; rfl, trivial, fun j u h => by simp at h⟩
  | len + 1, h => by
    obtain ⟨ps, xs, h1, h2, h3, h4, h5⟩ := build_kids len fun i hi => h i (by omega)
    obtain ⟨cs, p, hc, hp, hw⟩ := h len (by omega)
    obtain ⟨_, hl, hcell⟩ := World.cells?_some hc
    refine ⟨ps ++ [p], xs ++ cs, by simp [h1], by rw [List.length_append, h2, hl]; omega, PacksC_snoc ps xs p cs h3 hp hl, WfPs_snoc ps p h4 hw, fun j u hu => ?_⟩
    rcases Nat.lt_or_ge j xs.length with hj | hj
    · rw [List.getElem?_append_left hj] at hu
      exact h5 j u hu
    · rw [List.getElem?_append_right hj] at hu
      have hj2 : j - xs.length < 5 := by
        rcases Nat.lt_or_ge (j - xs.length) 5 with h | h
        · exact h
        · rw [List.getElem?_eq_none (by omega)] at hu
          cases hu
      have h6 := hcell (j - xs.length) hj2
      rw [add_of_add, h2] at h6
      rw [h2] at hu hj
      rw [show len * 5 + (j - len * 5) = j by omega] at h6
      rw [h6]
      exact hu
section
variable {H : Type} {enc : TypeId × Value → H}
set_option maxRecDepth 100000 in
theorem pack_of_trod (W : World) : ∀ (N fuel : Nat) (cs : List Value) (x : DataW H × List MemPlace), fuel ≤ N → DataW.trod enc Try.prog W 0 (fun _ => true) true fuel 25 cs = some x → ∃ p, PackC W (Lt W.heap.size) p cs ∧ WfP p
  | 0, fuel, cs, x, hN, h => by
    obtain rfl : fuel = 0 := by omega
    simp [DataW.trod] at h
  | N + 1, fuel, cs, x, hN, h => by
    obtain ⟨xs, n, rfl, rfl, hl, hlen, hf⟩ := DataW.trod_struct Try.underlying25 h
    rw [cof_pack] at hl
    match cs, hl, xs, hlen with
    | [c0, c1, c2, c3, c4], _, [y0, y1, y2, y3, y4], _ =>
      have f0 : DataW.trod enc Try.prog W 0 (fun _ => true) true n 3 (([c0, c1, c2, c3, c4].drop 0).take (Try.prog.cellsOf 3)) = some y0 := hf 0 _ rfl
      have f1 : DataW.trod enc Try.prog W 0 (fun _ => true) true n 22 (([c0, c1, c2, c3, c4].drop 1).take (Try.prog.cellsOf 22)) = some y1 := hf 1 _ rfl
      have f2 : DataW.trod enc Try.prog W 0 (fun _ => true) true n 9 (([c0, c1, c2, c3, c4].drop 2).take (Try.prog.cellsOf 9)) = some y2 := hf 2 _ rfl
      have f3 : DataW.trod enc Try.prog W 0 (fun _ => true) true n 3 (([c0, c1, c2, c3, c4].drop 3).take (Try.prog.cellsOf 3)) = some y3 := hf 3 _ rfl
      have f4 : DataW.trod enc Try.prog W 0 (fun _ => true) true n 23 (([c0, c1, c2, c3, c4].drop 4).take (Try.prog.cellsOf 23)) = some y4 := hf 4 _ rfl
      simp only [cof_int, cof_u64, cof_str, cof_packs, List.drop_zero, List.drop_succ_cons, List.take_succ_cons, List.take_zero, List.getElem?_cons_zero, List.getElem?_cons_succ] at f0 f1 f2 f3 f4
      obtain ⟨k, e0, _, _⟩ := DataW.trod_int Try.underlying3 f0
      obtain ⟨num, e1, _, hw⟩ := DataW.trod_int Try.underlying22 f1
      obtain ⟨T, e2, _, _⟩ := DataW.trod_string Try.underlying9 f2
      obtain ⟨e, e3, _, _⟩ := DataW.trod_int Try.underlying3 f3
      simp only [List.cons.injEq, and_true] at e0 e1 e2 e3
      subst e0 e1 e2 e3
      have hn : 0 ≤ num ∧ num ≤ 18446744073709551615 := by simpa [Lit.wf, IntKind.min, IntKind.max, IntKind.signed, IntKind.bits] using hw
      obtain ⟨nn, rfl⟩ := Int.eq_ofNat_of_zero_le hn.1
      have hT : Value.string T = .string ⟨T.data.toList.toArray⟩ := by cases T; simp
      rcases DataW.trod_slice Try.underlying23 f4 with ⟨e4, _⟩ | ⟨a, len, cap, elems, rest, m, hm, e4, _, _, hlc, hcm, hel, hat, _⟩
      · simp only [List.cons.injEq, and_true] at e4
        subst e4
        refine ⟨.mk k nn T.data.toList e [], ?_, ?_⟩
        · unfold PackC
          exact ⟨none, 0, [], by rw [hT]; rfl, Nat.le_refl _, Nat.zero_le _, Reads.none_, by unfold PacksC; rfl⟩
        · unfold WfP
          exact ⟨by omega, trivial⟩
      · simp only [List.cons.injEq, and_true] at e4
        subst e4
        rw [cof_pack] at hat
        obtain ⟨ps, xs, h1, h2, h3, h4, h5⟩ := build_kids (w := W) (S := Lt W.heap.size) (a := a) len fun i hi => by
          have hi2 := hat i hi
          rw [List.getElem?_eq_getElem (by omega)] at hi2
          rw [Option.bind_eq_some_iff] at hi2
          obtain ⟨cs, hcs, htr⟩ := hi2
          obtain ⟨p, hp, hwp⟩ := pack_of_trod W N m cs _ (by omega) htr
          exact ⟨cs, p, hcs, hp, hwp⟩
        refine ⟨.mk k nn T.data.toList e ps, ?_, ?_⟩
        · unfold PackC
          refine ⟨some a, cap, xs, by rw [hT, h1], by omega, hcm, ⟨by rw [h2, h1], fun hn => ⟨a, rfl, ?_, h5⟩⟩, h3⟩
          have hx : 0 < xs.length := by omega
          have := h5 0 _ (List.getElem?_eq_getElem hx)
          exact World.block_lt_of_cell? W _ (by simpa [add_zero_] using this)
        · unfold WfP
          exact ⟨by omega, h4⟩
end
end Go.Proofs.Ytpmcljjhjjmlfaa
