/-
  laws.headsWritten of maps: heads written one behind the other, in whatever forms. Conditions: at most 100.
-/
import Derived.Test.YtpadbpmnejgckaaDoorHead
import Derived.Test.YtpadbpmnejgckaaDoorEncsP
import Derived.Test.YtpadbpmnejgckaaDoorPutPack1
import Derived.Test.YtpadbpmnejgckaaDoorAllWr
import Derived.Test.YtpadbpmnejgckaaDoorRdM
namespace Go.Proofs.YtpadbpmnejgckaaDoor
set_option linter.unusedSimpArgs false
set_option linter.unusedVariables false
set_option linter.unusedVariables false
open Go.RowKit
def HeadsRel (ns : List Nat) (w wr : World) (o i : Value) : Prop :=
  ∃ (k : Nat) (A : Option Addr) (c : Nat) (bs : List UInt8), k ≤ ns.length ∧ i = .int .i64 k ∧ o = .slice A bs.length c ∧ wr.ownsRow (w.heap.size + 1) 5 1 (.slice A bs.length c) bs.length (bs.map u8) ∧ EncsP encMapH (ns.take k) bs ∧ FormsAt wr w.heap.size ∧ Below w.heap.size w wr
theorem encMapH_len (n : Nat) (a : List UInt8) (h : encMapH n a) : a.length ≤ 9 := (HeadIs_len h.2).2
set_option maxRecDepth 100000 in
set_option maxHeartbeats 3200000 in
theorem headsWritten_9 (ns : List Nat) (K : Option Addr) (m kc fm : Nat) (S : Nat → Prop) (w : World) (hm : m = ns.length) (hm2 : m ≤ 100) (hfm : fm < 18446744073709551616) (hS : Old w S) (hr : Reads w S 1 K m (ns.map fun n : Nat => Value.int .u32 (n : Int))) (hn : ∀ n ∈ ns, n < 4294967296) :
    Calls Tryd.prog 31 #[.int .i64 9, .slice K m kc, .int .u64 fm] w (WrOut (EncsP encMapH ns) w) := by
  obtain ⟨i0, hi0, hz0, hz1', hz2⟩ := info_parts infoB
  have HM := hide hm
  have HR := hide hr
  have HN := hide hn
  obtain ⟨T, hT⟩ : ∃ T, T = WrOut (EncsP encMapH ns) w := ⟨_, rfl⟩
  rw [← hT]
  have HT := hide hT
  clear hm hr hn hT
  go_enter Tryd.func31, Tryd.ntmps31
  go_wp2
  go_loopw [8, 16] (fun o i wr => HeadsRel ns w wr o i) (fun _ i _ => m - (intOf i).toNat)
  case atStart => exact ⟨0, none, 0, [], Nat.zero_le _, rfl, rfl, World.ownsRow_nil _ _ _ _, rfl, ⟨fm, false, hfm, Blk.new _ _ _⟩, (by repeat (first | with_reducible exact Below.refl _ _ | with_reducible exact x | with_reducible refine Below.alloc ?_ (by first | omega | (simp; omega) | (simp; done)) _ | with_reducible refine Below.setCell ?_ (by first | omega | (simp; omega) | (simp; done)) _ | with_reducible refine Below.drew ?_ | with_reducible refine below_drewN ?_ _))⟩
  case round =>
    obtain ⟨k, A, c, bs, hk, rfl, rfl, hown, hwr, hF, hbel⟩ := hrel
    have hmx := unhide HM
    have hlen : bs.length ≤ 900 := by
      have h1 := EncsP.len 9 encMapH_len _ bs hwr
      rw [List.length_take] at h1
      omega
    by_cases hlt : k < m
    · have hkx : k < ns.length := by omega
      obtain ⟨l, hl⟩ : ∃ l, l = bs.length := ⟨_, rfl⟩
      obtain ⟨_, _, hv, hcv, hcmv, _⟩ := own_slice hown
      obtain ⟨rfl, _, rfl⟩ := Value.slice.inj hv
      rw [← hl] at hown hlen hcv hv ⊢
      obtain ⟨ad, u, rfl, hSb, hu, hcell0⟩ := (unhide HR).at_ hlt
      rw [List.getElem?_map, List.getElem?_eq_getElem hkx] at hu
      obtain rfl := Option.some.inj hu
      have l0 := hS _ hSb
      have hcell : wr.cell? (ad.add k) = some (.int .u32 (ns[k] : Int)) := (World.cell?_of_block (hbel.block _ (by rw [block_of_add]; exact l0))).trans hcell0
      have hsnoc : ∀ b, encMapH ns[k] b → EncsP encMapH (ns.take (k + 1)) (bs ++ b) := fun b hb => by rw [List.take_succ_eq_append_getElem hkx]; exact EncsP.snoc _ _ _ _ hwr hb
      have hnk := unhide HN ns[k] (List.getElem_mem hkx)
      generalize ns[k] = x at *
      have hzr := hbel.size
      have hF0 := hF.lt
      have HSN := hide hsnoc
      have HL := hide hl
      have HOWN := hide hown
      have HBEL := hide hbel
      have HFR := hide hF
      have hlt2 : (k : Int) < (m : Int) := by omega
      have hk0 : (0 : Int) ≤ (k : Int) := by omega
      unfold maxLen at hcmv
      clear hown hbel hF hsnoc hl hwr hmx hv hu hcell0
      go_wp2_with (first
        | (go_at_call 66; go_loud (refine (putHead_9 w.heap.size x _ ((unhide HFR).below (Below.refl _ _) (unhide HFR).lt) hnk).mono ?_; rintro e5 w5 ⟨v5, b5, hP5, rfl, hown5, hg5, hF5⟩; obtain ⟨A5, c5, rfl, hc5, hcm5, hr5⟩ := own_slice hown5; have hG5 : wr.grownBy w5 (some w.heap.size) := hg5; have hO5 := own_kept_old (unhide HOWN) hG5 (Nat.lt_succ_self _); have hlb5 := (HeadIs_len hP5).2; have hz5 := hG5.size; have HG5 := hide hG5; have HO5 := hide hO5; have HR5 := hide hr5; have HF5 := hide hF5; have HP5 := hide (show encMapH x b5 from ⟨hnk, hP5⟩); unfold maxLen at hcm5; clear hown5 hg5 hF5 hr5 hP5 hG5 hO5))
        | (at_builtin; go_loud (refine wpList_append_any (S := fun _ => True) _ rfl _ _ 26 rfl (w.heap.size + 1) 5 i0 _ 1 1 Tryd.underlying26 hi0 hz0 hz1' hz2 rfl (by omega) (.slice A l c) l (bs.map Go.Proofs.YtpadbpmnejgckaaDoor.u8) rfl (unhide HO5) A5 b5.length c5 (b5.map Go.Proofs.YtpadbpmnejgckaaDoor.u8) rfl ((unhide HR5).sub (fun _ _ => trivial)) (u8_one _) (by unfold maxLen; omega) (by omega) (by omega) ?_; intro v6 w6 hown6 hgr6 hat6; obtain ⟨A6, c6, rfl, _, _, _⟩ := own_slice hown6; have HO6 := hide hown6; have HG6 := hide hgr6; clear hown6 hgr6 hat6)))
      go_roundw
      case rel =>
        have hfar : ∀ j, (Value.slice A l c).ownBlock = some j → w.heap.size + 1 ≤ j := fun j hj => (own_ge' (unhide HOWN) j hj).1
        have hF6 := (unhide HF5).grown (unhide HG6) (fun h => by have := hfar _ h.symm; omega)
        have hb5 : Below w.heap.size w w5 := (unhide HBEL).grown (unhide HG5) (unhide HBEL).size (fun j hj => by injection hj with hj; omega)
        have hb6 : Below w.heap.size w w6 := hb5.grown (unhide HG6) hb5.size (fun j hj => by have := hfar j hj; omega)
        refine ⟨k + 1, A6, c6, bs ++ b5, hkx, by go_num, by rw [List.length_append, ← unhide HL], ?_, unhide HSN b5 (unhide HP5), hF6, hb6⟩
        rw [List.length_append, List.map_append, ← unhide HL]
        exact unhide HO6
      case measure => simp [intOf]; omega
    · obtain rfl : k = m := by omega
      have hlt2 : ¬ (k : Int) < (k : Int) := by omega
      have hall : ns.take k = ns := List.take_of_length_le (by omega)
      rw [hall] at hwr
      obtain ⟨A', c', hv, hkc, hkm, hRk⟩ := own_slice hown
      obtain ⟨rfl, _, rfl⟩ := Value.slice.inj hv
      have HRK := hide hRk
      have HB2 := hide hbel
      have HWR := hide hwr
      obtain ⟨L, hL⟩ : ∃ L, L = bs.length := ⟨_, rfl⟩
      rw [← hL]
      have HL := hide hL
      clear hmx hall hown hwr hF hbel hRk hv hL hlen
      go_wp2_with fail
      rw [unhide HT, unhide HL]
      exact ⟨A, c, bs, unhide HWR, rfl, hkc, hkm, (unhide HRK).sub (fun b hb => ⟨by have h1 := hb.1; omega, hb.2⟩), unhide HB2⟩
end Go.Proofs.YtpadbpmnejgckaaDoor
