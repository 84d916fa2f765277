/-
  impl.taking at the closure of impl.StreamGetBin: values that stand one behind the other are read. Conditions: at most 100 values, a buffer of 18 to 65536 bytes.
-/
import Derived.Test.YtpadbpmnejgckaaDoorRdB
import Derived.Test.YtpadbpmnejgckaaDoorTkS
namespace Go.Proofs.YtpadbpmnejgckaaDoor
set_option linter.unusedSimpArgs false
set_option linter.unusedVariables false
set_option linter.unusedVariables false
open Go.RowKit
theorem info_tk_StreamGetBin : (Tryd.prog.info? 9).map (fun i => (i.zero, i.size, i.bytes)) = some (some (.string ⟨#[]⟩), 1, 16) := by kernel_rfl
abbrev mk_StreamGetBin : List UInt8 → Value := fun x : List UInt8 => Value.string ⟨x.toArray⟩
/-- What a reader of a list answers. -/
def Taken_StreamGetBin (xs : List (List UInt8)) (w : World) (e : Ending) (w' : World) : Prop :=
  ∃ A c, e = .returned (.tuple #[.slice A xs.length c, .bool true]) ∧ xs.length ≤ c ∧ c ≤ maxLen ∧ Reads w' (fun b => w.heap.size ≤ b ∧ b < w'.heap.size) 1 A xs.length (xs.map mk_StreamGetBin) ∧ Below w.heap.size w w'
def TkRel_StreamGetBin (d s m z : Nat) (ck : Int) (xs : List (List UInt8)) (w w1 wr : World) (o i : Value) : Prop :=
  ∃ (k : Nat) (K : Option Addr) (kc : Nat) (V : Value) (bs : List UInt8), k ≤ xs.length ∧ i = .int .i64 k ∧ o = .slice K k kc ∧ wr.ownsRow w1.heap.size 9 1 (.slice K k kc) k ((xs.take k).map mk_StreamGetBin) ∧ EncsP encBin (xs.drop k) bs ∧ RdAny wr d s m z ck 0 V bs ∧
    (∀ g, (Value.slice K k kc).ownBlock = some g → V.ownBlock ≠ some g) ∧ Below w.heap.size w wr ∧ w1.heap.size ≤ wr.heap.size
set_option maxRecDepth 100000 in
set_option maxHeartbeats 3200000 in
theorem taking_StreamGetBin (S : Nat → Prop) (A : Option Addr) (bs : List UInt8) (nA cA z n : Nat) (ck : Int) (xs : List (List UInt8)) (w : World) (hnA : nA = bs.length) (hr : RB w S A bs) (hS : Old w S) (hl : nA ≤ 1099511627776) (hz1 : 18 ≤ z) (hz2 : z ≤ 65536) (hn : n = xs.length) (hn2 : n ≤ 100) (he : EncsP encBin xs bs) :
    Calls Tryd.prog 67 #[.slice A nA cA, .int .i64 n, .int .i64 z, .int .i64 ck, .func (.func 68) #[] #[]] w (Taken_StreamGetBin xs w) := by
  obtain ⟨i0, hi0, hz0, hz1', hz2'⟩ := info_parts info_tk_StreamGetBin
  have HRG := hide (reading_any S A bs nA cA z ck w hnA hr hS hl hz1 hz2)
  have HE := hide he
  have HN := hide hn
  have hz3 : (0 : Int) ≤ (z : Int) := by omega
  have m1 : (if (z : Int) < 0 then (0 : Int) else z) = z := if_neg (by omega)
  have m2 : (if (65536 : Int) < (z : Int) then (65536 : Int) else z) = z := if_neg (by omega)
  have m3 : (if (65536 : Int) < (n : Int) then (65536 : Int) else n) = n := if_neg (by omega)
  obtain ⟨T, hT⟩ : ∃ T, T = Taken_StreamGetBin xs w := ⟨_, rfl⟩
  rw [← hT]
  have HT := hide hT
  clear hnA hr he hn hT
  go_enter Tryd.func67, Tryd.ntmps67
  go_wp2_with (go_at_call 76; go_loud (refine (unhide HRG).mono ?_; rintro e w1 ⟨d, s, m, rfl, hany, hd, hbel⟩; have HA := hide hany; have HB := hide hbel; have HD := hide hd; clear hany hbel hd))
  go_loopw [13, 24] (fun o i wr => TkRel_StreamGetBin d s m z ck xs w w1 wr o i) (fun _ i _ => n - (intOf i).toNat)
  case atStart => exact ⟨0, none, 0, _, bs, Nat.zero_le _, rfl, rfl, World.ownsRow_nil _ _ _ _, unhide HE, unhide HA, (fun g hg => by simp [Value.ownBlock] at hg), unhide HB, Nat.le_refl _⟩
  case round =>
    obtain ⟨k, K, kc, V, bk, hk, rfl, rfl, hown, hek, hany, hsep, hbel, hw1⟩ := hrel
    have hnx := unhide HN
    by_cases hlt : k < n
    · have hkx : k < xs.length := by omega
      have hdr : xs.drop k = xs[k] :: xs.drop (k + 1) := List.drop_eq_getElem_cons hkx
      rw [hdr] at hek
      obtain ⟨a, b, ha, hb, rfl⟩ := hek
      have htk : (xs.take (k + 1)).map mk_StreamGetBin = (xs.take k).map mk_StreamGetBin ++ [mk_StreamGetBin xs[k]] := by
        rw [List.take_succ_eq_append_getElem hkx, List.map_append]
        rfl
      generalize xs[k] = x at *
      have HCL := hide (closBin_any d s m z ck 0 V x a b ha wr hany)
      have HTK := hide htk
      have HOWN := hide hown
      have HEB := hide hb
      have HSEP := hide hsep
      have HBEL := hide hbel
      have HKX := hide hkx
      have HANY := hide hany
      have HDD := hide (show w1.heap.size ≤ wr.heap.size ∧ True from ⟨hw1, trivial⟩)
      have hlt2 : (k : Int) < (n : Int) := by omega
      have hk0 : (0 : Int) ≤ (k : Int) := by omega
      clear hnx hdr htk hown hb hsep hbel hkx hany ha hw1
      go_wp2_with (first
        | (go_at_call 68; go_loud (refine (unhide HCL).mono ?_; rintro e w3 ⟨rfl, hleft⟩; obtain ⟨V3, hany3, hown3, hb3, hsep3, hz3⟩ := tk_step (unhide HA) (unhide HD) (unhide HDD).1 (unhide HBEL) (unhide HOWN) (unhide HSEP) (unhide HANY) hleft; have HANY3 := hide hany3; have HOWN3 := hide hown3; have HB3 := hide hb3; have HSEP3 := hide hsep3; have HZ3 := hide hz3; clear hany3 hown3 hb3 hsep3 hz3 hleft))
        | (at_builtin; go_loud (refine wpList_append_any (S := fun _ => True) _ rfl _ _ 61 rfl w1.heap.size 9 i0 _ 1 16 Tryd.underlying61 hi0 hz0 hz1' hz2' ?x1 ?x2 (.slice K k kc) k ((xs.take k).map mk_StreamGetBin) ?x3 ?x4 (some ⟨w3.heap.size, 0, none⟩) 1 1 [mk_StreamGetBin x] ?x5 ?x6 ?xo ?x7 ?x8 ?x9 ?_; (case x1 => rfl); (case x2 => omega); (case x3 => rfl); (case x4 => exact (unhide HOWN3).alloc _); (case x5 => rfl); (case x6 => exact reads_blkS (S := fun _ => True) (t := 9) (cs := #[mk_StreamGetBin x]) (Blk.newS rfl) trivial 1 1 rfl); (case xo => intro u hu; rw [List.mem_singleton] at hu; subst hu; rfl); (case x7 => unfold maxLen; omega); (case x8 => omega); (case x9 => have := unhide HZ3; have := (unhide HDD).1; simp; omega); intro v6 w6 hown6 hgr6 hat6; obtain ⟨K6, kc6, rfl, _, _, _⟩ := own_slice hown6; have HGR6 := hide hgr6; have HO6 := hide hown6; have HAT6 := hide hat6; clear hgr6 hown6 hat6)))
      go_roundw
      case rel =>
        have hap := tk_app (v := .slice K6 (k + 1) kc6) (unhide HA) (unhide HD) (unhide HB3) (unhide HOWN3) (unhide HSEP3) (unhide HANY3) (unhide HGR6) (unhide HAT6)
        exact ⟨k + 1, K6, kc6, V3, b, unhide HKX, by go_num, rfl, by rw [unhide HTK]; exact unhide HO6, unhide HEB, hap.1, hap.2.2.1, hap.2.1, by have := hap.2.2.2; have := unhide HZ3; have := (unhide HDD).1; omega⟩
      case measure => simp [intOf]; omega
    · obtain rfl : k = n := by omega
      have hlt2 : ¬ (k : Int) < (k : Int) := by omega
      have hall : xs.take k = xs := List.take_of_length_le (by omega)
      rw [hall] at hown
      obtain ⟨K', kc', hv, hkc, hkm, hRk⟩ := own_slice hown
      obtain ⟨rfl, _, rfl⟩ := Value.slice.inj hv
      have HRK := hide hRk
      have HB2 := hide hbel
      have HW1 := hide (unhide HD)
      clear hnx hall hown hek hany hsep hbel hRk hv
      go_wp2_with fail
      rw [unhide HT]
      have hnx := unhide HN
      subst hnx
      exact ⟨K, kc, rfl, hkc, hkm, (unhide HRK).sub (fun b hb => ⟨by have h1 := hb.1; have h2 := (unhide HB).size; omega, hb.2⟩), unhide HB2⟩
end Go.Proofs.YtpadbpmnejgckaaDoor
