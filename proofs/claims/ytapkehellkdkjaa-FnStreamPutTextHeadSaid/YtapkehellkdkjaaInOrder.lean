/-
  laws.inOrder, laws.buffers. Conditions: the data read as values one behind the other.
-/
import Derived.Test.YtapkehellkdkjaaPackReadT
import Derived.Test.YtapkehellkdkjaaPackSame
namespace Go.Proofs.Ytapkehellkdkjaa
set_option linter.unusedSimpArgs false
set_option linter.unusedVariables false
set_option linter.unusedVariables false
open Go.RowKit
/-- Values stand one behind the other in bytes, and nothing else. -/
def InOrd : List Pack → List UInt8 → Prop
  | [], bs => bs = []
  | p :: ps, bs => ∃ q r, tPack 2 bs = some (q, r) ∧ samePk p q = true ∧ GoodP p ∧ GoodP q ∧ InOrd ps r
def InRel (w : World) (S : Nat → Prop) (ps : List Pack) (L : Nat) (d i : Value) (wr : World) : Prop :=
  ∃ (k : Nat) (rest : List UInt8) (A : Option Addr) (n c : Nat), i = .int .i64 k ∧ d = .slice A n c ∧ k ≤ ps.length ∧ n = rest.length ∧ n ≤ c ∧ c ≤ 9223372036854775807 ∧ n ≤ L ∧ RB wr S A rest ∧ InOrd (ps.drop k) rest ∧ Below w.heap.size w wr
theorem packC_form {w : World} {S : Nat → Prop} {p : Pack} {c0 c1 c2 c3 c4 : Value} (h : PackC w S p [c0, c1, c2, c3, c4]) :
    ∃ (k n : Int) (t : ByteArray) (e : Int) (K : Option Addr) (l c : Nat), c0 = .int .i64 k ∧ c1 = .int .u64 n ∧ c2 = .string t ∧ c3 = .int .i64 e ∧ c4 = .slice K l c := by
  cases p with
  | mk k n t e ks =>
  unfold PackC at h
  obtain ⟨K, c, xs, h1, _⟩ := h
  simp only [List.cons.injEq, and_true] at h1
  obtain ⟨rfl, rfl, rfl, rfl, rfl⟩ := h1
  exact ⟨_, _, _, _, _, _, _, rfl, rfl, rfl, rfl, rfl⟩
set_option maxRecDepth 100000 in
set_option maxHeartbeats 1600000 in
theorem inOrder_any (S S2 : Nat → Prop) (A : Option Addr) (bs : List UInt8) (n c : Nat) (K : Option Addr) (ps : List Pack) (xs : List Value) (m kc : Nat) (w : World) (hn : n = bs.length) (hr : RB w S A bs) (hc : n ≤ c) (hcm : c ≤ 9223372036854775807) (hS : Old w S) (hl : n ≤ 1099511627776) (hm : m = ps.length) (hk : Reads w S2 5 K m xs) (hp : PacksC w S2 ps xs) (hS2 : Old w S2) (hmk : m ≤ kc) (hkc : kc ≤ 9223372036854775807) (h : InOrd ps bs) :
    Calls Try.prog 10 #[.slice A n c, .bool true, .slice K m kc] w fun e w' => e = .returned (.bool true) ∧ Below w.heap.size w w' := by
  have HN := hide hn
  have HR := hide hr
  have HM := hide hm
  have HH := hide h
  clear hn hr hm h
  go_enter Try.func10, Try.ntmps10
  go_wp2
  go_loopw [0, 14] (fun d i wr => InRel w S ps n d i wr) (fun _ i _ => m - (intOf i).toNat)
  case atStart => exact ⟨0, bs, A, n, c, rfl, rfl, Nat.zero_le _, unhide HN, hc, hcm, Nat.le_refl _, unhide HR, unhide HH, Below.refl _ _⟩
  case round =>
    obtain ⟨k, rest, A', n', c', rfl, rfl, hkl, hn', hnc', hcm', hnl, hrr, hio, hbel⟩ := hrel
    have hold : Old wr S := old_below hbel hS
    have hmm := unhide HM
    by_cases hlt : k < m
    · have hkl2 : k < ps.length := by omega
      rw [List.drop_eq_getElem_cons hkl2] at hio
      unfold InOrd at hio
      obtain ⟨q, r, hq, hsame, hgp, hgq, hrest⟩ := hio
      obtain ⟨ad, rfl, hSb, hcell⟩ := hk.2 (by omega)
      obtain ⟨c0, c1, c2, c3, c4, hcs, hpc⟩ := PacksC.at_ ps xs hp k hkl2
      have l0 := hS2 _ hSb
      obtain ⟨p, hpx⟩ : ∃ p, p = ps[k] := ⟨_, rfl⟩
      rw [← hpx] at hpc hsame hgp
      clear hpx
      obtain ⟨pk, pn, pt, pe, PK, pkl, pkc, rfl, rfl, rfl, rfl, rfl⟩ := packC_form hpc
      obtain ⟨x60, x61, x62, x63, x64⟩ := five_at (w := wr) (a := ad.add (k * 5)) (fun j u hu => by rw [add_of_add]; exact (hbel.cell (p := ad.add (k * 5 + j)) (by rw [block_of_add]; exact l0)).trans (hcell _ _ (hcs j u hu)))
      have HS := hide hsame
      have HQ := hide hq
      have HREST := hide hrest
      have HPC := hide hpc
      have HGP := hide hgp
      have HGQ := hide hgq
      have HRR := hide hrr
      have HN' := hide hn'
      have hrlen := tPack_len 2 rest q r hq
      have hrn : r.length ≤ n' := by omega
      have hk0 : (0 : Int) ≤ (k : Int) := by omega
      have hk1 : (k : Int) < (m : Int) := by omega
      clear hsame hq hrest hpc hgp hgq hrr hn' hrlen hcs hmm
      go_wp2_with fail
      refine (takesPack 2 (by omega) 2 S A' rest n' c' _ rfl (unhide HN') ((unhide HRR).keep (stays_alloc hold (Stays.refl _ _) _)) (by have := unhide HN'; omega) hcm' (by have := unhide HN'; omega) (old_alloc hold _)).mono ?_
      rintro e w1 ⟨kind2, num, text, ext, K2, kl2, kc2, A2, n2, cap2, bo, rfl, hbel1, htr⟩
      rw [unhide HQ] at htr
      obtain ⟨rfl, hn2, hrb, hrc2, hcm2, hpk⟩ := htr
      have hB0 : Blk w1 wr.heap.size 33 #[.int .i64 pk, .int .u64 pn, .string pt, .int .i64 pe, .slice PK pkl pkc] := (Blk.new wr _ _).below hbel1 (by simp)
      obtain ⟨⟨y0, y1, y2, y3, y4⟩, _⟩ := five_cells hB0
      have hz1 := hB0.lt
      have hbelw : Below w.heap.size w w1 := (hbel.alloc hbel.size _).trans (hbel1.mono (by have := hbel.size; simp; omega))
      have hr1 : wr.heap.size + 1 ≤ w1.heap.size := by simpa using hbel1.size
      have HB0 := hide hB0
      have HBW := hide hbelw
      have HN2 := hide hn2
      have HRB := hide hrb
      have HPK := hide hpk
      clear hbel1 hn2 hrb hpk hB0 hbelw
      go_wp2_with fail
      refine (samePack_any p q _ _ _ _ _ _ _ _ _ _ S2 (fun b => wr.heap.size + 1 ≤ b ∧ b < w1.heap.size) _ ?o1 ?o2 ?p1 ?p2 (unhide HGP) (unhide HGQ)).mono ?_
      case o1 => exact old_alloc (old_below (unhide HBW) hS2) _
      case o2 => exact old_alloc (fun b hb => hb.2) _
      case p1 => exact PackC.keep (stays_alloc (old_below (unhide HBW) hS2) (stays_below (Stays.refl _ _) (unhide HBW) hS2) _) _ _ (unhide HPC)
      case p2 => exact PackC.keep (stays_alloc (fun b hb => hb.2) (Stays.refl _ _) _) _ _ (PackC.sub (fun b hb => ⟨by have := hb.1; simp at this; omega, hb.2⟩) _ _ (unhide HPK))
      rintro e w2 ⟨rfl, hb2⟩
      rw [unhide HS]
      have hbw2 : Below w.heap.size w w2 := ((unhide HBW).alloc (unhide HBW).size _).trans (hb2.mono (by have := (unhide HBW).size; simp; omega))
      have hR2 : RB w2 S A2 r := ((unhide HRB).keep (stays_alloc (old_below (unhide HBW) hS) (Stays.refl _ _) _)).keep (stays_below (Stays.refl _ _) hb2 (old_alloc (old_below (unhide HBW) hS) _))
      have HBW2 := hide hbw2
      have HR2 := hide hR2
      unfold maxLen at hcm2
      clear hb2 hbw2 hR2
      go_wp2
      go_roundw
      case rel => exact ⟨k + 1, r, A2, n2, cap2, by go_num, rfl, by omega, unhide HN2, by rw [unhide HN2]; exact hrc2, by omega, by have := unhide HN2; omega, unhide HR2, unhide HREST, unhide HBW2⟩
      case measure => simp [intOf]; omega
    · have hkm : k = ps.length := by omega
      rw [hkm, List.drop_length] at hio
      have hr0 : rest = [] := hio
      have hn0 : n' = 0 := by rw [hn', hr0]; rfl
      subst hn0
      have hk1 : ¬ (k : Int) < (m : Int) := by omega
      have HB := hide hbel
      clear hio hr0 hn' hkm hmm hbel
      go_wp2
      go_ret
      exact ⟨rfl, unhide HB⟩
end Go.Proofs.Ytapkehellkdkjaa
