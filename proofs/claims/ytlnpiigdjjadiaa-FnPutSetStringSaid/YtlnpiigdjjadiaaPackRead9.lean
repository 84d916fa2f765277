/-
  The reference's reader of the values of an array or a map (spec.takeKids), over a contract of its reader of one value.
-/
import Derived.Test.YtlnpiigdjjadiaaPackRead2
namespace Go.Proofs.Ytlnpiigdjjadiaa
set_option linter.unusedSimpArgs false
set_option linter.unusedVariables false
open Go.RowKit
def KidsRel (w : World) (S : Nat → Prop) (kind : Int) (n lv : Nat) (bs : List UInt8) (d i : Value) (wr : World) : Prop :=
  ∃ (k : Nat) (ps : List Pack) (rest : List UInt8) (A : Option Addr) (cap : Nat) (v : Value) (xs : List Value),
    i = .int .i64 k ∧ k ≤ n ∧ ps.length = k ∧ d = .slice A rest.length cap ∧ rest.length ≤ cap ∧ cap ≤ 9223372036854775807 ∧ k + rest.length ≤ bs.length ∧ RB wr S A rest ∧
    tKids (tPack lv) n bs = (tKids (tPack lv) (n - k) rest).map (fun x => (ps ++ x.1, x.2)) ∧
    Blk wr w.heap.size 31 #[.int .i64 0, .int .u64 0, .string ⟨#[]⟩, .int .i64 0, .slice none 0 0] ∧
    Blk wr (w.heap.size + 1) 31 #[.int .i64 kind, .int .u64 0, .string ⟨#[]⟩, .int .i64 0, v] ∧
    wr.ownsRow (w.heap.size + 2) 31 5 v k xs ∧ PacksC wr (fun b => w.heap.size + 2 ≤ b ∧ b < wr.heap.size ∧ some b ≠ v.ownBlock) ps xs ∧ Below w.heap.size w wr
theorem KidsRel.start {w w0 : World} {S : Nat → Prop} {kind : Int} {n lv : Nat} {bs : List UInt8} {A : Option Addr} {cap : Nat} (hr : RB w0 S A bs) (hc : bs.length ≤ cap) (hcap : cap ≤ 9223372036854775807)
    (h0 : Blk w0 w.heap.size 31 #[.int .i64 0, .int .u64 0, .string ⟨#[]⟩, .int .i64 0, .slice none 0 0])
    (h1 : Blk w0 (w.heap.size + 1) 31 #[.int .i64 kind, .int .u64 0, .string ⟨#[]⟩, .int .i64 0, .slice none 0 0]) (hb : Below w.heap.size w w0) :
    KidsRel w S kind n lv bs (.slice A bs.length cap) (.int .i64 0) w0 :=
  ⟨0, [], bs, A, cap, .slice none 0 0, [], rfl, Nat.zero_le _, rfl, rfl, hc, hcap, by omega, hr, by simp, h0, h1, World.ownsRow_nil _ _ _ _, by unfold PacksC; rfl, hb⟩
theorem kids_none {lv n k : Nat} {kind : Int} {bs rest : List UInt8} {ps : List Pack} (h : tKids (tPack lv) n bs = (tKids (tPack lv) (n - k) rest).map (fun x => (ps ++ x.1, x.2))) (hk : k < n) (hq : tPack lv rest = none) :
    tList (tPack lv) kind n bs = none := by
  unfold tList
  rw [h, show n - k = (n - k - 1) + 1 by omega, tKids, hq]
  rfl
theorem kids_some {lv n k : Nat} {bs rest r2 : List UInt8} {ps : List Pack} {p : Pack} (h : tKids (tPack lv) n bs = (tKids (tPack lv) (n - k) rest).map (fun x => (ps ++ x.1, x.2))) (hk : k < n) (hq : tPack lv rest = some (p, r2)) :
    tKids (tPack lv) n bs = (tKids (tPack lv) (n - (k + 1)) r2).map (fun x => ((ps ++ [p]) ++ x.1, x.2)) := by
  rw [h, show n - k = (n - (k + 1)) + 1 by omega, tKids, hq]
  simp only
  rcases tKids (tPack lv) (n - (k + 1)) r2 with _ | ⟨a, b⟩
  · rfl
  · simp
theorem kids_end {lv n : Nat} {kind : Int} {bs rest : List UInt8} {ps : List Pack} (h : tKids (tPack lv) n bs = (tKids (tPack lv) (n - n) rest).map (fun x => (ps ++ x.1, x.2))) :
    tList (tPack lv) kind n bs = some (.mk kind 0 [] 0 ps, rest) := by
  unfold tList
  rw [h, Nat.sub_self, tKids]
  simp
theorem PacksC.snoc {w : World} {S : Nat → Prop} {p : Pack} {cs : List Value} (hl : cs.length = 5) (hp : PackC w S p cs) : ∀ (ps : List Pack) (xs : List Value), PacksC w S ps xs → PacksC w S (ps ++ [p]) (xs ++ cs)
  | [], xs, h => by
    unfold PacksC at h
    subst h
    unfold PacksC
    exact ⟨cs, [], by simp, hl, hp, by unfold PacksC; rfl⟩
  | q :: qs, xs, h => by
    unfold PacksC at h
    obtain ⟨c, r, h1, h2, h3, h4⟩ := h
    subst h1
    have := PacksC.snoc hl hp qs r h4
    show PacksC w S (q :: (qs ++ [p])) _
    unfold PacksC
    exact ⟨c, r ++ cs, by simp, h2, h3, this⟩
theorem news_at (w1 : World) (X : Obj) (c0 c1 c2 c3 c4 : Value) (t : TypeId) : ∀ j u, [c0, c1, c2, c3, c4][j]? = some u → ((w1.alloc X).alloc (.cells #[c0, c1, c2, c3, c4] t)).cell? ((⟨w1.heap.size + 1, 0, none⟩ : Addr).add j) = some u := by
  refine World.news_of_block (B := w1.heap.size + 1) (cs := #[c0, c1, c2, c3, c4]) (t := t) (fr := (0, 0)) ?_
  have := heap_alloc_new (w1.alloc X) (.cells #[c0, c1, c2, c3, c4] t)
  rwa [World.size_alloc] at this
theorem news_one (kind num : Int) (text : ByteArray) (ext : Int) (s : Value) (hs : s.oneCell' = true := by rfl) : ∀ u ∈ [Value.int .i64 kind, .int .u64 num, .string text, .int .i64 ext, s], u.oneCell' = true := by
  intro u hu
  simp at hu
  rcases hu with rfl | rfl | rfl | rfl | rfl <;> first | rfl | exact hs
theorem KidsRel.step {w wr w1 w3 : World} {S : Nat → Prop} {kind : Int} {n lv k : Nat} {bs r2 : List UInt8} {ps : List Pack} {p : Pack} {v : Value} {xs news : List Value} {A2 : Option Addr} {cap2 g cap3 : Nat} {X Y : Obj} (hS : Old w S)
    (hB0 : Blk wr w.heap.size 31 #[.int .i64 0, .int .u64 0, .string ⟨#[]⟩, .int .i64 0, .slice none 0 0])
    (hB1 : Blk wr (w.heap.size + 1) 31 #[.int .i64 kind, .int .u64 0, .string ⟨#[]⟩, .int .i64 0, v])
    (hown : wr.ownsRow (w.heap.size + 2) 31 5 v k xs) (hps : PacksC wr (fun b => w.heap.size + 2 ≤ b ∧ b < wr.heap.size ∧ some b ≠ v.ownBlock) ps xs) (hbel : Below w.heap.size w wr)
    (hbel1 : Below wr.heap.size wr w1) (hpk : PackC w1 (fun b => wr.heap.size ≤ b ∧ b < w1.heap.size) p news) (hrb : RB w1 S A2 r2) (hrc2 : r2.length ≤ cap2) (hcm : cap2 ≤ maxLen)
    (hpl : ps.length = k) (hlt : k < n) (hkids : tKids (tPack lv) n bs = (tKids (tPack lv) (n - (k + 1)) r2).map (fun x => ((ps ++ [p]) ++ x.1, x.2))) (hle : k + 1 + r2.length ≤ bs.length) (hnl : news.length = 5)
    (hgrow : ((w1.alloc X).alloc Y).grownBy w3 v.ownBlock) (hown3 : w3.ownsRow (w.heap.size + 2) 31 5 (.slice (some ⟨g, 0, none⟩) (k + 1) cap3) (k + 1) (xs ++ news))
    (hat : v.ownBlock = some g ∨ g = ((w1.alloc X).alloc Y).heap.size) :
    w3.cell? ⟨w.heap.size + 1, 4, none⟩ = some v ∧ w3.frozen? ⟨w.heap.size + 1, 4, none⟩ = false ∧
    KidsRel w S kind n lv bs (.slice A2 r2.length cap2) (.int .i64 ((k + 1 : Nat) : Int)) (w3.setCell ⟨w.heap.size + 1, 4, none⟩ (.slice (some ⟨g, 0, none⟩) (k + 1) cap3)) := by
  have hne0 : some w.heap.size ≠ v.ownBlock := fun e => by have := (hown.lt _ e.symm).1; omega
  have hne1 : some (w.heap.size + 1) ≠ v.ownBlock := fun e => by have := (hown.lt _ e.symm).1; omega
  have l0 := hB0.lt
  have l1 := hB1.lt
  have hz1 := hbel1.size
  have hg2 : w.heap.size + 2 ≤ g := by
    rcases hat with e | e
    · exact (hown.lt _ e).1
    · rw [e]
      simp
      omega
  have c0 := (((hB0.below hbel1 l0).alloc X).alloc Y).grown hgrow hne0
  have c1 := (((hB1.below hbel1 l1).alloc X).alloc Y).grown hgrow hne1
  have hst3 : ∀ (T : Nat → Prop), (∀ b, T b → b < w1.heap.size ∧ some b ≠ v.ownBlock) → Stays T w1 w3 := fun T hT b hb => by
    obtain ⟨h1, h2⟩ := hT b hb
    have e1 := hgrow.block b (by simp; omega) h2
    rw [e1, Below.heap_alloc _ _ _ (by simp; omega), Below.heap_alloc _ _ _ h1]
  have hS1 : Old w1 S := old_below hbel1 (old_below hbel hS)
  have hrb3 : RB w3 S A2 r2 := hrb.keep (hst3 S fun b hb => ⟨hS1 b hb, fun e => by have := (hown.lt _ e.symm).1; have := hS b hb; omega⟩)
  have hz3 : w1.heap.size + 2 ≤ w3.heap.size := by have := hgrow.size; simpa using this
  refine ⟨c1.cell 4, c1.frozen 4, k + 1, ps ++ [p], r2, A2, cap2, .slice (some ⟨g, 0, none⟩) (k + 1) cap3, xs ++ news, rfl, by omega, by simp [hpl], rfl, hrc2, by unfold maxLen at hcm; omega, hle, ?_, hkids, ?_, ?_, ?_, ?_, ?_⟩
  · exact hrb3.keep (stays_setCell (fun h => by have h2 : w.heap.size + 1 < w.heap.size := hS _ h; omega) (Stays.refl _ _) _)
  · exact c0.far (by simp) _
  · exact c1.set_ 4 _
  · exact ownsRow_setCell_below hown3 (show w.heap.size + 1 < _ by omega) _
  · have hset : ∀ (T : Nat → Prop), (∀ b, T b → w.heap.size + 2 ≤ b) → Stays T w3 (w3.setCell ⟨w.heap.size + 1, 4, none⟩ (.slice (some ⟨g, 0, none⟩) (k + 1) cap3)) := fun T hT =>
      stays_setCell (fun h => by have h2 : w.heap.size + 2 ≤ w.heap.size + 1 := hT _ h; omega) (Stays.refl _ _) _
    refine PacksC.snoc hnl ?_ _ _ ?_
    · refine PackC.sub ?_ _ _ (PackC.keep (hset _ ?_) _ _ (PackC.keep (hst3 _ ?_) _ _ hpk))
      · rintro b ⟨h1, h2⟩
        refine ⟨by omega, by simp; omega, fun e => ?_⟩
        have : b = g := by simpa [Value.ownBlock] using e
        subst this
        rcases hat with e | e
        · have := (hown.lt _ e).2; omega
        · simp at e; omega
      · rintro b ⟨h1, h2⟩
        omega
      · rintro b ⟨h1, h2⟩
        exact ⟨h2, fun e => by have := (hown.lt _ e.symm).2; omega⟩
    · refine PacksC.sub ?_ _ _ (PacksC.keep (hset _ ?_) _ _ (PacksC.keep (hst3 _ ?_) _ _ (PacksC.keep (fun b hb => hbel1.block b hb.2.1) _ _ hps)))
      · rintro b ⟨h1, h2, h3⟩
        refine ⟨h1, by simp; omega, fun e => ?_⟩
        have : b = g := by simpa [Value.ownBlock] using e
        subst this
        rcases hat with e | e
        · exact h3 e.symm
        · simp at e; omega
      · rintro b ⟨h1, h2, h3⟩
        exact h1
      · rintro b ⟨h1, h2, h3⟩
        exact ⟨by omega, h3⟩
  · refine Below.setCell (hbel.trans ?_) (by simp) _
    refine ⟨?_, ?_, ?_, ?_, ?_⟩
    · exact hgrow.os.trans hbel1.os
    · exact hgrow.tape.trans hbel1.tape
    · exact hgrow.output.trans hbel1.output
    · omega
    · intro b hb
      have e1 := hgrow.block b (by simp; omega) (fun e => by have := (hown.lt _ e.symm).1; omega)
      rw [e1, Below.heap_alloc _ _ _ (by simp; omega), Below.heap_alloc _ _ _ (by omega)]
      exact hbel1.block b (by omega)
set_option maxRecDepth 100000 in
set_option maxHeartbeats 800000 in
theorem takeKids_step (lv : Nat) (hl : lv ≤ 1000) (ih : TakesPack lv) : TakesKids lv := by
  intro kind n' lv' n S A bs m cap w hn' hlv hm hr hc hcap h40 hS hn
  subst hn' hlv hm
  have IH := hide ih
  clear ih
  go_enter Try.func27, Try.ntmps27
  go_wp2
  go_loopw [2, 12] (fun d i wr => KidsRel w S kind n lv bs d i wr) (fun _ i _ => n - (intOf i).toNat)
  case atStart =>
    exact KidsRel.start (hr.keep (by go_simp)) hc hcap ((Blk.new w 31 _).alloc _) (by have := Blk.new (w.alloc (.cells #[.int .i64 0, .int .u64 0, .string ⟨#[]⟩, .int .i64 0, .slice none 0 0] 31)) 31 #[.int .i64 kind, .int .u64 0, .string ⟨#[]⟩, .int .i64 0, .slice none 0 0]; simpa using this) (((Below.refl _ _).alloc (Nat.le_refl _) _).alloc (by first | omega | (simp; omega) | (simp; done)) _)
  case round =>
    obtain ⟨k, ps, rest, A', cap', v, xs, rfl, hkn, hpl, rfl, hrc, hcap', hkl, hrr, hkids, hB0, hB1, hown, hps, hbel⟩ := hrel
    have hold : Old wr S := old_below hbel hS
    by_cases hlt : k < n
    · have HR := hide hkids
      have HL := hide hpl
      clear hkids hpl
      go_wp2_with fail
      refine (unhide IH _ S A' rest _ cap' _ (by omega) rfl hrr hrc hcap' (by omega) hold).mono ?_
      rintro e w1 ⟨kind2, num, text, ext, K, kl, kc, A2, n2, cap2, bo, rfl, hbel1, htr⟩
      have hz1 := hbel1.size
      have hlt0 : w.heap.size < w1.heap.size := by have := hB0.lt; omega
      have hlt1 : w.heap.size + 1 < w1.heap.size := by have := hB1.lt; omega
      obtain ⟨⟨a0, a1, a2, a3, a4⟩, ⟨f0, f1, f2, f3, f4⟩⟩ := five_cells (hB0.below hbel1 hB0.lt)
      obtain ⟨⟨b0, b1, b2, b3, b4⟩, ⟨g0, g1, g2, g3, g4⟩⟩ := five_cells (hB1.below hbel1 hB1.lt)
      unfold TookR at htr
      rcases hq : tPack lv rest with _ | ⟨p, r2⟩
      · rw [hq] at htr
        simp only at htr
        obtain ⟨rfl, rfl, rfl, rfl, rfl, rfl, rfl, rfl, rfl, rfl, rfl⟩ := htr
        have HN := hide (kids_none (kind := kind) (unhide HR) hlt hq)
        clear hq
        go_wp2
        rw [unhide HN]
        refine bodyPost_ret (v := .tuple #[packV 0 0 [] 0 none 0 0, .slice none 0 0, .bool false]) (by simp [results, Try.results27, go_sem, a0, a1, a2, a3, a4, hlt0]) rfl ?_
        exact took_none (by repeat (first | with_reducible exact Below.refl _ _ | with_reducible exact (hbel.trans (hbel1.mono hbel.size)) | with_reducible refine Below.alloc ?_ (by first | omega | (simp; omega) | (simp; done)) _ | with_reducible refine Below.setCell ?_ (by first | omega | (simp; omega) | (simp; done)) _ | with_reducible refine Below.drew ?_ | with_reducible refine below_drewN ?_ _))
      · rw [hq] at htr
        simp only at htr
        obtain ⟨rfl, rfl, hrb, hrc2, hcm2, hpk⟩ := htr
        have HS := hide (kids_some (unhide HR) hlt hq)
        have hrl := tPack_len lv rest p r2 hq
        clear hq
        have hown1 := own_below hown hbel1
        go_wp2_with (at_builtin; obtain ⟨i0, hi0, hz0, hz1', hz2⟩ := info_parts info30; refine wpList_append_lies _ rfl (.tmp 35) (.tmp 37) _ rfl (w.heap.size + 2) 31 i0 _ 5 64 Try.underlying27 hi0 hz0 hz1' hz2 ?x1 ?x2 v k xs ?x3 ((hown1.alloc _).alloc _) ⟨w1.heap.size + 1, 0, none⟩ 1 1 [.int .i64 kind2, .int .u64 num, .string ⟨text.toArray⟩, .int .i64 ext, .slice K kl kc] ?x4 ?x5 ?c1 ?c2 ?x6 ?c3 ?x7 ?c4 _ rfl ?_; (case x1 => rfl); (case x2 => omega); (case x3 => rfl); (case x4 => rfl); (case x5 => rfl); (case x6 => omega); (case x7 => omega); (case c1 => exact news_at _ _ _ _ _ _ _ _); (case c2 => exact news_one _ _ _ _ _); (case c3 => unfold maxLen; omega); (case c4 => simp; omega); clear hi0 hz0 hz1' hz2; intro g cap3 w3 hown3 hgrow hat hlt3; have HA := hide hat; clear hat; obtain ⟨m4, mf4, hrel4⟩ := KidsRel.step (w := w) hS hB0 hB1 hown hps hbel hbel1 hpk hrb hrc2 hcm2 (unhide HL) hlt (unhide HS) (by omega) rfl hgrow hown3 (unhide HA); have HR4 := hide hrel4; clear hrel4)
        go_roundw
        case rel => exact unhide HR4
        case measure => simp [intOf]; omega
    · obtain rfl : k = n := by omega
      have HE := hide (kids_end (kind := kind) hkids)
      have HL := hide hpl
      clear hkids hpl
      obtain ⟨⟨a0, a1, a2, a3, a4⟩, ⟨f0, f1, f2, f3, f4⟩⟩ := five_cells hB0
      obtain ⟨⟨b0, b1, b2, b3, b4⟩, ⟨g0, g1, g2, g3, g4⟩⟩ := five_cells hB1
      obtain ⟨KA, kc, rfl, hkc, hkm, hreads⟩ := own_slice hown
      have l0 := hB0.lt
      go_wp2
      refine bodyPost_ret (v := .tuple #[packV kind 0 [] 0 KA k kc, .slice A' rest.length cap', .bool true]) (by simp [results, Try.results27, go_sem, a0, a1, a2, a3, a4]) rfl ?_
      rw [unhide HE]
      refine ⟨_, _, _, _, _, _, _, _, _, _, _, rfl, (by repeat (first | with_reducible exact Below.refl _ _ | with_reducible exact hbel | with_reducible refine Below.alloc ?_ (by first | omega | (simp; omega) | (simp; done)) _ | with_reducible refine Below.setCell ?_ (by first | omega | (simp; omega) | (simp; done)) _ | with_reducible refine Below.drew ?_ | with_reducible refine below_drewN ?_ _)), rfl, rfl, hrr.keep (stays_set5 (Stays.refl _ _) (fun h => by have h2 := hS _ h; omega) _ _ _ _ _), hrc, by unfold maxLen; omega, ?_⟩
      have hl := unhide HL
      subst hl
      unfold PackC
      refine ⟨KA, kc, xs, rfl, hkc, hkm, ?_, ?_⟩
      · exact (hreads.keep (stays_set5 (Stays.refl _ _) (fun h => by have h2 := h.1; omega) _ _ _ _ _)).sub (fun b hb => ⟨by omega, by have h2 := hb.2; simpa using h2⟩)
      · exact PacksC.sub (fun b hb => ⟨by have := hb.1; omega, by have h2 := hb.2.1; simpa using h2⟩) _ _ (PacksC.keep (stays_set5 (Stays.refl _ _) (fun h => by have h2 := h.1; omega) _ _ _ _ _) _ _ hps)
end Go.Proofs.Ytlnpiigdjjadiaa
