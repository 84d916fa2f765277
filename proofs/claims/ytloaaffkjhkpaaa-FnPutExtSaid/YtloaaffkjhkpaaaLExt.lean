/-
  The walk of the law FnPutExt. No condition.
-/
import Derived.Test.YtloaaffkjhkpaaaExtA
import Derived.Test.YtloaaffkjhkpaaaAppended
import Derived.Test.YtloaaffkjhkpaaaSPut
import Derived.BigGuardPart
namespace Go.Proofs.Ytloaaffkjhkpaaa
set_option linter.unusedSimpArgs false
set_option linter.unusedVariables false
set_option linter.unusedVariables false
open Go.RowKit
theorem byte_kind (kind : Int) (h0 : -128 ≤ kind) (h1 : kind ≤ 127) : i8of (UInt8.ofNat (kind + 256).toNat).toNat = kind := by
  unfold i8of
  have : (UInt8.ofNat (kind + 256).toNat).toNat = (kind + 256).toNat % 256 := by simp
  rw [this]
  split <;> omega
theorem encE_len (kind : Int) (ds : List UInt8) (h : ds.length ≤ 131072) : (encE kind ds).length ≤ 1099511627776 := by
  unfold encE
  repeat' split
  all_goals (simp [be_len16, be_len32]; try omega)
theorem tExt_full (n : Nat) (k : UInt8) (ds : List UInt8) (h : ds.length = n) : tExt n (k :: ds) = some (.mk 10 0 ds (i8of k.toNat) [], []) := by
  subst h
  simp [tExt]
theorem bigN_b1 (l : Nat) (h : l < 256) : bigN [UInt8.ofNat l] = l := by
  simp [bigN]
  omega
theorem bigN_b2 (l : Nat) (h : l < 65536) : bigN (be (l : Int) 2) = l := by
  simp [bigN, be]
  omega
theorem bigN_b4 (l : Nat) (h : l < 4294967296) : bigN (be (l : Int) 4) = l := by
  simp [bigN, be]
  omega
theorem tC_ext (f : List UInt8 → Option (Pack × List UInt8)) (b n : Nat) (r : List UInt8) (hs : codeSize b = 0) (h1 : 212 ≤ b) (h2 : b ≤ 216) (hn : 2 ^ (b - 212) = n) : tCoded f b r = tExt n r := by
  unfold tCoded
  simp only [hs, List.drop_zero]
  rw [if_neg (by omega), if_neg (by omega), if_neg (by omega), if_neg (by omega), if_neg (by omega), if_neg (by omega), if_neg (by omega), if_neg (by omega), if_neg (by omega), if_pos (by omega), hn]
theorem tC_extn (f : List UInt8 → Option (Pack × List UInt8)) (b s : Nat) (p r : List UInt8) (hp : p.length = s) (hs : codeSize b = s) (h1 : 199 ≤ b) (h2 : b ≤ 201) : tCoded f b (p ++ r) = tExt (bigN p) r := by
  unfold tCoded
  simp only [hs]
  rw [if_neg (by rw [List.length_append]; omega), if_neg (by omega), if_neg (by omega), if_neg (by omega), if_pos (by omega), List.take_left' hp, List.drop_left' hp]
theorem tPack_c (lv : Nat) (c : UInt8) (r : List UInt8) (h : 192 ≤ c.toNat) (h' : c.toNat < 224) : tPack (lv + 1) (c :: r) = tCoded (tPack lv) c.toNat r := by
  simp only [tPack]
  rw [if_neg (by omega), if_neg (by omega), if_neg (by omega), if_neg (by omega), if_neg (by omega)]
theorem encE_read (kind : Int) (ds : List UInt8) (h0 : -128 ≤ kind) (h1 : kind ≤ 127) (h : ds.length ≤ 131072) : tPack 1 (encE kind ds) = some (.mk 10 0 ds kind [], []) := by
  have hk := byte_kind kind h0 h1
  unfold encE
  generalize UInt8.ofNat (kind + 256).toNat = k at *
  split
  · rename_i e
    rw [tPack_c 0 _ _ (by decide) (by decide), show (0 :: k :: ds : List UInt8) = [0] ++ (k :: ds) from rfl, tC_extn _ _ 1 _ _ rfl (by decide) (by decide) (by decide), show bigN [0] = 0 from rfl, tExt_full 0 k ds e, hk]
  split
  · rename_i e
    rw [tPack_c 0 _ _ (by decide) (by decide), tC_ext _ _ 1 _ (by decide) (by decide) (by decide) (by decide), tExt_full 1 k ds e, hk]
  split
  · rename_i e
    rw [tPack_c 0 _ _ (by decide) (by decide), tC_ext _ _ 2 _ (by decide) (by decide) (by decide) (by decide), tExt_full 2 k ds e, hk]
  split
  · rename_i e
    rw [tPack_c 0 _ _ (by decide) (by decide), tC_ext _ _ 4 _ (by decide) (by decide) (by decide) (by decide), tExt_full 4 k ds e, hk]
  split
  · rename_i e
    rw [tPack_c 0 _ _ (by decide) (by decide), tC_ext _ _ 8 _ (by decide) (by decide) (by decide) (by decide), tExt_full 8 k ds e, hk]
  split
  · rename_i e
    rw [tPack_c 0 _ _ (by decide) (by decide), tC_ext _ _ 16 _ (by decide) (by decide) (by decide) (by decide), tExt_full 16 k ds e, hk]
  split
  · rw [tPack_c 0 _ _ (by decide) (by decide), show (UInt8.ofNat ds.length :: k :: ds : List UInt8) = [UInt8.ofNat ds.length] ++ (k :: ds) from rfl, tC_extn _ _ 1 _ _ rfl (by decide) (by decide) (by decide), bigN_b1 _ (by omega), tExt_full _ k ds rfl, hk]
  split
  · rw [tPack_c 0 _ _ (by decide) (by decide), tC_extn _ _ 2 _ _ (be_len16 2 _) (by decide) (by decide) (by decide), bigN_b2 _ (by omega), tExt_full _ k ds rfl, hk]
  · rw [tPack_c 0 _ _ (by decide) (by decide), tC_extn _ _ 4 _ _ (be_len16 4 _) (by decide) (by decide) (by decide), bigN_b4 _ (by omega), tExt_full _ k ds rfl, hk]
theorem PutExt_awake (w : World) : Calls Try.prog 12 #[.slice none 0 0, .int .i8 10, .slice (some ⟨w.heap.size, 0, none⟩) 1 1] (w.alloc (.cells #[.int .u8 1] 5)) fun e w' => ∃ A c, e = .returned (.tuple #[.slice A 3 c, .bool true]) ∧ Below w.heap.size w w' := by
  refine (PutExt_any (Lt 0) (fun b => b = w.heap.size) none (some ⟨w.heap.size, 0, none⟩) [] [1] 0 0 1 1 10 (by omega) (by omega) (w.alloc (.cells #[.int .u8 1] 5)) rfl rfl ⟨rfl, fun h => absurd h (by simp)⟩ (fun b hb => absurd hb (Nat.not_lt_zero b)) (reads_blkS (S := fun b => b = w.heap.size) (t := 5) (cs := #[.int .u8 1]) (Blk.newS rfl) rfl 1 1 rfl) (fun b hb => by subst hb; simp) (by omega) (by omega)).mono ?_
  rintro e w' ⟨A, c, rfl, h1, h2, h3, h4⟩
  exact ⟨A, c, rfl, Below.trans (by repeat (first | with_reducible exact Below.refl _ _ | with_reducible exact x | with_reducible refine Below.alloc ?_ (by first | omega | (simp; omega) | (simp; done)) _ | with_reducible refine Below.setCell ?_ (by first | omega | (simp; omega) | (simp; done)) _ | with_reducible refine Below.drew ?_ | with_reducible refine below_drewN ?_ _)) (h4.mono (by simp))⟩
theorem FnPutExt_far (A D : Option Addr) (n cap l dcap : Nat) (kind : Int) (w : World) (h : 2147483647 < n ∨ 2147483647 < l) : Calls Try.prog 5 #[.slice A n cap, .int .i8 kind, .slice D l dcap] w (TrueR w) := by
  by_cases h1 : 2147483647 < n
  · have h2 : (2147483647 : Int) < (n : Int) := by omega
    clear h
    go_enter Try.func5, Try.ntmps5
    go_wp2
    go_ret
    exact ⟨rfl, Below.refl _ _⟩
  · have h2 : ¬ (2147483647 : Int) < (n : Int) := by omega
    have h3 : (2147483647 : Int) < (l : Int) := by omega
    clear h
    go_enter Try.func5, Try.ntmps5
    go_wp2
    go_ret
    exact ⟨rfl, Below.refl _ _⟩
set_option maxHeartbeats 800000 in
theorem FnPutExt_not (A D : Option Addr) (n cap l dcap : Nat) (kind : Int) (w : World) (h' : n ≤ 2147483647) (hl' : l ≤ 2147483647) (h : 200 < n ∨ 131072 < l) : Calls Try.prog 5 #[.slice A n cap, .int .i8 kind, .slice D l dcap] w (TrueR w) := by
  have hf := few_any A n cap
  have h1 : ¬ (2147483647 : Int) < (n : Int) := by omega
  have h2 : ¬ (2147483647 : Int) < (l : Int) := by omega
  have hcase : 200 < n ∨ (n ≤ 200 ∧ 131072 < l) := by omega
  have hn9 : n ≤ 9223372036854775807 := by omega
  clear h
  rcases hcase with hc | ⟨hc, hc2⟩
  · have hd : decide (n ≤ 200) = false := by simp; omega
    rw [hd] at hf
    have HF := hide hf
    clear hf hc hd
    go_enter Try.func5, Try.ntmps5
    go_wp2_with (first
      | (go_at_call 12; go_loud (refine (PutExt_awake w).mono ?_; rintro e w1 ⟨A1, c1, rfl, hb1⟩))
      | (go_at_call 9; go_loud (refine (unhide HF _ hn9).mono ?_; rintro e w2 ⟨rfl, rfl⟩)))
    go_ret
    exact ⟨rfl, hb1⟩
  · have hd : decide (n ≤ 200) = true := by simp; omega
    have h3 : (131072 : Int) < (l : Int) := by omega
    rw [hd] at hf
    have HF := hide hf
    clear hf hc hd hc2
    go_enter Try.func5, Try.ntmps5
    go_wp2_with (first
      | (go_at_call 12; go_loud (refine (PutExt_awake w).mono ?_; rintro e w1 ⟨A1, c1, rfl, hb1⟩))
      | (go_at_call 9; go_loud (refine (unhide HF _ hn9).mono ?_; rintro e w2 ⟨rfl, rfl⟩)))
    go_ret
    exact ⟨rfl, hb1⟩
set_option maxRecDepth 100000 in
set_option maxHeartbeats 1600000 in
theorem FnPutExt_few (A D : Option Addr) (bs ds : List UInt8) (cap dcap l : Nat) (kind : Int) (hk0 : -128 ≤ kind) (hk1 : kind ≤ 127) (w : World) (h : bs.length ≤ 200) (hl : l = ds.length) (hld : l ≤ 131072) (hc : bs.length ≤ cap) (hm : cap ≤ maxLen) (hr : RB w (Lt w.heap.size) A bs) (hrD : RB w (Lt w.heap.size) D ds) :
    Calls Try.prog 5 #[.slice A bs.length cap, .int .i8 kind, .slice D l dcap] w (TrueR w) := by
  have hm : cap ≤ 9223372036854775807 := hm
  have hd : decide (bs.length ≤ 200) = true := by simp; omega
  have hf := few_any A bs.length cap
  rw [hd] at hf
  have HF := hide hf
  have hread := encE_read kind ds hk0 hk1 (by omega)
  have helen := encE_len kind ds (by omega)
  have h1 : ¬ (2147483647 : Int) < (bs.length : Int) := by omega
  have h2 : ¬ (2147483647 : Int) < (l : Int) := by omega
  have h3 : ¬ (131072 : Int) < (l : Int) := by omega
  have hP := fun (S S2 : Nat → Prop) (A3 : Option Addr) (c3 : Nat) (W : World) (hr : RB W S A3 bs) (hS : Old W S) (hr2 : RB W S2 D ds) (hS2 : Old W S2) => PutExt_any S S2 A3 D bs ds bs.length c3 l dcap kind hk0 hk1 W rfl hl hr hS hr2 hS2 (by omega) hld
  have HP := hide hP
  have HL := hide hl
  obtain ⟨ec, hec⟩ : ∃ ec, ec = encE kind ds := ⟨_, rfl⟩
  rw [← hec] at hread helen
  have HEC := hide hec
  have HREAD := hide hread
  have HELEN := hide helen
  clear hf hd hread helen hP hl hec hld
  go_enter Try.func5, Try.ntmps5
  go_wp2_with (first
    | (go_at_call 12; have hg9 := hgrow3; clear hg9; go_loud (refine (unhide HP (fun b => w1.heap.size ≤ b ∧ b < w3.heap.size) (Lt w.heap.size) A3 c3 w3 (by unfold RB; simpa using hr3) (fun b hb => hb.2) (hrD1.keep (stays_below (Stays.refl _ _) hb3 ho1)) (old_below hb3 ho1)).mono ?_; rw [← unhide HEC]; rintro e w4 ⟨A4, c4, rfl, hc4, hcm4, hr4, hb4⟩; have hr5 := hr1.keep (stays_below (stays_below (Stays.refl _ _) hb3 ho1) hb4 (old_below hb3 ho1)); have hrD5 := hrD1.keep (stays_below (stays_below (Stays.refl _ _) hb3 ho1) hb4 (old_below hb3 ho1)); have ho5 := old_below hb4 (old_below hb3 ho1); have hcvD : ∀ (W : World) (c : Nat), Stays (Lt w.heap.size) w4 W → (convert 22 9 (.slice D l c)).run Try.prog W = .ok (.string ⟨ds.toArray⟩) W := (fun W c hw => (by have h := run_string_of_bytes (P := Try.prog) 22 9 5 Try.underlying22 Try.underlying5 Try.underlying9 (hrD5.keep hw) c; rw [← unhide HL] at h; exact h)); have hcv4 := hcvD w4 dcap (Stays.refl _ _)))
    | (go_at_call 12; go_loud (refine (PutExt_awake w).mono ?_; rintro e w1 ⟨A1, c1, rfl, hb1⟩; have HB1 := hide hb1; have hr1 := hr.keep (stays_below (Stays.refl _ _) hb1 (Old.lt _)); have hrD1 := hrD.keep (stays_below (Stays.refl _ _) hb1 (Old.lt _)); have ho1 : Old w1 (Lt w.heap.size) := fun b hb => Nat.lt_of_lt_of_le hb hb1.size))
    | (go_at_call 9; go_loud (refine (unhide HF _ (by omega)).mono ?_; rintro e w2 ⟨rfl, rfl⟩))
    | (at_builtin; obtain ⟨i0, hi0, hz0, hz1', hz2⟩ := info_parts info5; refine wpList_append_any (S := Lt w.heap.size) _ rfl _ _ _ rfl w1.heap.size 5 i0 _ 1 1 Try.underlying22 hi0 hz0 hz1' hz2 ?x1 ?x2 (.slice (some ⟨w1.heap.size, 0, none⟩) 0 0) 0 [] ?x3 ?x8 A bs.length cap (bs.map u8) ?x4 ?x5 (u8_one bs) ?c3 ?x7 ?c4 ?_; (case x1 => rfl); (case x2 => omega); (case x3 => rfl); (case x4 => rfl); (case x5 => exact hr1.keep (by go_simp)); (case x7 => omega); (case x8 => exact World.ownsRow_made _ #[] 0 (Nat.le_refl _) (Nat.zero_le _) rfl); (case c3 => unfold maxLen; omega); (case c4 => simp); clear hi0 hz0 hz1' hz2; intro v3 w3 hown3 hgrow3 hat3; have hb3 : Below w1.heap.size w1 w3 := ((by repeat (first | with_reducible exact Below.refl _ _ | with_reducible refine Below.alloc ?_ (by first | omega | (simp; omega) | (simp; done)) _ | with_reducible refine Below.drew ?_ | with_reducible refine below_drewN ?_ _)) : Below w1.heap.size w1 (w1.alloc _)).grown hgrow3 (by simp) (fun k hk => by simp [Value.ownBlock] at hk; omega); obtain ⟨A3, c3, rfl, hc3, hcm3, hr3⟩ := own_slice hown3)
    | (go_at_call 10; go_loud (refine (appended_ok bs ec (.mk 10 0 ds kind []) (.mk 10 0 ds kind []) A A4 bs.length (bs.length + ec.length) cap c4 (-1) _ _ _ _ _ (Lt w.heap.size) (Made w3 w4) (Lt w.heap.size) w4 ho5 ?y1 ho5 rfl rfl hr5 hr4 hc ?y4 hm ?y2 (unhide HELEN) (.inl (by omega)) ?y3 ?y5 ?y6 (unhide HREAD) ?y7).mono ?_; (case y1 => exact fun b hb => hb.2); (case y2 => exact hcm4); (case y4 => simpa using hc4); (case y3 => exact PackC.flat _ _ _ _ _ _); (case y5 => exact ⟨by omega, by simp, trivial⟩); (case y6 => exact ⟨by omega, by simp, trivial⟩); (case y7 => simp [samePk, samePs]); rintro e w5 ⟨rfl, hb5⟩)))
  go_ret
  refine ⟨rfl, ?_⟩
  have k1 := unhide HB1
  have k3 := hb3.mono k1.size
  have k4 := hb4.mono (Nat.le_trans k1.size hb3.size)
  have k5 := hb5.mono (Nat.le_trans (Nat.le_trans k1.size hb3.size) hb4.size)
  exact ((k1.trans k3).trans k4).trans k5
theorem rb_rowE {w : World} {a : Option Addr} {len cap : Nat} {zs : List Int}
    (h : (a = none ∧ len = 0 ∧ cap = 0 ∧ zs = []) ∨ ∃ x, a = some x ∧ len ≤ cap ∧ cap ≤ maxLen ∧ zs.length = cap ∧ (∀ i, i < zs.length → w.cell? (x.add i) = some (.int .u8 (zs.getD i 0))) ∧ ∀ n ∈ zs, (Lit.int .u8 n).wf = true) :
    ∃ bs : List UInt8, len = bs.length ∧ RB w (Lt w.heap.size) a bs ∧ len ≤ cap ∧ cap ≤ maxLen := by
  rcases h with ⟨rfl, rfl, rfl, rfl⟩ | ⟨x, rfl, hl, hm, hz, hc, hwf⟩
  · exact ⟨[], rfl, ⟨by simp, fun h => absurd h (by simp)⟩, Nat.le_refl _, Nat.zero_le _⟩
  · refine ⟨(zs.take len).map fun z => UInt8.ofNat z.toNat, by simp; omega, ⟨by simp, fun h => ⟨x, rfl, ?_, ?_⟩⟩, hl, hm⟩
    · have h0 := hc 0 (by simp at h; omega)
      apply Classical.byContradiction
      intro hn
      have hx : w.heap[x.block]? = none := Array.getElem?_eq_none (by simp [Lt] at hn; omega)
      simp [World.cell?, Addr.add, hx] at h0
    · intro j u hu
      simp only [List.map_map, List.getElem?_map, List.getElem?_take] at hu
      split at hu
      · rename_i hj
        have hjz : j < zs.length := by omega
        rw [List.getElem?_eq_getElem hjz] at hu
        simp only [Option.map_some, Option.some.injEq] at hu
        have hw := hwf zs[j] (List.getElem_mem hjz)
        rw [hc j hjz, ← hu]
        simp only [List.getD_eq_getElem?_getD, List.getElem?_eq_getElem hjz, Option.getD_some, Function.comp]
        have hb : 0 ≤ zs[j] ∧ zs[j] ≤ 255 := by
          simp [Lit.wf, IntKind.signed, IntKind.bits, IntKind.min, IntKind.max] at hw
          omega
        unfold u8
        simp
        omega
      · simp at hu
theorem FnPutExt_walk (A : Option Addr) (n cap : Nat) (zs : List Int) (kind : Int) (D : Option Addr) (l dcap : Nat) (zd : List Int) (w : World) (hrow : (A = none ∧ n = 0 ∧ cap = 0 ∧ zs = []) ∨ ∃ x, A = some x ∧ n ≤ cap ∧ cap ≤ maxLen ∧ zs.length = cap ∧ (∀ i, i < zs.length → w.cell? (x.add i) = some (.int .u8 (zs.getD i 0))) ∧ ∀ n ∈ zs, (Lit.int .u8 n).wf = true) (hk : (Lit.int .i8 kind).wf = true) (hrowD : (D = none ∧ l = 0 ∧ dcap = 0 ∧ zd = []) ∨ ∃ x, D = some x ∧ l ≤ dcap ∧ dcap ≤ maxLen ∧ zd.length = dcap ∧ (∀ i, i < zd.length → w.cell? (x.add i) = some (.int .u8 (zd.getD i 0))) ∧ ∀ n ∈ zd, (Lit.int .u8 n).wf = true) :
    Calls Try.prog 5 #[.slice A n cap, .int .i8 kind, .slice D l dcap] w fun e w' => e = .returned (.bool true) ∧ Below w.heap.size w w' := by
  obtain ⟨bs, rfl, hr, hc, hm⟩ := rb_rowE hrow
  obtain ⟨ds, hl, hrD, _, _⟩ := rb_rowE hrowD
  simp [Lit.wf, IntKind.signed, IntKind.bits, IntKind.min, IntKind.max] at hk
  by_cases hf : 2147483647 < bs.length ∨ 2147483647 < l
  · exact FnPutExt_far A D _ cap l dcap kind w hf
  by_cases h2 : 200 < bs.length ∨ 131072 < l
  · exact FnPutExt_not A D _ cap l dcap kind w (by omega) (by omega) h2
  · exact FnPutExt_few A D bs ds cap dcap l kind (by omega) (by omega) w (by omega) hl (by omega) hc hm hr hrD
end Go.Proofs.Ytloaaffkjhkpaaa
