/-
  The reference's reader of a value of MessagePack (spec.TakePack) computes the plain function tPack; conditions: the data read as bytes, at most 2^40 of them, and at most 1000 levels.
-/
import Derived.Test.YtlnpiigdjjadiaaPackRead3
import Derived.Test.YtlnpiigdjjadiaaPackRead4
import Derived.Test.YtlnpiigdjjadiaaPackRead6
import Derived.Test.YtlnpiigdjjadiaaPackRead7
import Derived.Test.YtlnpiigdjjadiaaPackRead8
import Derived.Test.YtlnpiigdjjadiaaPackRead9
namespace Go.Proofs.Ytlnpiigdjjadiaa
set_option linter.unusedSimpArgs false
set_option linter.unusedVariables false
set_option linter.unusedVariables false
open Go.RowKit
theorem takeCoded_hi (lv : Nat) (_hl : lv ≤ 1000) (hK : TakesKids lv) (b : Nat) (hb1 : 212 ≤ b) (hb2 : b ≤ 223) (S : Nat → Prop) (A : Option Addr) (bs : List UInt8) (cap : Nat) (w : World)
    (hr : RB w S A bs) (hc : bs.length ≤ cap) (hcap : cap ≤ 9223372036854775807) (h40 : bs.length ≤ 1099511627776) (hS : Old w S) (hn : codeSize b ≤ bs.length) :
    Calls Try.prog 29 #[.int .i64 b, .slice A bs.length cap, .int .i64 (lv + 1)] w (Took S w (tCoded (tPack lv) b bs)) := by
  by_cases c0 : b = 212
  · exact takeCoded_g212 _ b _ (by omega) (by omega) S A bs cap w hr hc hcap hS hn
  by_cases c1 : b = 213
  · exact takeCoded_g213 _ b _ (by omega) (by omega) S A bs cap w hr hc hcap hS hn
  by_cases c2 : b = 214
  · exact takeCoded_g214 _ b _ (by omega) (by omega) S A bs cap w hr hc hcap hS hn
  by_cases c3 : b = 215
  · exact takeCoded_g215 _ b _ (by omega) (by omega) S A bs cap w hr hc hcap hS hn
  by_cases c4 : b = 216
  · exact takeCoded_g216 _ b _ (by omega) (by omega) S A bs cap w hr hc hcap hS hn
  by_cases c5 : b ≤ 219
  · exact takeCoded_g219 _ b _ (by omega) (by omega) S A bs cap w hr hc hcap hS hn
  by_cases h0 : (bs.drop (codeSize b)).length < bigN (bs.take (codeSize b))
  · by_cases c6 : b ≤ 221
    · exact takeCoded_g221n _ b _ (by omega) (by omega) S A bs cap w hr hc hcap hS hn h40 h0
    · exact takeCoded_g222n _ b _ (by omega) (by omega) S A bs cap w hr hc hcap hS hn h40 h0
  by_cases c6 : b ≤ 221
  · exact takeCoded_g221 lv b (tPack lv) (by omega) (by omega) S A bs cap w hr hc hcap hS hn h40 hK h0
  by_cases h1 : (bs.drop (codeSize b)).length < 2 * bigN (bs.take (codeSize b))
  · exact takeCoded_g223n _ b _ (by omega) (by omega) S A bs cap w hr hc hcap hS hn h40 h0 h1
  · exact takeCoded_g223 lv b (tPack lv) (by omega) (by omega) S A bs cap w hr hc hcap hS hn h40 hK h0 h1
theorem i64_and15 (n : Nat) (h : n < 256) : bits BinOp.and IntKind.i64 (n : Int) 15 = ((n % 16 : Nat) : Int) := by
  revert n
  decide +kernel
theorem i64_and31 (n : Nat) (h : n < 256) : bits BinOp.and IntKind.i64 (n : Int) 31 = ((n % 32 : Nat) : Int) := by
  revert n
  decide +kernel
theorem takeCoded_any (lv : Nat) (hl : lv ≤ 1000) (hK : TakesKids lv) (b : Nat) (hb1 : 192 ≤ b) (hb2 : b ≤ 223) (S : Nat → Prop) (A : Option Addr) (bs : List UInt8) (m : Nat) (cap : Nat) (lv' : Int) (w : World) (hm : m = bs.length) (hlv : lv' = lv + 1)
    (hr : RB w S A bs) (hc : bs.length ≤ cap) (hcap : cap ≤ 9223372036854775807) (h40 : bs.length ≤ 1099511627776) (hS : Old w S) :
    Calls Try.prog 29 #[.int .i64 b, .slice A m cap, .int .i64 lv'] w (Took S w (tCoded (tPack lv) b bs)) := by
  subst hm hlv
  by_cases hn : bs.length < codeSize b
  · have : tCoded (tPack lv) b bs = none := by
      unfold tCoded
      simp only
      rw [if_pos (Or.inl hn)]
    rw [this]
    exact takeCoded_no _ b (by omega) S A bs.length cap w (by omega) hn
  have hn : codeSize b ≤ bs.length := by omega
  by_cases c0 : b = 192
  · exact takeCoded_g192 _ b _ (by omega) (by omega) S A bs cap w hr hc hcap hS hn
  by_cases c1 : b = 193
  · exact takeCoded_g193 _ b _ (by omega) (by omega) S A bs cap w hr hc hcap hS hn
  by_cases c2 : b = 194
  · exact takeCoded_g194 _ b _ (by omega) (by omega) S A bs cap w hr hc hcap hS hn
  by_cases c3 : b = 195
  · exact takeCoded_g195 _ b _ (by omega) (by omega) S A bs cap w hr hc hcap hS hn
  by_cases c4 : b ≤ 198
  · exact takeCoded_g198 _ b _ (by omega) (by omega) S A bs cap w hr hc hcap hS hn
  by_cases c5 : b ≤ 201
  · exact takeCoded_g201 _ b _ (by omega) (by omega) S A bs cap w hr hc hcap hS hn
  by_cases c6 : b = 202
  · exact takeCoded_g202 _ b _ (by omega) (by omega) S A bs cap w hr hc hcap hS hn
  by_cases c7 : b = 203
  · exact takeCoded_g203 _ b _ (by omega) (by omega) S A bs cap w hr hc hcap hS hn
  by_cases c8 : b ≤ 207
  · exact takeCoded_g207 _ b _ (by omega) (by omega) S A bs cap w hr hc hcap hS hn
  by_cases hs : 0 ≤ signed (codeSize b) (bigN (bs.take (codeSize b)))
  · by_cases d8 : b = 208
    · exact takeCoded_g208p _ b _ (by omega) (by omega) S A bs cap w hr hc hcap hS hn hs
    by_cases d9 : b = 209
    · exact takeCoded_g209p _ b _ (by omega) (by omega) S A bs cap w hr hc hcap hS hn hs
    by_cases d10 : b = 210
    · exact takeCoded_g210p _ b _ (by omega) (by omega) S A bs cap w hr hc hcap hS hn hs
    by_cases d11 : b = 211
    · exact takeCoded_g211p _ b _ (by omega) (by omega) S A bs cap w hr hc hcap hS hn hs
    exact takeCoded_hi lv hl hK b (by omega) hb2 S A bs cap w hr hc hcap h40 hS hn
  · by_cases d8 : b = 208
    · exact takeCoded_g208n _ b _ (by omega) (by omega) S A bs cap w hr hc hcap hS hn hs
    by_cases d9 : b = 209
    · exact takeCoded_g209n _ b _ (by omega) (by omega) S A bs cap w hr hc hcap hS hn hs
    by_cases d10 : b = 210
    · exact takeCoded_g210n _ b _ (by omega) (by omega) S A bs cap w hr hc hcap hS hn hs
    by_cases d11 : b = 211
    · exact takeCoded_g211n _ b _ (by omega) (by omega) S A bs cap w hr hc hcap hS hn hs
    exact takeCoded_hi lv hl hK b (by omega) hb2 S A bs cap w hr hc hcap h40 hS hn
set_option maxRecDepth 100000 in
set_option maxHeartbeats 800000 in
theorem takePack_fix (lv : Nat) (hl : lv ≤ 1000) (S : Nat → Prop) (A : Option Addr) (c : UInt8) (bs : List UInt8) (cap : Nat) (w : World)
    (hr : RB w S A (c :: bs)) (hc : bs.length + 1 ≤ cap) (hcap : cap ≤ 9223372036854775807) (h40 : bs.length ≤ 1099511627776) (hS : Old w S) (hb1 : 0 ≤ c.toNat) (hb2 : c.toNat ≤ 127) :
    Calls Try.prog 17 #[.slice A (bs.length + 1) cap, .int .i64 (lv + 1)] w (Took S w (tPack (lv + 1) (c :: bs))) := by
  have hgoal : tPack (lv + 1) (c :: bs) = some (.mk 3 c.toNat [] 0 [], bs) := by
    rw [tPack]
    rw [if_pos (by omega)]
  obtain ⟨T, hT⟩ : ∃ T, T = Took S w (some (.mk 3 c.toNat [] 0 [], bs)) := ⟨_, rfl⟩
  rw [hgoal, ← hT]
  have HT := hide hT
  clear hT hgoal
  have hcut := hr.cut (k := 1) (cap := cap) (by simp) (by simpa using hc)
  rw [show (c :: bs).drop 1 = bs from rfl] at hcut
  obtain ⟨ad, rfl, hSb, hcell⟩ := hr.at_ (k := 0) (by simp)
  simp only [u8, add_zero_, List.getElem_cons_zero] at hcell
  have hlt0 := hS _ hSb
  have h1 : ((bs.length : Int) + 1 == 0) = false := by simp; omega
  have hc256 := c.toNat_lt
  go_enter Try.func17, Try.ntmps17
  go_wp2
  go_quiet (fail)
  have hq := Quiet.drewN ((w.alloc (.cells #[.int .i64 0, .int .u64 0, .string ⟨#[]⟩, .int .i64 0, .slice none 0 0] 31)).alloc (.cells #[.int .i64 0, .int .u64 0, .string ⟨#[]⟩, .int .i64 0, .slice none 0 0] 31)) nq
  generalize ((w.alloc (.cells #[.int .i64 0, .int .u64 0, .string ⟨#[]⟩, .int .i64 0, .slice none 0 0] 31)).alloc (.cells #[.int .i64 0, .int .u64 0, .string ⟨#[]⟩, .int .i64 0, .slice none 0 0] 31)).drewN nq = w3 at hq ⊢
  have hb3 := hq.below (((Below.refl w.heap.size w).alloc (Nat.le_refl _) _).alloc (by first | omega | (simp; omega) | (simp; done)) _)
  have hst : Stays S w w3 := hq.stays (by go_simp)
  have ho3 : Old w3 S := hq.old (by go_simp)
  have hB0 := hq.blk ((Blk.new w 31 _).alloc _)
  have hz3 := hq.size
  simp only [World.size_alloc] at hz3
  clear hq
  obtain ⟨⟨p0, p1, p2, p3, p4⟩, ⟨q0, q1, q2, q3, q4⟩⟩ := five_cells hB0
  go_wp2_with fail
  refine bodyPost_ret (v := .tuple #[packV 3 c.toNat [] 0 none 0 0, .slice (cutA (some ad) cap 1 1) bs.length (cap - 1), .bool true]) (by simp [results, Try.results17, go_sem, p0, p1, p2, p3, p4]) rfl ?_
  rw [unhide HT]
  exact took_flat rfl (below_set5 hb3 (Nat.le_refl _) _ _ _ _ _) (hcut.keep (stays_set5 hst (fun h => by have := hS _ h; omega) _ _ _ _ _)) (by first | omega | (simp; omega) | (simp; done)) (by unfold maxLen; omega)
set_option maxRecDepth 100000 in
set_option maxHeartbeats 800000 in
theorem takePack_neg (lv : Nat) (hl : lv ≤ 1000) (S : Nat → Prop) (A : Option Addr) (c : UInt8) (bs : List UInt8) (cap : Nat) (w : World)
    (hr : RB w S A (c :: bs)) (hc : bs.length + 1 ≤ cap) (hcap : cap ≤ 9223372036854775807) (h40 : bs.length ≤ 1099511627776) (hS : Old w S) (hb1 : 224 ≤ c.toNat) (hb2 : c.toNat ≤ 255) :
    Calls Try.prog 17 #[.slice A (bs.length + 1) cap, .int .i64 (lv + 1)] w (Took S w (tPack (lv + 1) (c :: bs))) := by
  have hgoal : tPack (lv + 1) (c :: bs) = some (.mk 2 (c.toNat + 18446744073709551360) [] 0 [], bs) := by
    rw [tPack]
    rw [if_neg (by omega), if_pos (by omega)]
  obtain ⟨T, hT⟩ : ∃ T, T = Took S w (some (.mk 2 (c.toNat + 18446744073709551360) [] 0 [], bs)) := ⟨_, rfl⟩
  rw [hgoal, ← hT]
  have HT := hide hT
  clear hT hgoal
  have hcut := hr.cut (k := 1) (cap := cap) (by simp) (by simpa using hc)
  rw [show (c :: bs).drop 1 = bs from rfl] at hcut
  obtain ⟨ad, rfl, hSb, hcell⟩ := hr.at_ (k := 0) (by simp)
  simp only [u8, add_zero_, List.getElem_cons_zero] at hcell
  have hlt0 := hS _ hSb
  have h1 : ((bs.length : Int) + 1 == 0) = false := by simp; omega
  have hc256 := c.toNat_lt
  have hi8 : IntKind.i8.wrap (c.toNat : Int) = (c.toNat : Int) - 256 := by
    rw [i8of_eq]
    unfold i8of
    rw [if_neg (by omega)]
  have hi64 : IntKind.u64.wrap ((c.toNat : Int) - 256) = ((c.toNat + 18446744073709551360 : Nat) : Int) := by
    rw [u64_neg _ (by omega) (by omega)]
    omega
  go_enter Try.func17, Try.ntmps17
  go_wp2
  go_quiet (fail)
  have hq := Quiet.drewN ((w.alloc (.cells #[.int .i64 0, .int .u64 0, .string ⟨#[]⟩, .int .i64 0, .slice none 0 0] 31)).alloc (.cells #[.int .i64 0, .int .u64 0, .string ⟨#[]⟩, .int .i64 0, .slice none 0 0] 31)) nq
  generalize ((w.alloc (.cells #[.int .i64 0, .int .u64 0, .string ⟨#[]⟩, .int .i64 0, .slice none 0 0] 31)).alloc (.cells #[.int .i64 0, .int .u64 0, .string ⟨#[]⟩, .int .i64 0, .slice none 0 0] 31)).drewN nq = w3 at hq ⊢
  have hb3 := hq.below (((Below.refl w.heap.size w).alloc (Nat.le_refl _) _).alloc (by first | omega | (simp; omega) | (simp; done)) _)
  have hst : Stays S w w3 := hq.stays (by go_simp)
  have ho3 : Old w3 S := hq.old (by go_simp)
  have hB0 := hq.blk ((Blk.new w 31 _).alloc _)
  have hz3 := hq.size
  simp only [World.size_alloc] at hz3
  clear hq
  obtain ⟨⟨p0, p1, p2, p3, p4⟩, ⟨q0, q1, q2, q3, q4⟩⟩ := five_cells hB0
  go_wp2_with fail
  refine bodyPost_ret (v := .tuple #[packV 2 (c.toNat + 18446744073709551360) [] 0 none 0 0, .slice (cutA (some ad) cap 1 1) bs.length (cap - 1), .bool true]) (by simp [results, Try.results17, go_sem, p0, p1, p2, p3, p4]) rfl ?_
  rw [unhide HT]
  exact took_flat rfl (below_set5 hb3 (Nat.le_refl _) _ _ _ _ _) (hcut.keep (stays_set5 hst (fun h => by have := hS _ h; omega) _ _ _ _ _)) (by first | omega | (simp; omega) | (simp; done)) (by unfold maxLen; omega)
set_option maxRecDepth 100000 in
set_option maxHeartbeats 800000 in
theorem takePack_map (lv : Nat) (hl : lv ≤ 1000) (hK : TakesKids lv) (S : Nat → Prop) (A : Option Addr) (c : UInt8) (bs : List UInt8) (cap : Nat) (w : World)
    (hr : RB w S A (c :: bs)) (hc : bs.length + 1 ≤ cap) (hcap : cap ≤ 9223372036854775807) (h40 : bs.length ≤ 1099511627776) (hS : Old w S) (hb1 : 128 ≤ c.toNat) (hb2 : c.toNat ≤ 143) :
    Calls Try.prog 17 #[.slice A (bs.length + 1) cap, .int .i64 (lv + 1)] w (Took S w (tPack (lv + 1) (c :: bs))) := by
  have hgoal : tPack (lv + 1) (c :: bs) = tList (tPack lv) 9 (2 * (c.toNat % 16)) bs := by
    rw [tPack]
    rw [if_neg (by omega), if_neg (by omega), if_pos (by omega)]
  obtain ⟨T, hT⟩ : ∃ T, T = Took S w (tList (tPack lv) 9 (2 * (c.toNat % 16)) bs) := ⟨_, rfl⟩
  rw [hgoal, ← hT]
  have HT := hide hT
  clear hT hgoal
  have hcut := hr.cut (k := 1) (cap := cap) (by simp) (by simpa using hc)
  rw [show (c :: bs).drop 1 = bs from rfl] at hcut
  obtain ⟨ad, rfl, hSb, hcell⟩ := hr.at_ (k := 0) (by simp)
  simp only [u8, add_zero_, List.getElem_cons_zero] at hcell
  have hlt0 := hS _ hSb
  have h1 : ((bs.length : Int) + 1 == 0) = false := by simp; omega
  have hc256 := c.toNat_lt
  have hand := i64_and15 c.toNat hc256
  go_enter Try.func17, Try.ntmps17
  go_wp2
  go_quiet (fail)
  have hq := Quiet.drewN ((w.alloc (.cells #[.int .i64 0, .int .u64 0, .string ⟨#[]⟩, .int .i64 0, .slice none 0 0] 31)).alloc (.cells #[.int .i64 0, .int .u64 0, .string ⟨#[]⟩, .int .i64 0, .slice none 0 0] 31)) nq
  generalize ((w.alloc (.cells #[.int .i64 0, .int .u64 0, .string ⟨#[]⟩, .int .i64 0, .slice none 0 0] 31)).alloc (.cells #[.int .i64 0, .int .u64 0, .string ⟨#[]⟩, .int .i64 0, .slice none 0 0] 31)).drewN nq = w3 at hq ⊢
  have hb3 := hq.below (((Below.refl w.heap.size w).alloc (Nat.le_refl _) _).alloc (by first | omega | (simp; omega) | (simp; done)) _)
  have hst : Stays S w w3 := hq.stays (by go_simp)
  have ho3 : Old w3 S := hq.old (by go_simp)
  have hB0 := hq.blk ((Blk.new w 31 _).alloc _)
  have hz3 := hq.size
  simp only [World.size_alloc] at hz3
  clear hq
  obtain ⟨⟨p0, p1, p2, p3, p4⟩, ⟨q0, q1, q2, q3, q4⟩⟩ := five_cells hB0
  go_wp2_with fail
  refine (hK 9 _ _ (2 * (c.toNat % 16)) S _ bs _ _ _ (by simp) (by simp) rfl (hcut.keep hst) (by omega) (by omega) (by omega) ho3 (by omega)).mono ?_
  rintro e w2 ⟨kind, num, text, ext, K, kl, kc, A2, n2, cap2, bo, rfl, hbel, htr⟩
  clear p0 p1 p2 p3 p4 q0 q1 q2 q3 q4
  obtain ⟨⟨a0, a1, a2, a3, a4⟩, ⟨f0, f1, f2, f3, f4⟩⟩ := five_cells (hB0.below hbel (by first | omega | (simp; omega) | (simp; done)))
  have hz := hbel.size
  go_wp2
  refine bodyPost_ret (v := .tuple #[packV kind num text ext K kl kc, .slice A2 n2 cap2, .bool bo]) (by simp [results, Try.results17, go_sem, a0, a1, a2, a3, a4]) rfl ?_
  rw [unhide HT]
  exact ⟨_, _, _, _, _, _, _, _, _, _, _, rfl, below_set5 (hb3.trans (hbel.mono (by first | omega | (simp; omega) | (simp; done)))) (Nat.le_refl _) _ _ _ _ _, tookR_later htr (by first | omega | (simp; omega) | (simp; done)) (stays_set5 (Stays.refl _ _) (by first | omega | (simp; omega) | (simp; done)) _ _ _ _ _) (stays_set5 (Stays.refl _ _) (fun h => by have := hS _ h; omega) _ _ _ _ _) (by first | omega | (simp; omega) | (simp; done))⟩
set_option maxRecDepth 100000 in
set_option maxHeartbeats 800000 in
theorem takePack_arr (lv : Nat) (hl : lv ≤ 1000) (hK : TakesKids lv) (S : Nat → Prop) (A : Option Addr) (c : UInt8) (bs : List UInt8) (cap : Nat) (w : World)
    (hr : RB w S A (c :: bs)) (hc : bs.length + 1 ≤ cap) (hcap : cap ≤ 9223372036854775807) (h40 : bs.length ≤ 1099511627776) (hS : Old w S) (hb1 : 144 ≤ c.toNat) (hb2 : c.toNat ≤ 159) :
    Calls Try.prog 17 #[.slice A (bs.length + 1) cap, .int .i64 (lv + 1)] w (Took S w (tPack (lv + 1) (c :: bs))) := by
  have hgoal : tPack (lv + 1) (c :: bs) = tList (tPack lv) 8 (c.toNat % 16) bs := by
    rw [tPack]
    rw [if_neg (by omega), if_neg (by omega), if_neg (by omega), if_pos (by omega)]
  obtain ⟨T, hT⟩ : ∃ T, T = Took S w (tList (tPack lv) 8 (c.toNat % 16) bs) := ⟨_, rfl⟩
  rw [hgoal, ← hT]
  have HT := hide hT
  clear hT hgoal
  have hcut := hr.cut (k := 1) (cap := cap) (by simp) (by simpa using hc)
  rw [show (c :: bs).drop 1 = bs from rfl] at hcut
  obtain ⟨ad, rfl, hSb, hcell⟩ := hr.at_ (k := 0) (by simp)
  simp only [u8, add_zero_, List.getElem_cons_zero] at hcell
  have hlt0 := hS _ hSb
  have h1 : ((bs.length : Int) + 1 == 0) = false := by simp; omega
  have hc256 := c.toNat_lt
  have hand := i64_and15 c.toNat hc256
  go_enter Try.func17, Try.ntmps17
  go_wp2
  go_quiet (fail)
  have hq := Quiet.drewN ((w.alloc (.cells #[.int .i64 0, .int .u64 0, .string ⟨#[]⟩, .int .i64 0, .slice none 0 0] 31)).alloc (.cells #[.int .i64 0, .int .u64 0, .string ⟨#[]⟩, .int .i64 0, .slice none 0 0] 31)) nq
  generalize ((w.alloc (.cells #[.int .i64 0, .int .u64 0, .string ⟨#[]⟩, .int .i64 0, .slice none 0 0] 31)).alloc (.cells #[.int .i64 0, .int .u64 0, .string ⟨#[]⟩, .int .i64 0, .slice none 0 0] 31)).drewN nq = w3 at hq ⊢
  have hb3 := hq.below (((Below.refl w.heap.size w).alloc (Nat.le_refl _) _).alloc (by first | omega | (simp; omega) | (simp; done)) _)
  have hst : Stays S w w3 := hq.stays (by go_simp)
  have ho3 : Old w3 S := hq.old (by go_simp)
  have hB0 := hq.blk ((Blk.new w 31 _).alloc _)
  have hz3 := hq.size
  simp only [World.size_alloc] at hz3
  clear hq
  obtain ⟨⟨p0, p1, p2, p3, p4⟩, ⟨q0, q1, q2, q3, q4⟩⟩ := five_cells hB0
  go_wp2_with fail
  refine (hK 8 _ _ (c.toNat % 16) S _ bs _ _ _ (by simp) (by simp) rfl (hcut.keep hst) (by omega) (by omega) (by omega) ho3 (by omega)).mono ?_
  rintro e w2 ⟨kind, num, text, ext, K, kl, kc, A2, n2, cap2, bo, rfl, hbel, htr⟩
  clear p0 p1 p2 p3 p4 q0 q1 q2 q3 q4
  obtain ⟨⟨a0, a1, a2, a3, a4⟩, ⟨f0, f1, f2, f3, f4⟩⟩ := five_cells (hB0.below hbel (by first | omega | (simp; omega) | (simp; done)))
  have hz := hbel.size
  go_wp2
  refine bodyPost_ret (v := .tuple #[packV kind num text ext K kl kc, .slice A2 n2 cap2, .bool bo]) (by simp [results, Try.results17, go_sem, a0, a1, a2, a3, a4]) rfl ?_
  rw [unhide HT]
  exact ⟨_, _, _, _, _, _, _, _, _, _, _, rfl, below_set5 (hb3.trans (hbel.mono (by first | omega | (simp; omega) | (simp; done)))) (Nat.le_refl _) _ _ _ _ _, tookR_later htr (by first | omega | (simp; omega) | (simp; done)) (stays_set5 (Stays.refl _ _) (by first | omega | (simp; omega) | (simp; done)) _ _ _ _ _) (stays_set5 (Stays.refl _ _) (fun h => by have := hS _ h; omega) _ _ _ _ _) (by first | omega | (simp; omega) | (simp; done))⟩
set_option maxRecDepth 100000 in
set_option maxHeartbeats 800000 in
theorem takePack_txt (lv : Nat) (hl : lv ≤ 1000) (S : Nat → Prop) (A : Option Addr) (c : UInt8) (bs : List UInt8) (cap : Nat) (w : World)
    (hr : RB w S A (c :: bs)) (hc : bs.length + 1 ≤ cap) (hcap : cap ≤ 9223372036854775807) (h40 : bs.length ≤ 1099511627776) (hS : Old w S) (hb1 : 160 ≤ c.toNat) (hb2 : c.toNat ≤ 191) :
    Calls Try.prog 17 #[.slice A (bs.length + 1) cap, .int .i64 (lv + 1)] w (Took S w (tPack (lv + 1) (c :: bs))) := by
  have hgoal : tPack (lv + 1) (c :: bs) = tText 6 (c.toNat % 32) bs := by
    rw [tPack]
    rw [if_neg (by omega), if_neg (by omega), if_neg (by omega), if_neg (by omega), if_pos (by omega)]
  obtain ⟨T, hT⟩ : ∃ T, T = Took S w (tText 6 (c.toNat % 32) bs) := ⟨_, rfl⟩
  rw [hgoal, ← hT]
  have HT := hide hT
  clear hT hgoal
  have hcut := hr.cut (k := 1) (cap := cap) (by simp) (by simpa using hc)
  rw [show (c :: bs).drop 1 = bs from rfl] at hcut
  obtain ⟨ad, rfl, hSb, hcell⟩ := hr.at_ (k := 0) (by simp)
  simp only [u8, add_zero_, List.getElem_cons_zero] at hcell
  have hlt0 := hS _ hSb
  have h1 : ((bs.length : Int) + 1 == 0) = false := by simp; omega
  have hc256 := c.toNat_lt
  have hand := i64_and31 c.toNat hc256
  go_enter Try.func17, Try.ntmps17
  go_wp2
  go_quiet (fail)
  have hq := Quiet.drewN ((w.alloc (.cells #[.int .i64 0, .int .u64 0, .string ⟨#[]⟩, .int .i64 0, .slice none 0 0] 31)).alloc (.cells #[.int .i64 0, .int .u64 0, .string ⟨#[]⟩, .int .i64 0, .slice none 0 0] 31)) nq
  generalize ((w.alloc (.cells #[.int .i64 0, .int .u64 0, .string ⟨#[]⟩, .int .i64 0, .slice none 0 0] 31)).alloc (.cells #[.int .i64 0, .int .u64 0, .string ⟨#[]⟩, .int .i64 0, .slice none 0 0] 31)).drewN nq = w3 at hq ⊢
  have hb3 := hq.below (((Below.refl w.heap.size w).alloc (Nat.le_refl _) _).alloc (by first | omega | (simp; omega) | (simp; done)) _)
  have hst : Stays S w w3 := hq.stays (by go_simp)
  have ho3 : Old w3 S := hq.old (by go_simp)
  have hB0 := hq.blk ((Blk.new w 31 _).alloc _)
  have hz3 := hq.size
  simp only [World.size_alloc] at hz3
  clear hq
  obtain ⟨⟨p0, p1, p2, p3, p4⟩, ⟨q0, q1, q2, q3, q4⟩⟩ := five_cells hB0
  go_wp2_with fail
  refine (takeText_any 6 _ (c.toNat % 32) (by simp) _ bs _ _ S _ rfl (hcut.keep hst) (by omega) (by omega) ho3 (by omega)).mono ?_
  rintro e w2 ⟨kind, num, text, ext, K, kl, kc, A2, n2, cap2, bo, rfl, hbel, htr⟩
  clear p0 p1 p2 p3 p4 q0 q1 q2 q3 q4
  obtain ⟨⟨a0, a1, a2, a3, a4⟩, ⟨f0, f1, f2, f3, f4⟩⟩ := five_cells (hB0.below hbel (by first | omega | (simp; omega) | (simp; done)))
  have hz := hbel.size
  go_wp2
  refine bodyPost_ret (v := .tuple #[packV kind num text ext K kl kc, .slice A2 n2 cap2, .bool bo]) (by simp [results, Try.results17, go_sem, a0, a1, a2, a3, a4]) rfl ?_
  rw [unhide HT]
  exact ⟨_, _, _, _, _, _, _, _, _, _, _, rfl, below_set5 (hb3.trans (hbel.mono (by first | omega | (simp; omega) | (simp; done)))) (Nat.le_refl _) _ _ _ _ _, tookR_later htr (by first | omega | (simp; omega) | (simp; done)) (stays_set5 (Stays.refl _ _) (by first | omega | (simp; omega) | (simp; done)) _ _ _ _ _) (stays_set5 (Stays.refl _ _) (fun h => by have := hS _ h; omega) _ _ _ _ _) (by first | omega | (simp; omega) | (simp; done))⟩
set_option maxRecDepth 100000 in
set_option maxHeartbeats 800000 in
theorem takePack_cod (lv : Nat) (hl : lv ≤ 1000) (hK : TakesKids lv) (S : Nat → Prop) (A : Option Addr) (c : UInt8) (bs : List UInt8) (cap : Nat) (w : World)
    (hr : RB w S A (c :: bs)) (hc : bs.length + 1 ≤ cap) (hcap : cap ≤ 9223372036854775807) (h40 : bs.length ≤ 1099511627776) (hS : Old w S) (hb1 : 192 ≤ c.toNat) (hb2 : c.toNat ≤ 223) :
    Calls Try.prog 17 #[.slice A (bs.length + 1) cap, .int .i64 (lv + 1)] w (Took S w (tPack (lv + 1) (c :: bs))) := by
  have hgoal : tPack (lv + 1) (c :: bs) = tCoded (tPack lv) c.toNat bs := by
    rw [tPack]
    rw [if_neg (by omega), if_neg (by omega), if_neg (by omega), if_neg (by omega), if_neg (by omega)]
  obtain ⟨T, hT⟩ : ∃ T, T = Took S w (tCoded (tPack lv) c.toNat bs) := ⟨_, rfl⟩
  rw [hgoal, ← hT]
  have HT := hide hT
  clear hT hgoal
  have hcut := hr.cut (k := 1) (cap := cap) (by simp) (by simpa using hc)
  rw [show (c :: bs).drop 1 = bs from rfl] at hcut
  obtain ⟨ad, rfl, hSb, hcell⟩ := hr.at_ (k := 0) (by simp)
  simp only [u8, add_zero_, List.getElem_cons_zero] at hcell
  have hlt0 := hS _ hSb
  have h1 : ((bs.length : Int) + 1 == 0) = false := by simp; omega
  have hc256 := c.toNat_lt
  go_enter Try.func17, Try.ntmps17
  go_wp2
  go_quiet (fail)
  have hq := Quiet.drewN ((w.alloc (.cells #[.int .i64 0, .int .u64 0, .string ⟨#[]⟩, .int .i64 0, .slice none 0 0] 31)).alloc (.cells #[.int .i64 0, .int .u64 0, .string ⟨#[]⟩, .int .i64 0, .slice none 0 0] 31)) nq
  generalize ((w.alloc (.cells #[.int .i64 0, .int .u64 0, .string ⟨#[]⟩, .int .i64 0, .slice none 0 0] 31)).alloc (.cells #[.int .i64 0, .int .u64 0, .string ⟨#[]⟩, .int .i64 0, .slice none 0 0] 31)).drewN nq = w3 at hq ⊢
  have hb3 := hq.below (((Below.refl w.heap.size w).alloc (Nat.le_refl _) _).alloc (by first | omega | (simp; omega) | (simp; done)) _)
  have hst : Stays S w w3 := hq.stays (by go_simp)
  have ho3 : Old w3 S := hq.old (by go_simp)
  have hB0 := hq.blk ((Blk.new w 31 _).alloc _)
  have hz3 := hq.size
  simp only [World.size_alloc] at hz3
  clear hq
  obtain ⟨⟨p0, p1, p2, p3, p4⟩, ⟨q0, q1, q2, q3, q4⟩⟩ := five_cells hB0
  go_wp2_with fail
  refine (takeCoded_any lv hl hK c.toNat hb1 hb2 S _ bs _ _ _ _ rfl (by simp) (hcut.keep hst) (by omega) (by omega) h40 ho3).mono ?_
  rintro e w2 ⟨kind, num, text, ext, K, kl, kc, A2, n2, cap2, bo, rfl, hbel, htr⟩
  clear p0 p1 p2 p3 p4 q0 q1 q2 q3 q4
  obtain ⟨⟨a0, a1, a2, a3, a4⟩, ⟨f0, f1, f2, f3, f4⟩⟩ := five_cells (hB0.below hbel (by first | omega | (simp; omega) | (simp; done)))
  have hz := hbel.size
  go_wp2
  refine bodyPost_ret (v := .tuple #[packV kind num text ext K kl kc, .slice A2 n2 cap2, .bool bo]) (by simp [results, Try.results17, go_sem, a0, a1, a2, a3, a4]) rfl ?_
  rw [unhide HT]
  exact ⟨_, _, _, _, _, _, _, _, _, _, _, rfl, below_set5 (hb3.trans (hbel.mono (by first | omega | (simp; omega) | (simp; done)))) (Nat.le_refl _) _ _ _ _ _, tookR_later htr (by first | omega | (simp; omega) | (simp; done)) (stays_set5 (Stays.refl _ _) (by first | omega | (simp; omega) | (simp; done)) _ _ _ _ _) (stays_set5 (Stays.refl _ _) (fun h => by have := hS _ h; omega) _ _ _ _ _) (by first | omega | (simp; omega) | (simp; done))⟩
set_option maxRecDepth 100000 in
set_option maxHeartbeats 400000 in
theorem takePack_none (lv' : Int) (A : Option Addr) (len cap : Nat) (S : Nat → Prop) (w : World) (_hl : len ≤ 9223372036854775807) (h : len = 0 ∨ lv' ≤ 0) :
    Calls Try.prog 17 #[.slice A len cap, .int .i64 lv'] w (Took S w none) := by
  have hB0 := (Blk.new w 31 #[.int .i64 0, .int .u64 0, .string ⟨#[]⟩, .int .i64 0, .slice none 0 0]).alloc (.cells #[.int .i64 0, .int .u64 0, .string ⟨#[]⟩, .int .i64 0, .slice none 0 0] 31)
  by_cases h0 : len = 0
  · subst h0
    go_enter Try.func17, Try.ntmps17
    go_wp2
    exact bodyPost_ret (v := .tuple #[packV 0 0 [] 0 none 0 0, .slice none 0 0, .bool false]) (by simp [results, Try.results17, go_sem]) rfl (took_none (by repeat (first | with_reducible exact Below.refl _ _ | with_reducible exact x | with_reducible refine Below.alloc ?_ (by first | omega | (simp; omega) | (simp; done)) _ | with_reducible refine Below.setCell ?_ (by first | omega | (simp; omega) | (simp; done)) _ | with_reducible refine Below.drew ?_ | with_reducible refine below_drewN ?_ _)))
  · have h1 : ((len : Int) == 0) = false := by simp; omega
    have h2 : lv' ≤ 0 := by omega
    go_enter Try.func17, Try.ntmps17
    go_wp2
    exact bodyPost_ret (v := .tuple #[packV 0 0 [] 0 none 0 0, .slice none 0 0, .bool false]) (by simp [results, Try.results17, go_sem]) rfl (took_none (by repeat (first | with_reducible exact Below.refl _ _ | with_reducible exact x | with_reducible refine Below.alloc ?_ (by first | omega | (simp; omega) | (simp; done)) _ | with_reducible refine Below.setCell ?_ (by first | omega | (simp; omega) | (simp; done)) _ | with_reducible refine Below.drew ?_ | with_reducible refine below_drewN ?_ _)))
theorem takesPack : ∀ lv : Nat, lv ≤ 1000 → TakesPack lv
  | 0, _ => by
    intro lv' S A bs m cap w hlv hm hr hc hcap h40 hS
    subst hm hlv
    exact takePack_none _ A bs.length cap S w (by omega) (.inr (by simp))
  | lv + 1, hl => by
    have ih := takesPack lv (by omega)
    have hK := takeKids_step lv (by omega) ih
    intro lv' S A bs m cap w hlv hm hr hc hcap h40 hS
    subst hm hlv
    rcases bs with _ | ⟨c, bs⟩
    · exact takePack_none _ A 0 cap S w (by omega) (.inl rfl)
    · have hc' : bs.length + 1 ≤ cap := by simpa using hc
      have h40' : bs.length ≤ 1099511627776 := by simp at h40; omega
      have hc256 := c.toNat_lt
      have e : (((lv + 1 : Nat) : Int)) = (lv : Int) + 1 := by omega
      rw [e]
      show Calls _ _ #[.slice A (bs.length + 1) cap, .int .i64 ((lv : Int) + 1)] _ _
      by_cases c0 : c.toNat ≤ 127
      · exact takePack_fix lv (by omega) S A c bs cap w hr hc' hcap h40' hS (by omega) (by omega)
      by_cases c1 : c.toNat ≤ 143
      · exact takePack_map lv (by omega) hK S A c bs cap w hr hc' hcap h40' hS (by omega) (by omega)
      by_cases c2 : c.toNat ≤ 159
      · exact takePack_arr lv (by omega) hK S A c bs cap w hr hc' hcap h40' hS (by omega) (by omega)
      by_cases c3 : c.toNat ≤ 191
      · exact takePack_txt lv (by omega) S A c bs cap w hr hc' hcap h40' hS (by omega) (by omega)
      by_cases c4 : c.toNat ≤ 223
      · exact takePack_cod lv (by omega) hK S A c bs cap w hr hc' hcap h40' hS (by omega) (by omega)
      · exact takePack_neg lv (by omega) S A c bs cap w hr hc' hcap h40' hS (by omega) (by omega)
end Go.Proofs.Ytlnpiigdjjadiaa
