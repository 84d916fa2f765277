/-
  spec's reader of JSON: arrays of numbers. Conditions: the text is at most 2^40 bytes; at most 100 numbers of 64 bits.
-/
import Derived.Test.YtlnpiigdjjadiaaDoorGJSONSetInt16n
import Derived.Test.YtlnpiigdjjadiaaDoorGJSONSetInt16h
import Derived.Test.YtlnpiigdjjadiaaDoorGJSONSetInt16b
import Derived.Deep.RegionLaw
import Derived.Deep.AppendLies
namespace Go.Proofs.YtlnpiigdjjadiaaDoor
set_option linter.unusedSimpArgs false
set_option linter.unusedVariables false
set_option linter.unusedVariables false
open Go.RowKit
/-- The cells of a number that was read. -/
def rc (x : Int) : List Value := [.int .i64 (if x < 0 then 2 else 3), .int .u64 (((x % 18446744073709551616).toNat : Nat) : Int), .string ⟨#[]⟩, .int .i64 0, .slice none 0 0]
def Num64 (x : Int) : Prop := -9223372036854775808 ≤ x ∧ x ≤ 18446744073709551615
theorem itoa_first (x : Int) : ∃ c r, Lib.itoa x = c :: r ∧ Plain0 c ∧ c ≠ 91 ∧ c ≠ 93 := by
  have hd : ∀ c, Digit c → Plain0 c ∧ c ≠ 91 ∧ c ≠ 93 := by
    intro c ⟨h1, h2⟩
    have hne : ∀ d : UInt8, ¬ (48 ≤ d.toNat ∧ d.toNat ≤ 57) → c ≠ d := fun d h e => h (e ▸ ⟨h1, h2⟩)
    refine ⟨⟨⟨by omega, by omega, by omega, by omega⟩, hne 110 (by decide), hne 116 (by decide), hne 102 (by decide), hne 34 (by decide), hne 123 (by decide)⟩, hne 91 (by decide), hne 93 (by decide)⟩
  unfold Lib.itoa
  split
  · exact ⟨45, _, rfl, ⟨⟨by decide, by decide, by decide, by decide⟩, by decide, by decide, by decide, by decide, by decide⟩, by decide, by decide⟩
  · obtain ⟨d, r, h, _⟩ := decHead x.toNat
    exact ⟨d, r, h, hd d (decDigit x.toNat d (by rw [h]; simp))⟩
/-- A number in a list is read. -/
theorem value_itoa (S : ByteArray) (g p : Nat) (x : Int) (c : UInt8) (tl : List UInt8) (lv : Int) (w : World) (hS : S.size ≤ 1099511627776) (hJ : JT w g S p) (hat : At S p (Lib.itoa x ++ c :: tl)) (hcd : ¬ Digit c) (hx : Num64 x) (hlv : 0 < lv) :
    Calls Tryd.prog 35 #[.pointer (some ⟨g, 0, none⟩), .int .i64 lv] w (ValPost S g (p + (Lib.itoa x).length) (if x < 0 then 2 else 3) (fun num K kl kc _ => num = (x % 18446744073709551616).toNat ∧ K = none ∧ kl = 0 ∧ kc = 0) w) := by
  obtain ⟨d, r, hd, h1, h2, _⟩ := itoa_first x
  have hat0 := hat
  rw [hd, List.cons_append] at hat0
  obtain ⟨hp, hc, _⟩ := At.cons hat0
  rw [← hc] at h1 h2
  refine value_num S g p _ lv w hS hJ hp h1 h2 hlv _ _ (fun _ _ _ _ _ _ _ h => h) (fun W hJW _ => (num_itoa S g p x c tl W hS hJW hat hcd hx.1 hx.2).mono ?_)
  rintro e w' ⟨rfl, hj⟩
  exact ⟨_, none, 0, 0, rfl, hj, rfl, rfl, rfl, rfl⟩
/-- What stands behind '[': numbers, commas, ']'. -/
def Rest (S : ByteArray) (p : Nat) (ks : List Int) (tl : List UInt8) : Prop := At S p (jcat ks ++ 93 :: tl)
theorem Rest.step {S : ByteArray} {p : Nat} {x : Int} {ks : List Int} {tl : List UInt8} (h : Rest S p (x :: ks) tl) :
    ∃ c t, At S p (Lib.itoa x ++ c :: t) ∧ ((ks = [] ∧ c = 93 ∧ t = tl) ∨ (ks ≠ [] ∧ c = 44 ∧ t = jcat ks ++ 93 :: tl)) := by
  unfold Rest at h
  rcases ks with _ | ⟨y, ks⟩
  · exact ⟨93, tl, h, .inl ⟨rfl, rfl, rfl⟩⟩
  · rw [jcat_cons x (y :: ks) (by simp), List.append_assoc, List.cons_append] at h
    exact ⟨44, _, h, .inr ⟨by simp, rfl, rfl⟩⟩
theorem JT.blkq {w w' : World} {b : Nat} {t : TypeId} {cs : Array Value} (h : Blk w b t cs) (hq : Quiet w w') : Blk w' b t cs := hq.blk h
theorem JT.ownq {w w' : World} {base : Nat} {e : TypeId} {size : Nat} {v : Value} {n : Nat} {xs : List Value} (h : w.ownsRow base e size v n xs) (hq : Quiet w w') : w'.ownsRow base e size v n xs := own_below h (hq.below (Below.refl _ _))
theorem step_append_any {P : Program} {S : Nat → Prop} {ops : Array Oper} {o : Oper} {a : Act} {w : World} {K : Act → World → Prop} {Q : Exit → Act → World → Prop} {E : Prop} (hgd : o.guard = none) (s x : Operand) (t : TypeId)
    (ho : o.op = .call { callee := .builtin .append, args := #[s, x], argTypes := #[t, t] })
    (base : Nat) (e : TypeId) (i : TypeInfo) (z : Value) (size bytes : Nat) (ht : P.underlying t = some (.slice e)) (hi : P.info? e = some i) (hz : i.zero = some z)
    (hsize : i.size = size) (hby : i.bytes = bytes) (hzs : z.cells.size = size) (hsz : 0 < size)
    (v : Value) (n : Nat) (xs : List Value) (hs : a.eval s = v) (hown : w.ownsRow base e size v n xs)
    (A : Option Addr) (m c : Nat) (news : List Value) (hx : a.eval x = .slice A m c) (hr : Reads w S size A m news) (h1 : ∀ u ∈ news, u.oneCell' = true)
    (h63 : n + m ≤ maxLen) (hbytes : (n + m) * bytes ≤ 140737488355328) (hbase : base ≤ w.heap.size)
    (h : ∀ v' w', w'.ownsRow base e size v' (n + m) (xs ++ news) → w.grownBy w' v.ownBlock → (v'.ownBlock = v.ownBlock ∨ v'.ownBlock = some w.heap.size) → K (a.put o.dst v') w') :
    if Region.wanted o (yielded ops a.tmps) = true then Oper.wp P o a w K Q else E := by
  obtain ⟨v', w', hrun, h2, h3, h4⟩ := run_append_any (P := P) (w := w) (S := S) base t o.type e i z size bytes ht hi hz hsize hby hzs hsz v n xs hown A m c news hr h1 h63 hbytes hbase
  have hw : Region.wanted o (yielded ops a.tmps) = true := by simp [Region.wanted, hgd]
  rw [if_pos hw]
  unfold Oper.wp execOp
  simp only [ho, resolve, invoke, builtin, Sem.run_bind, Sem.run_pure, Result.andThen_ok, List.map_toArray, List.map_cons, List.map_nil, hs, hx, hrun]
  exact h v' w' h2 h3 h4
/-- How many kids the value in block b has. -/
def kidsAt (b : Nat) (w : World) : Nat := match w.cell? ⟨b, 4, none⟩ with
  | some (.slice _ n _) => n
  | _ => 0
theorem kidsAt_eq {w : World} {b : Nat} {t : TypeId} {c0 c1 c2 c3 : Value} {A : Option Addr} {n c : Nat} (h : Blk w b t #[c0, c1, c2, c3, .slice A n c]) : kidsAt b w = n := by
  unfold kidsAt
  rw [(five_cells h).1.2.2.2.2]
set_option maxRecDepth 100000 in
set_option maxHeartbeats 3200000 in
theorem list_any (S : ByteArray) (g p n : Nat) (ks : List Int) (tl : List UInt8) (lv : Int) (w : World) (hS : S.size ≤ 1099511627776) (hJ : JT w g S p) (hp91 : At S p (91 :: (jcat ks ++ 93 :: tl))) (hne : ks ≠ []) (hn : n = ks.length) (hn2 : n ≤ 100) (hx : ∀ x ∈ ks, Num64 x) (hlv : 0 < lv - 1) (hlv2 : lv ≤ 1000) :
    Calls Tryd.prog 55 #[.pointer (some ⟨g, 0, none⟩), .int .i64 8, .int .u8 93, .int .i64 lv] w
      (ValPost S g (p + (jcat ks).length + 2) 8 (fun num K kl kc W => num = 0 ∧ kl = n ∧ W.ownsRow (w.heap.size + 2) 29 5 (.slice K kl kc) n (ks.flatMap rc)) w) := by
  obtain ⟨hp, hpc, hat1⟩ := At.cons hp91
  have hgl := Blk.lt hJ
  obtain ⟨T, hT⟩ : ∃ T, T = ValPost S g (p + (jcat ks).length + 2) 8 (fun num K kl kc W => num = 0 ∧ kl = n ∧ W.ownsRow (w.heap.size + 2) 29 5 (.slice K kl kc) n (ks.flatMap rc)) w := ⟨_, rfl⟩
  rw [← hT]
  have HT := hide hT
  have hJ1 : JOn S g (p + 1) w (((w.setCell ⟨g, 1, none⟩ (.int .i64 ((p : Int) + 1))).alloc (.cells #[.int .i64 0, .int .u64 0, .string ⟨#[]⟩, .int .i64 0, .slice none 0 0] 29)).alloc (.cells #[.int .i64 8, .int .u64 0, .string ⟨#[]⟩, .int .i64 0, .slice none 0 0] 29)) :=
    ⟨Blk.alloc (Blk.alloc (hJ.step (p + 1) _ (by simp)) _) _, grown_trans' (grown_trans' (grownSetJ w ⟨g, 1, none⟩ _) (World.grownBy_alloc _ _ none) (fun _ h => by cases h)) (World.grownBy_alloc _ _ none) (fun _ h => by cases h)⟩
  obtain ⟨⟨e0, e1, e2⟩, g0, g1, g2⟩ := hJ.cells
  have hbR : Blk (((w.setCell ⟨g, 1, none⟩ (.int .i64 ((p : Int) + 1))).alloc (.cells #[.int .i64 0, .int .u64 0, .string ⟨#[]⟩, .int .i64 0, .slice none 0 0] 29)).alloc (.cells #[.int .i64 8, .int .u64 0, .string ⟨#[]⟩, .int .i64 0, .slice none 0 0] 29)) w.heap.size 29 #[.int .i64 0, .int .u64 0, .string ⟨#[]⟩, .int .i64 0, .slice none 0 0] := Blk.alloc (by have h := Blk.new (w.setCell ⟨g, 1, none⟩ (.int .i64 ((p : Int) + 1))) 29 #[.int .i64 0, .int .u64 0, .string ⟨#[]⟩, .int .i64 0, .slice none 0 0]; simpa using h) _
  have hbV : Blk (((w.setCell ⟨g, 1, none⟩ (.int .i64 ((p : Int) + 1))).alloc (.cells #[.int .i64 0, .int .u64 0, .string ⟨#[]⟩, .int .i64 0, .slice none 0 0] 29)).alloc (.cells #[.int .i64 8, .int .u64 0, .string ⟨#[]⟩, .int .i64 0, .slice none 0 0] 29)) (w.heap.size + 1) 29 #[.int .i64 8, .int .u64 0, .string ⟨#[]⟩, .int .i64 0, .slice none 0 0] := (by have h := Blk.new ((w.setCell ⟨g, 1, none⟩ (.int .i64 ((p : Int) + 1))).alloc (.cells #[.int .i64 0, .int .u64 0, .string ⟨#[]⟩, .int .i64 0, .slice none 0 0] 29)) 29 #[.int .i64 8, .int .u64 0, .string ⟨#[]⟩, .int .i64 0, .slice none 0 0]; simpa using h)
  have HBR := hide hbR
  have HBV := hide hbV
  have HAT := hide hat1
  have HX := hide hx
  have HN := hide hn
  have HNE := hide hne
  obtain ⟨x0, ks0, hks⟩ := List.exists_cons_of_ne_nil hne
  have hfirst : ∃ c r, At S (p + 1) (c :: r) ∧ Plain0 c ∧ c ≠ 93 := by
    obtain ⟨c, r, h1, h2, _, h3⟩ := itoa_first x0
    obtain ⟨c', t', h4, _⟩ := Rest.step (S := S) (p := p + 1) (x := x0) (ks := ks0) (tl := tl) (by unfold Rest; rw [← hks]; exact hat1)
    rw [h1, List.cons_append] at h4
    exact ⟨c, _, h4, h2, h3⟩
  obtain ⟨c1, r1, hat2, hpl, hn93⟩ := hfirst
  obtain ⟨hp2, hpc2, _⟩ := At.cons hat2
  rw [← hpc2] at hpl hn93
  have HP := hide hp2
  have HPL := hide hpl
  have HN93 := hide hn93
  have HJ1 := hide hJ1
  clear hT hat1 hx hn hne hks hat2 hpc2 hpl hn93 hp91 hpc hJ1 hbR hbV
  go_enter Tryd.func55, Tryd.ntmps55
  go_wp2_with (go_at_call 75; go_loud (refine (eat_no S g (p + 1) 93 _ hS (unhide HJ1).1 hp2 (unhide HN93) (unhide HPL).1).mono ?_; rintro e w1 ⟨rfl, ⟨q1, rfl⟩⟩))
  go_loopw [] (fun wr => ∃ (k : Nat) (KA : Option Addr) (kc r : Nat), k < n ∧ JOn S g r w wr ∧ Rest S r (ks.drop k) tl ∧ r + (jcat (ks.drop k)).length = p + (jcat ks).length + 1 ∧ Blk wr w.heap.size 29 #[.int .i64 0, .int .u64 0, .string ⟨#[]⟩, .int .i64 0, .slice none 0 0] ∧
      Blk wr (w.heap.size + 1) 29 #[.int .i64 8, .int .u64 0, .string ⟨#[]⟩, .int .i64 0, .slice KA k kc] ∧ wr.ownsRow (w.heap.size + 2) 29 5 (.slice KA k kc) k ((ks.take k).flatMap rc)) (fun wr => n - kidsAt (w.heap.size + 1) wr)
  case atStart =>
    have hn := unhide HN
    have h0 : 0 < n := by rw [hn]; exact List.length_pos_iff.2 (unhide HNE)
    exact ⟨0, none, 0, p + 1, h0, JOn.trans (unhide HJ1) (JOn.quiet (unhide HJ1).1 (Quiet.drewN _ q1)), unhide HAT, by rw [List.drop_zero]; omega, Blk.drewN (unhide HBR) q1, Blk.drewN (unhide HBV) q1, World.ownsRow_nil _ _ _ _⟩
  case round =>
    obtain ⟨k, KA, kc, r, hk, hJr, hrest, hlen, hbr, hbv, hown⟩ := hrel
    have hkl := kidsAt_eq hbv
    obtain ⟨⟨c0, c1, c2⟩, f0, f1, f2⟩ := hJr.1.cells
    obtain ⟨⟨a0, a1, a2, a3, a4⟩, ⟨b0, b1, b2, b3, b4⟩⟩ := five_cells hbv
    have hln : k < ks.length := by have := unhide HN; omega
    have hdr : ks.drop k = ks[k] :: ks.drop (k + 1) := List.drop_eq_getElem_cons hln
    rw [hdr] at hrest hlen
    have htk : (ks.take (k + 1)).flatMap rc = (ks.take k).flatMap rc ++ rc ks[k] := by
      rw [List.take_succ_eq_append_getElem hln, List.flatMap_append]
      simp
    have hxk := unhide HX ks[k] (List.getElem_mem hln)
    generalize ks[k] = x at *
    obtain ⟨c, t, hat, hcase⟩ := Rest.step hrest
    have hcd : ¬ Digit c := by
      rcases hcase with ⟨_, rfl, _⟩ | ⟨_, rfl, _⟩ <;> (unfold Digit; decide)
    obtain ⟨kx, hkx⟩ : ∃ kx : Int, kx = if x < 0 then 2 else 3 := ⟨_, rfl⟩
    obtain ⟨nx, hnx⟩ : ∃ nx : Nat, nx = (x % 18446744073709551616).toNat := ⟨_, rfl⟩
    have hrc : rc x = [.int .i64 kx, .int .u64 (nx : Int), .string ⟨#[]⟩, .int .i64 0, .slice none 0 0] := by rw [hkx, hnx]; rfl
    rw [hrc] at htk
    have hval := fun (W : World) (hW : JT W g S r) => value_itoa S g r x c t (lv - 1) W hS hW hat hcd hxk hlv
    rw [← hkx, ← hnx] at hval
    have HV := hide hval
    clear hval hrc hkx hnx
    have HTK := hide htk
    have HJR := hide hJr
    have HOWN := hide hown
    have HBRR := hide hbr
    have HBVV := hide hbv
    have HAT2 := hide hat
    have HCASE := hide hcase
    have HLEN := hide hlen
    have HKL := hide hkl
    have hvl := Blk.lt hbv
    clear hJr hrest hlen hbr hbv hown htk hxk hat hcase hcd hdr hkl
    go_wp2_with fail
    obtain ⟨i0, hi0, hiz, his, hib⟩ := info_parts infoPkT
    have hwl : IntKind.i64.wrap (lv - 1) = lv - 1 := by rw [IntKind.wrap_i64]; omega
    go_region_law ((first
      | (go_loud (refine step_append_any (S := fun _ => True) rfl (.tmp 70) (.tmp 75) 27 (by rfl) (w.heap.size + 2) 29 i0 _ 5 64 Tryd.underlying27 hi0 hiz his hib rfl (by omega) (.slice KA k kc) k ((ks.take k).flatMap rc) (by rfl) ?ho (some ⟨w3.heap.size, 0, none⟩) 1 1 [.int .i64 kx, .int .u64 (nx : Int), .string ⟨#[]⟩, .int .i64 0, .slice none 0 0] (by rfl) ?hr fivesT (by unfold maxLen; omega) (by omega) ?hb ?_; (case ho => exact own_below (unhide HOWN3) (by repeat (first | with_reducible exact Below.refl _ _ | with_reducible exact x | with_reducible refine Below.alloc ?_ (by first | omega | (simp; omega) | (simp; done)) _ | with_reducible refine Below.setCell ?_ (by first | omega | (simp; omega) | (simp; done)) _ | with_reducible refine Below.drew ?_ | with_reducible refine below_drewN ?_ _))); (case hr => exact reads_blkT (S := fun _ => True) (t := 29) (cs := #[.int .i64 kx, .int .u64 (nx : Int), .string ⟨#[]⟩, .int .i64 0, .slice none 0 0]) (Blk.newT rfl) trivial 5 1 rfl); (case hb => have := (unhide HJ3).2.size; simp; omega); intro v6 w6 hown6 hgr6 hat6; obtain ⟨K6, kc6, rfl, _, _, _⟩ := own_slice hown6; have hB6 := ((unhide HBV3).alloc (.cells #[.int .i64 kx, .int .u64 (nx : Int), .string ⟨#[]⟩, .int .i64 0, .slice none 0 0] 29)).grown hgr6 (fun e => by have := ((unhide HOWN3).lt _ e.symm).1; omega); have hR6 := ((unhide HBR3).alloc (.cells #[.int .i64 kx, .int .u64 (nx : Int), .string ⟨#[]⟩, .int .i64 0, .slice none 0 0] 29)).grown hgr6 (fun e => by have := ((unhide HOWN3).lt _ e.symm).1; omega); have hJ6 : JOn S g (r + (Lib.itoa x).length) w w6 := ⟨((unhide HJ3).1.alloc _).grown hgr6 (fun e => by have := ((unhide HOWN3).lt _ e.symm).1; omega), grown_trans' (grown_trans' (unhide HJ3).2 (World.grownBy_alloc _ _ none) (fun _ h => by cases h)) hgr6 (fun j hj => .inr (by have := ((unhide HOWN3).lt j hj).1; omega))⟩; obtain ⟨⟨p0, p1, p2, p3, p4⟩, ⟨s0, s1, s2, s3, s4⟩⟩ := five_cells hB6; have hzb6 := hB6.lt; have HB6 := hide hB6; have HR6 := hide hR6; have HJ6 := hide hJ6; have HOWN6 := hide hown6; clear hB6 hR6 hJ6 hown6 hgr6 hat6))
      | (go_simp; go_at_call 35; go_loud (refine (unhide HV _ ?jt).mono ?_; (case jt => exact JT.quiet (unhide HJR).1 (by first | exact Quiet.refl _ | exact Quiet.drew _ | exact Quiet.drewN _ _ | exact (Quiet.drew _).trans (Quiet.drew _) | exact (Quiet.drewN _ _).trans (Quiet.drew _))); rintro e w3 ⟨num, K3, kl3, kc3, rfl, hj3, hnum, rfl, rfl, rfl⟩; have hnum2 := hnum.symm; clear hnum; subst hnum2; have hJ3 : JOn S g (r + (Lib.itoa x).length) w w3 := JOn.trans (JOn.trans (unhide HJR) (JOn.quiet (unhide HJR).1 (by first | exact Quiet.refl _ | exact Quiet.drew _ | exact Quiet.drewN _ _ | exact (Quiet.drew _).trans (Quiet.drew _) | exact (Quiet.drewN _ _).trans (Quiet.drew _)))) hj3; have hB3 := Blk.grown (JT.blkq (unhide HBVV) (by first | exact Quiet.refl _ | exact Quiet.drew _ | exact Quiet.drewN _ _ | exact (Quiet.drew _).trans (Quiet.drew _) | exact (Quiet.drewN _ _).trans (Quiet.drew _))) hj3.2 (by intro e; injection e with e; omega); have hR3 := Blk.grown (JT.blkq (unhide HBRR) (by first | exact Quiet.refl _ | exact Quiet.drew _ | exact Quiet.drewN _ _ | exact (Quiet.drew _).trans (Quiet.drew _) | exact (Quiet.drewN _ _).trans (Quiet.drew _))) hj3.2 (by intro e; injection e with e; omega); have hO3 := (JT.ownq (unhide HOWN) (by first | exact Quiet.refl _ | exact Quiet.drew _ | exact Quiet.drewN _ _ | exact (Quiet.drew _).trans (Quiet.drew _) | exact (Quiet.drewN _ _).trans (Quiet.drew _))).kept hj3.2 (Or.inr (fun e => by have := ((unhide HOWN).lt _ e).1; omega)); obtain ⟨⟨d0, d1, d2, d3, d4⟩, ⟨h0, h1, h2, h3, h4⟩⟩ := five_cells hB3; have hzb := hB3.lt; have HJ3 := hide hJ3; have HBV3 := hide hB3; have HBR3 := hide hR3; have HOWN3 := hide hO3; clear hj3 hJ3 hB3 hR3 hO3))))
    all_goals
      have hJW : JOn S g (r + (Lib.itoa x).length) w (w6.setCell ⟨w.heap.size + 1, 4, none⟩ (.slice K6 (k + 1) kc6)) := ⟨Blk.far (unhide HJ6).1 (by simp; omega) _, grown_trans' (unhide HJ6).2 (grownSetJ _ _ _) (fun j hj => by cases hj; exact .inr (by simp))⟩
      have hBW : Blk (w6.setCell ⟨w.heap.size + 1, 4, none⟩ (.slice K6 (k + 1) kc6)) (w.heap.size + 1) 29 #[.int .i64 8, .int .u64 0, .string ⟨#[]⟩, .int .i64 0, .slice K6 (k + 1) kc6] := by
        have h := Blk.set_ (unhide HB6) 4 (.slice K6 (k + 1) kc6)
        simpa using h
      have hRW : Blk (w6.setCell ⟨w.heap.size + 1, 4, none⟩ (.slice K6 (k + 1) kc6)) w.heap.size 29 #[.int .i64 0, .int .u64 0, .string ⟨#[]⟩, .int .i64 0, .slice none 0 0] := Blk.far (unhide HR6) (by simp) _
      have hOW := (unhide HOWN6).kept (grownSetJ w6 ⟨w.heap.size + 1, 4, none⟩ (.slice K6 (k + 1) kc6)) (Or.inr (fun e => by have h := ((unhide HOWN6).lt _ e).1; revert h; simp))
      generalize w6.setCell ⟨w.heap.size + 1, 4, none⟩ (.slice K6 (k + 1) kc6) = WX at *
      obtain ⟨hr1, hSc, hat3⟩ := At.cons (At.app (unhide HAT2))
      have HBW := hide hBW
      have HRW := hide hRW
      have HOW := hide hOW
      have HJW := hide hJW
      have hn' := unhide HN
      rcases unhide HCASE with ⟨hks, hc93, _⟩ | ⟨hks, hc44, ht⟩
      · have hkn : k + 1 = n := by
          have h := congrArg List.length hks
          rw [List.length_drop] at h
          simp at h
          omega
        have hfin : p + (jcat ks).length + 2 = r + (Lib.itoa x).length + 1 := by
          have h := unhide HLEN
          rw [hks] at h
          simp only [jcat] at h
          omega
        have hall : (ks.take k).flatMap rc ++ [.int .i64 kx, .int .u64 (nx : Int), .string ⟨#[]⟩, .int .i64 0, .slice none 0 0] = ks.flatMap rc := by rw [← unhide HTK, List.take_of_length_le (by omega)]
        have HE := hide (eat_yes S g (r + (Lib.itoa x).length) 93 WX hS hJW.1 hr1 (hSc.trans hc93) (by unfold NoBlank; decide))
        have HF := hide hfin
        have HALL := hide hall
        have HKN := hide hkn
        clear hkn hBW hRW hOW hJW hfin hall hn' hks hSc hat3
        go_wp2_with (go_at_call 75; go_loud (refine (unhide HE).mono ?_; rintro e w8 ⟨rfl, hj8⟩; have hB8 := Blk.grown (unhide HBW) hj8.2 (by intro e; injection e with e; omega); have hR8 := Blk.grown (unhide HRW) hj8.2 (by intro e; injection e with e; omega); have hO8 := (unhide HOW).kept hj8.2 (Or.inr (fun e => by have := ((unhide HOW).lt _ e).1; omega)); have hj9 := JOn.trans (unhide HJW) hj8; obtain ⟨⟨z0, z1, z2, z3, z4⟩, ⟨y0, y1, y2, y3, y4⟩⟩ := five_cells hB8; obtain ⟨⟨t0, t1, t2, t3, t4⟩, ⟨v0, v1, v2, v3, v4⟩⟩ := five_cells hR8; have hzl := hR8.lt; have hzl2 := hB8.lt; have HO8 := hide hO8; have HJ9 := hide hj9; clear hj8 hB8 hR8 hO8 hj9))
        refine bodyPost_ret (v := .agg #[.int .i64 8, .int .u64 0, .string ⟨#[]⟩, .int .i64 0, .slice K6 (k + 1) kc6]) (by simp [results, Tryd.results55, go_sem, t0, t1, t2, t3, t4, hzl]) rfl ?_
        rw [unhide HT]
        have hset : ∀ (X : World) (i : Nat) (v : Value), JOn S g (r + (Lib.itoa x).length + 1) w X → JOn S g (r + (Lib.itoa x).length + 1) w (X.setCell ⟨w.heap.size, i, none⟩ v) := fun X i v h => ⟨Blk.far h.1 (by simp; omega) _, grown_trans' h.2 (grownSetJ X _ v) (fun j hj => by cases hj; exact .inr (Nat.le_refl _))⟩
        have hown : ∀ (X : World) (i : Nat) (v : Value), X.ownsRow (w.heap.size + 2) 29 5 (.slice K6 (k + 1) kc6) (k + 1) (ks.flatMap rc) → (X.setCell ⟨w.heap.size, i, none⟩ v).ownsRow (w.heap.size + 2) 29 5 (.slice K6 (k + 1) kc6) (k + 1) (ks.flatMap rc) := fun X i v h => h.kept (grownSetJ X _ v) (Or.inr (fun e => by have h2 := (h.lt _ e).1; revert h2; simp <;> omega))
        have hO := unhide HO8
        rw [unhide HALL] at hO
        rw [unhide HF, ← unhide HKN]
        exact ⟨0, K6, k + 1, kc6, rfl, hset _ _ _ (hset _ _ _ (hset _ _ _ (hset _ _ _ (hset _ _ _ (unhide HJ9))))), rfl, rfl, hown _ _ _ (hown _ _ _ (hown _ _ _ (hown _ _ _ (hown _ _ _ hO))))⟩
      · have hkn : k + 1 < n := by
          rcases Nat.lt_or_ge (k + 1) n with h | h
          · exact h
          · exact absurd (List.drop_eq_nil_of_le (by omega)) hks
        have HE := hide (eat_no S g (r + (Lib.itoa x).length) 93 WX hS hJW.1 hr1 (by rw [hSc, hc44]; decide) (by rw [hSc, hc44]; unfold NoBlank; decide))
        have hlen2 : r + (Lib.itoa x).length + 1 + (jcat (ks.drop (k + 1))).length = p + (jcat ks).length + 1 := by
          have h := unhide HLEN
          rw [jcat_cons x _ hks] at h
          simp only [List.length_append, List.length_cons] at h
          omega
        have hrest2 : Rest S (r + (Lib.itoa x).length + 1) (ks.drop (k + 1)) tl := by unfold Rest; rw [← ht]; exact hat3
        have HE2 := fun (W : World) (hW : JT W g S (r + (Lib.itoa x).length)) => eat_yes S g (r + (Lib.itoa x).length) 44 W hS hW hr1 (hSc.trans hc44) (by unfold NoBlank; decide)
        have HE2 := hide HE2
        have HL2 := hide hlen2
        have HR2 := hide hrest2
        have HKN := hide hkn
        clear hBW hRW hOW hJW hn' hks hSc hat3 hlen2 hrest2 hkn
        go_wp2_with (first
          | (go_at_call 75; clear M1; go_loud (refine (unhide HE2 _ ?je).mono ?_; (case je => exact JT.quiet (unhide HJW).1 (Quiet.drewN _ _)); rintro e w8 ⟨rfl, hj8⟩; have hj9 := JOn.trans (JOn.trans (unhide HJW) (JOn.quiet (unhide HJW).1 (Quiet.drewN _ q7))) hj8; have hB8 := Blk.grown (Blk.drewN (unhide HBW) q7) hj8.2 (by intro e; injection e with e; omega); have hR8 := Blk.grown (Blk.drewN (unhide HRW) q7) hj8.2 (by intro e; injection e with e; omega); have hO8 := (JT.ownq (unhide HOW) (Quiet.drewN _ q7)).kept hj8.2 (Or.inr (fun e => by have := ((unhide HOW).lt _ e).1; omega)); have HB8 := hide hB8; have HR8 := hide hR8; have HO8 := hide hO8; have HJ9 := hide hj9; clear hj8 hj9 hB8 hR8 hO8))
          | (go_at_call 75; go_loud (refine (unhide HE).mono ?_; rintro e w7 ⟨rfl, ⟨q7, rfl⟩⟩; have M1 : True := trivial)))
        go_roundw
        case rel => exact ⟨k + 1, K6, kc6, _, unhide HKN, unhide HJ9, unhide HR2, unhide HL2, unhide HR8, unhide HB8, by rw [unhide HTK]; exact unhide HO8⟩
        case measure =>
          rw [kidsAt_eq (unhide HB8), unhide HKL]
          have := unhide HKN
          omega
end Go.Proofs.YtlnpiigdjjadiaaDoor
