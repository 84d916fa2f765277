/-
  Words for the loop of spec.within. No condition.
-/
import Derived.Test.YtkokeohlbmccpaaGreatDoorTake4
import Derived.Test.YtkokeohlbmccpaaGreatDoorOwn
import Derived.WalkKit
namespace Go.Proofs.YtkokeohlbmccpaaGreatDoor
set_option linter.unusedSimpArgs false
set_option linter.unusedVariables false
open Go.RowKit
/-- What a loop of spec.within has gathered, in front of what is to come. -/
def comb (acc : List AV) : Option LRes → Option LRes
  | none => none
  | some none => some none
  | some (some (l, r)) => some (some (acc ++ l, r))
theorem comb_nil (x : Option LRes) : comb [] x = x := by
  rcases x with _ | _ | ⟨l, r⟩ <;> rfl
theorem comb_step (f : List UInt8 → Option VRes) (acc : List AV) (n : Nat) (bs : List UInt8) (v : AV) (r : List UInt8) (h : f bs = some (some (v, r))) : comb acc (loopA f (n + 1) bs) = comb (acc ++ [v]) (loopA f n r) := by
  simp only [loopA, h]
  rcases loopA f n r with _ | _ | ⟨l, r'⟩ <;> simp [comb]
theorem comb_none (f : List UInt8 → Option VRes) (acc : List AV) (n : Nat) (bs : List UInt8) (h : f bs = some none) : comb acc (loopA f (n + 1) bs) = some none := by simp [loopA, h, comb]
theorem comb_skip (f : List UInt8 → Option VRes) (acc : List AV) (n : Nat) (bs : List UInt8) (h : f bs = none) : comb acc (loopA f (n + 1) bs) = none := by simp [loopA, h, comb]
theorem comb_end (f : List UInt8 → Option VRes) (acc : List AV) (bs : List UInt8) : comb acc (loopA f 0 bs) = some (some (acc, bs)) := by simp [loopA, comb]
/-- Blocks of what was gathered: new since n, not the list's own. -/
def Gath (n : Nat) (w : World) (v : Value) : Nat → Prop := fun x => n ≤ x ∧ x < w.heap.size ∧ v.ownBlock ≠ some x
def boxC (kind : Nat) (v : Value) (D : Option Addr) (dn dc : Nat) : Array Value := #[.int .i64 kind, .int .u64 0, .string ⟨#[]⟩, v, .int .i64 0, .slice D dn dc]
def zeroC : Array Value := #[.int .i64 0, .int .u64 0, .string ⟨#[]⟩, .slice none 0 0, .int .i64 0, .slice none 0 0]
theorem own_ge {w : World} {base : Nat} {e : TypeId} {size : Nat} {v : Value} {n : Nat} {xs : List Value} (h : w.ownsRow base e size v n xs) : ∀ x, v.ownBlock = some x → base ≤ x ∧ x < w.heap.size := by
  intro x hx
  rcases h.2 with ⟨rfl, _⟩ | ⟨g, cap, cur, rfl, hb, hg, _⟩
  · simp [Value.ownBlock] at hx
  · simp [Value.ownBlock] at hx
    subst hx
    exact ⟨hb, (Array.getElem?_eq_some_iff.1 hg).1⟩
theorem six_ones {kind : Int} {num : Nat} {text : List UInt8} {K : Option Addr} {kn kc : Nat} {of : Int} {D : Option Addr} {dn dc : Nat} : ∀ u ∈ [Value.int .i64 kind, .int .u64 num, .string ⟨text.toArray⟩, .slice K kn kc, .int .i64 of, .slice D dn dc], u.oneCell' = true := by
  intro u hu
  simp only [List.mem_cons, List.mem_nil_iff, or_false] at hu
  rcases hu with rfl | rfl | rfl | rfl | rfl | rfl <;> rfl
theorem info29 : (Tryz.prog.info? 30).map (fun i => (i.zero, i.size, i.bytes)) = some (some (.agg #[.int .i64 0, .int .u64 0, .string ByteArray.empty, .slice none 0 0, .int .i64 0, .slice none 0 0]), 6, 88) := by kernel_rfl
/-- What holds at the head of each round of spec.within's loop. -/
def LoopR (f : List UInt8 → Option VRes) (S : Nat → Prop) (w W1 : World) (g : Nat) (kind : Nat) (D : Option Addr) (dn dc cnt : Nat) (full : Option LRes) (C : Array Value) (s14 s22 : Value) (wr : World) : Prop :=
  ∃ (k : Nat) (A : Option Addr) (bs : List UInt8) (cp : Nat) (acc : List AV) (xs : List Value) (v : Value), s22 = .int .u64 k ∧ s14 = .slice A bs.length cp ∧ k ≤ cnt ∧ RB wr S A bs ∧ bs.length ≤ cp ∧ cp ≤ 9223372036854775807 ∧ bs.length ≤ 1099511627776 ∧
    full = comb acc (loopA f (cnt - k) bs) ∧ acc.length = k ∧ wr.ownsRow W1.heap.size 30 6 v k xs ∧ AVsC wr (Gath (g + 4) wr v) acc xs ∧
    Blk wr g 30 (boxC kind v D dn dc) ∧ Blk wr (g + 1) 30 zeroC ∧ Blk wr (g + 1 + 1) 30 zeroC ∧ Blk wr (g + 1 + 1 + 1) 65 C ∧ Below w.heap.size w wr ∧ W1.heap.size ≤ wr.heap.size ∧ Stays (fun x => g + 4 ≤ x ∧ x < W1.heap.size) W1 wr
theorem lvl_cons_len (n : Nat) (bs : List UInt8) (d : List AV) (c : Nat) (r : List UInt8) (h : (lvl n).cons bs = some (some (d, c, r))) : r.length ≤ bs.length := by
  cases n with
  | zero => simp [lvl] at h
  | succ n => exact consW_len (lvl_len n) h
theorem tookV_of {Q S : Nat → Prop} {w W : World} {kind of : Int} {num : Nat} {text : List UInt8} {D : Option Addr} {desc : List AV} {dc : Nat} {ys : List Value} {A' : Option Addr} {bs' : List UInt8} {n' c' : Nat}
    (hb : Below w.heap.size w W) (hS : Old w S) (hQ : Old w Q) (hr : RB w S A' bs') (hn : n' = bs'.length) (hc : bs'.length ≤ c') (hm : c' ≤ maxLen) (hd : desc.length ≤ dc) (hdm : dc ≤ maxLen) (hR : Reads w Q 6 D desc.length ys) (hC : AVsC w Q desc ys) :
    TookV Q S w (some (.mk kind num text [] of desc, bs')) (.returned (.tuple #[avV kind num text none 0 0 of D desc.length dc, .slice A' n' c', .bool true])) W := by
  have hsQ : Stays Q w W := stays_below (Stays.refl _ _) hb hQ
  refine ⟨_, _, _, _, _, _, _, _, _, _, _, _, _, _, rfl, hb, rfl, hn, hr.keep (stays_below (Stays.refl _ _) hb hS), hc, hm, ?_⟩
  exact AVC.flat W _ kind num text of hd hdm ((hR.keep hsQ).sub fun b h => .inl h) ((hC.keep hsQ).sub fun b h => .inl h)
theorem within_done {Q S : Nat → Prop} {w wr wF : World} {base kind k kc dc n' c' : Nat} {Kv D A' : Option Addr} {acc desc : List AV} {xs ys : List Value} {bs' : List UInt8} (hWF : Below w.heap.size w wF) (hBr : Below w.heap.size w wr) (hS : Old w S) (hQ : Old w Q)
    (hown : wr.ownsRow base 30 6 (.slice Kv k kc) k xs) (hav : AVsC wr (Gath (w.heap.size + 4) wr (.slice Kv k kc)) acc xs) (hacc : acc.length = k) (hkc : k ≤ kc) (hkm : kc ≤ maxLen) (hdc : desc.length ≤ dc) (hdm : dc ≤ 2 ^ 63 - 1) (hR : Reads w Q 6 D desc.length ys) (hC : AVsC w Q desc ys)
    (hr : RB w S A' bs') (hn : n' = bs'.length) (hc : bs'.length ≤ c') (hm : c' ≤ maxLen) (hb4 : w.heap.size + 4 ≤ base) (hz : wF.heap.size = wr.heap.size) (hF : ∀ b, b ≠ w.heap.size + 1 → wF.heap[b]? = wr.heap[b]?) :
    TookV Q S w (some (.mk kind 0 [] acc 0 desc, bs')) (.returned (.tuple #[avV kind 0 [] Kv k kc 0 D desc.length dc, .slice A' n' c', .bool true])) wF := by
  have hsQ : Stays Q w wF := stays_below (Stays.refl _ _) hWF hQ
  have hz0 := hBr.size
  refine ⟨_, _, _, _, _, _, _, _, _, _, _, _, _, _, rfl, hWF, rfl, hn, hr.keep (stays_below (Stays.refl _ _) hWF hS), hc, hm, ?_⟩
  unfold AVC
  subst hacc
  refine ⟨Kv, kc, xs, D, dc, ys, rfl, hkc, hkm, ((Reads.of_own hown).keep fun b hb => hF b (by have := hb.1; omega)).sub fun b hb => .inr ⟨by have := hb.1; omega, by have := hb.2.1; omega⟩, (hav.keep fun b hb => hF b (by have := hb.1; omega)).sub fun b hb => .inr ⟨by have := hb.1; omega, by have := hb.2.1; omega⟩, hdc, by unfold maxLen; omega, (hR.keep hsQ).sub fun b h => .inl h, (hC.keep hsQ).sub fun b h => .inl h⟩
theorem loop_step {f : List UInt8 → Option VRes} {S Q' : Nat → Prop} {w W1 wr w5 WA w6 : World} {g kind dn dc cnt k kc kc6 cp2 : Nat} {D Kv K6 A2 : Option Addr} {full : Option LRes} {C : Array Value} {acc : List AV} {bs1 r : List UInt8} {xs cells : List Value} {val : AV} {o : Obj}
    (hgw : w.heap.size = g) (hS : Old w S) (hk : k < cnt) (hcomb : full = comb acc (loopA f (cnt - k) bs1)) (hf : f bs1 = some (some (val, r))) (hlen : r.length ≤ 1099511627776) (hacc : acc.length = k) (hav : AVsC wr (Gath (g + 4) wr (.slice Kv k kc)) acc xs)
    (hC10 : Blk wr (g + 1) 30 zeroC) (hC13 : Blk wr (g + 1 + 1) 30 zeroC) (hC18 : Blk wr (g + 1 + 1 + 1) 65 C) (hBr : Below w.heap.size w wr) (hzr : W1.heap.size ≤ wr.heap.size) (hWz : g + 1 + 1 + 1 + 1 ≤ W1.heap.size) (hmid : Stays (fun x => g + 4 ≤ x ∧ x < W1.heap.size) W1 wr)
    (hge : ∀ x, (Value.slice Kv k kc).ownBlock = some x → W1.heap.size ≤ x ∧ x < wr.heap.size) (hbw : Below wr.heap.size wr w5) (hz5 : wr.heap.size < w5.heap.size) (hA5 : ∀ b, b ≠ wr.heap.size → b < w5.heap.size → WA.heap[b]? = w5.heap[b]?) (hAz : WA.heap.size = w5.heap.size + 1) (hbA : Below w.heap.size w WA)
    (hgr6 : WA.grownBy w6 (Value.slice Kv k kc).ownBlock) (hown6 : w6.ownsRow W1.heap.size 30 6 (.slice K6 (k + 1) kc6) (k + 1) (xs ++ cells)) (hat6 : (Value.slice K6 (k + 1) kc6).ownBlock = (Value.slice Kv k kc).ownBlock ∨ (Value.slice K6 (k + 1) kc6).ownBlock = some WA.heap.size)
    (hK6 : Blk w6 g 30 (boxC kind (.slice Kv k kc) D dn dc)) (hr2 : RB w5 S A2 r) (hc2 : r.length ≤ cp2) (hm2 : cp2 ≤ maxLen) (hav2 : AVC w5 (fun x => Q' x ∨ Made (wr.alloc o) w5 x) val cells) (hQ : ∀ x, Q' x → g + 4 ≤ x ∧ x < W1.heap.size) :
    LoopR f S w W1 g kind D dn dc cnt full C (.slice A2 r.length cp2) (.int .u64 ((k : Int) + 1)) (w6.setCell ⟨g, 3, none⟩ (.slice K6 (k + 1) kc6)) := by
  subst hgw
  have hF : ∀ b, b ≠ w.heap.size → (w6.setCell ⟨w.heap.size, 3, none⟩ (.slice K6 (k + 1) kc6)).heap[b]? = w6.heap[b]? := fun b hb => Below.heap_setCell w6 _ _ b hb
  have h5 : ∀ b, b < w5.heap.size → b ≠ wr.heap.size → b ≠ w.heap.size → (Value.slice Kv k kc).ownBlock ≠ some b → (w6.setCell ⟨w.heap.size, 3, none⟩ (.slice K6 (k + 1) kc6)).heap[b]? = w5.heap[b]? := fun b h1 h2 h3 h4 => (hF b h3).trans ((hgr6.block b (by omega) (fun e => h4 e.symm)).trans (hA5 b h2 h1))
  have hr : ∀ b, b < wr.heap.size → b ≠ w.heap.size → (Value.slice Kv k kc).ownBlock ≠ some b → (w6.setCell ⟨w.heap.size, 3, none⟩ (.slice K6 (k + 1) kc6)).heap[b]? = wr.heap[b]? := fun b h1 h2 h3 => (h5 b (by omega) (by omega) h2 h3).trans (hbw.block b h1)
  have hnot : ∀ b, b < W1.heap.size → (Value.slice Kv k kc).ownBlock ≠ some b := fun b hb e => by have := hge b e; omega
  have hzF : (w6.setCell ⟨w.heap.size, 3, none⟩ (.slice K6 (k + 1) kc6)).heap.size = w6.heap.size := by simp [World.setCell]
  have hz6 := hgr6.size
  have hSr : Stays S w5 (w6.setCell ⟨w.heap.size, 3, none⟩ (.slice K6 (k + 1) kc6)) := fun b hb => by
    have h1 := hS b hb
    have h2 := hBr.size
    exact h5 b (by omega) (by omega) (by omega) (hnot b (by omega))
  refine ⟨k + 1, A2, r, cp2, acc ++ [val], xs ++ cells, .slice K6 (k + 1) kc6, by go_num, rfl, by omega, hr2.keep hSr, hc2, by unfold maxLen at hm2; omega, hlen, ?_, by simp [hacc], ?_, ?_, ?_, ?_, ?_, ?_, ?_, by omega, fun b hb => (hr b (by have := hb.2; omega) (by have := hb.1; omega) (hnot b hb.2)).trans (hmid b hb)⟩
  · rw [hcomb, show cnt - k = (cnt - (k + 1)) + 1 from by omega]
    exact comb_step f acc _ bs1 val r hf
  · refine hown6.kept (row := some w.heap.size) ⟨rfl, rfl, rfl, by omega, fun b hb hne => hF b (fun e => hne (by rw [e]))⟩ (.inr (fun e => ?_))
    rcases hat6 with h | h
    · rw [h] at e
      exact hnot _ (by omega) e
    · rw [h] at e
      injection e with e
      have := hBr.size
      omega
  · refine AVsC.append _ _ _ _ ((hav.keep ?_).sub ?_) (AVsC.one ((hav2.keep ?_).sub ?_) hav2.len)
    · exact fun b hb => hr b hb.2.1 (by have := hb.1; omega) hb.2.2
    · exact fun b hb => ⟨hb.1, by have := hb.2.1; omega, fun e => by
        rcases hat6 with h | h
        · rw [h] at e; exact hb.2.2 e
        · rw [h] at e; injection e with e; have := hb.2.1; omega⟩
    · rintro b (hb | hb)
      · have := hQ b hb
        exact h5 b (by omega) (by omega) (by omega) (hnot b this.2)
      · have h1 := hb.1
        have h2 := hb.2
        rw [World.size_alloc] at h1
        exact h5 b h2 (by omega) (by have := hBr.size; omega) (fun e => by have := hge b e; omega)
    · rintro b (hb | hb)
      · have := hQ b hb
        refine ⟨this.1, by omega, fun e => ?_⟩
        rcases hat6 with h | h
        · rw [h] at e; exact hnot b this.2 e
        · rw [h] at e; injection e with e; omega
      · have h1 := hb.1
        have h2 := hb.2
        rw [World.size_alloc] at h1
        refine ⟨by have := hBr.size; omega, by omega, fun e => ?_⟩
        rcases hat6 with h | h
        · rw [h] at e; have := hge b e; omega
        · rw [h] at e; injection e with e; omega
  · exact hK6.set_ 3 _
  · exact (hr _ (by have := hC10.lt; omega) (by omega) (hnot _ (by omega))).trans hC10
  · exact (hr _ (by have := hC13.lt; omega) (by omega) (hnot _ (by omega))).trans hC13
  · exact (hr _ (by have := hC18.lt; omega) (by omega) (hnot _ (by omega))).trans hC18
  · exact (hbA.grown hgr6 (by have := hBr.size; omega) (fun x hx => by have := hge x hx; omega)).setCell (Nat.le_refl _) _
end Go.Proofs.YtkokeohlbmccpaaGreatDoor
