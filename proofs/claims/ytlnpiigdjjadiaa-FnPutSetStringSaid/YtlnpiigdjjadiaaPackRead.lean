/-
  The reference's reader of MessagePack (spec.TakePack and what it calls) computes the plain function tPack; conditions: the data read as bytes.
-/
import Derived.Test.YtlnpiigdjjadiaaProg
import Derived.Test.YtlnpiigdjjadiaaWords
import Derived.Test.YtlnpiigdjjadiaaPlain
import Derived.Test.YtlnpiigdjjadiaaMaps
import Derived.Test.YtlnpiigdjjadiaaPackC
import Derived.BigQuiet
import Derived.Deep.QuietTactic
import Derived.StillTailTactics
namespace Go.Proofs.Ytlnpiigdjjadiaa
set_option linter.unusedSimpArgs false
set_option linter.unusedVariables false
open Go.RowKit
/-- What the parts of a reader's answer are. -/
def TookR (S : Nat → Prop) (w w' : World) (r : Option (Pack × List UInt8)) (kind : Int) (num : Nat) (text : List UInt8) (ext : Int) (K : Option Addr) (kl kc : Nat) (A : Option Addr) (n cap : Nat) (b : Bool) : Prop :=
  match r with
  | none => kind = 0 ∧ num = 0 ∧ text = [] ∧ ext = 0 ∧ K = none ∧ kl = 0 ∧ kc = 0 ∧ A = none ∧ n = 0 ∧ cap = 0 ∧ b = false
  | some (p, bs) => b = true ∧ n = bs.length ∧ RB w' S A bs ∧ bs.length ≤ cap ∧ cap ≤ maxLen ∧
      PackC w' (fun b => w.heap.size ≤ b ∧ b < w'.heap.size) p [.int .i64 kind, .int .u64 num, .string ⟨text.toArray⟩, .int .i64 ext, .slice K kl kc]
/-- What a reader answers: a value (its kids in new blocks) and the rest of the data, or nothing; nothing that was there has turned. -/
def Took (S : Nat → Prop) (w : World) (r : Option (Pack × List UInt8)) (e : Ending) (w' : World) : Prop :=
  ∃ kind num text ext K kl kc A n cap b, e = .returned (.tuple #[packV kind num text ext K kl kc, .slice A n cap, .bool b]) ∧ Below w.heap.size w w' ∧ TookR S w w' r kind num text ext K kl kc A n cap b
theorem took_flat {S : Nat → Prop} {w w' : World} {kind : Int} {num : Nat} {text : List UInt8} {ext : Int} {A : Option Addr} {n cap : Nat} {bs : List UInt8} (hn : n = bs.length) (hb : Below w.heap.size w w')
    (hr : RB w' S A bs) (hc : bs.length ≤ cap) (hm : cap ≤ maxLen) :
    Took S w (some (.mk kind num text ext [], bs)) (.returned (.tuple #[packV kind num text ext none 0 0, .slice A n cap, .bool true])) w' := by
  subst hn
  exact ⟨_, _, _, _, _, _, _, _, _, _, _, rfl, hb, rfl, rfl, hr, hc, hm, PackC.flat _ _ _ _ _ _⟩
theorem took_none {S : Nat → Prop} {w w' : World} (hb : Below w.heap.size w w') : Took S w none (.returned (.tuple #[packV 0 0 [] 0 none 0 0, .slice none 0 0, .bool false])) w' :=
  ⟨_, _, _, _, _, _, _, _, _, _, _, rfl, hb, rfl, rfl, rfl, rfl, rfl, rfl, rfl, rfl, rfl, rfl, rfl⟩
/-- The answer of a callee, handed on. -/
theorem tookR_later {S : Nat → Prop} {w w1 w2 w3 : World} {r : Option (Pack × List UInt8)} {kind : Int} {num : Nat} {text : List UInt8} {ext : Int} {K : Option Addr} {kl kc : Nat} {A : Option Addr} {n cap : Nat} {b : Bool}
    (h : TookR S w1 w2 r kind num text ext K kl kc A n cap b) (hsz : w.heap.size ≤ w1.heap.size) (hk : Stays (fun b => w1.heap.size ≤ b ∧ b < w2.heap.size) w2 w3) (hS : Stays S w2 w3) (hz : w2.heap.size ≤ w3.heap.size) :
    TookR S w w3 r kind num text ext K kl kc A n cap b := by
  unfold TookR at h ⊢
  rcases r with _ | ⟨p, bs⟩
  · exact h
  · obtain ⟨h1, h2, h3, h4, h5, h6⟩ := h
    exact ⟨h1, h2, h3.keep hS, h4, h5, PackC.sub (fun b ⟨x, y⟩ => ⟨by omega, by omega⟩) _ _ (PackC.keep hk _ _ h6)⟩
theorem or_byte (a b : Nat) (ha : a < 72057594037927936) (hb : b < 256) : bits BinOp.or IntKind.u64 ((a : Int) * 256) (b : Int) = ((a * 256 + b : Nat) : Int) := by
  have h := u64_or_nat (a * 256) b (by omega) (by omega)
  have e : ((a * 256 : Nat) : Int) = (a : Int) * 256 := by omega
  rw [e] at h
  rw [h, Nat.mul_comm, show (256 : Nat) = 2 ^ 8 from rfl, Nat.two_pow_add_eq_or_of_lt (i := 8) (by omega)]
set_option maxHeartbeats 400000 in
theorem takeBig_short (A : Option Addr) (n cap : Nat) (s : Int) (w : World) (_hn : n ≤ 9223372036854775807) (h : (n : Int) < s) :
    Calls Try.prog 45 #[.slice A n cap, .int .i64 s] w fun e w' => e = .returned (.tuple #[.int .u64 0, .slice none 0 0, .bool false]) ∧ w = w' := by
  go_enter Try.func45, Try.ntmps45
  go_wp2
  go_ret3
  exact ⟨rfl, rfl⟩
set_option maxHeartbeats 400000 in
theorem takeBig_ok (S : Nat → Prop) (A : Option Addr) (bs : List UInt8) (cap s : Nat) (w : World) (hr : RB w S A bs) (_hc : bs.length ≤ cap) (_hcap : cap ≤ 9223372036854775807)
    (hs : s ≤ bs.length) (h8 : s ≤ 8) :
    Calls Try.prog 45 #[.slice A bs.length cap, .int .i64 s] w fun e w' => e = .returned (.tuple #[.int .u64 (bigN (bs.take s)), .slice (cutA A cap s 1) (bs.length - s) (cap - s), .bool true]) ∧ Quiet w w' := by
  go_enter Try.func45, Try.ntmps45
  go_wp2
  go_loop [7, 18] (fun u i => ∃ k : Nat, k ≤ s ∧ i = .int .i64 k ∧ u = .int .u64 (bigN (bs.take k))) (fun _ i => s - (intOf i).toNat)
  case atStart => exact ⟨0, Nat.zero_le _, rfl, rfl⟩
  case round =>
    obtain ⟨k, hk, rfl, rfl⟩ := hrel
    by_cases hlt : k < s
    · obtain ⟨ad, rfl, hb, hc⟩ := hr.at_ (show k < bs.length by omega)
      unfold u8 at hc
      have hb := UInt8.toNat_lt bs[k]
      have hN := bigN_lt7 bs k (by omega)
      go_wp2
      go_round
      case rel => exact ⟨k + 1, by omega, by go_num, by rw [bigN_take_succ bs k (by omega), or_byte _ _ hN hb]⟩
      case measure => simp [intOf]; omega
    · obtain rfl : k = s := by omega
      go_wp2
      go_quiet (fail)
      go_wp2
      go_ret3
      exact ⟨rfl, _, rfl⟩
set_option maxHeartbeats 400000 in
theorem takeText_no (kind : Int) (n : Nat) (A : Option Addr) (len cap : Nat) (S : Nat → Prop) (w : World) (_hl : len ≤ 9223372036854775807) (hn : len < n) (_h64 : n < 18446744073709551616) :
    Calls Try.prog 28 #[.int .i64 kind, .int .u64 n, .slice A len cap] w (Took S w none) := by
  go_enter Try.func28, Try.ntmps28
  go_wp2
  exact bodyPost_ret (v := .tuple #[packV 0 0 [] 0 none 0 0, .slice none 0 0, .bool false]) (by simp [results, Try.results28, go_sem]) rfl (took_none ((Below.refl _ _).alloc (Nat.le_refl _) _))
set_option maxHeartbeats 400000 in
theorem takeText_ok (kind : Int) (n : Nat) (A : Option Addr) (bs : List UInt8) (cap : Nat) (S : Nat → Prop) (w : World) (hr : RB w S A bs) (hc : bs.length ≤ cap) (hcap : cap ≤ 9223372036854775807) (hS : Old w S) (hn : n ≤ bs.length) :
    Calls Try.prog 28 #[.int .i64 kind, .int .u64 n, .slice A bs.length cap] w (Took S w (tText kind n bs)) := by
  have hcv : ∀ (W : World) (c : Nat), Stays S w W → (convert 22 9 (.slice A n c)).run Try.prog W = .ok (.string ⟨(bs.take n).toArray⟩) W := fun W c hw => by
    have := run_string_of_bytes (P := Try.prog) 22 9 5 Try.underlying22 Try.underlying5 Try.underlying9 ((hr.keep hw).take hn) c
    rwa [List.length_take, Nat.min_eq_left hn] at this
  go_enter Try.func28, Try.ntmps28
  go_wp2
  have hnc : n ≤ cap := by omega
  go_region
  go_wp2
  refine bodyPost_ret (v := .tuple #[packV kind 0 (bs.take n) 0 none 0 0, .slice (cutA A cap n 1) (bs.length - n) (cap - n), .bool true]) (by simp [results, Try.results28, go_sem]) rfl ?_
  rw [tText, if_neg (by omega)]
  refine took_flat (by simp) ((Below.refl _ _).alloc (Nat.le_refl _) _).drew ((hr.cut hn hc).keep (by go_simp)) (by simp; omega) (by unfold maxLen; omega)
theorem i8of_nat : ∀ n : Nat, n < 256 → IntKind.i8.wrap (n : Int) = i8of n := by decide +kernel
theorem i8of_bd (b : UInt8) : -128 ≤ i8of b.toNat ∧ i8of b.toNat ≤ 127 := by
  have := b.toNat_lt
  unfold i8of
  split <;> omega
theorem i8of_eq (b : UInt8) : IntKind.i8.wrap (b.toNat : Int) = i8of b.toNat := i8of_nat _ b.toNat_lt
set_option maxHeartbeats 400000 in
theorem takeExt_no (n : Nat) (A : Option Addr) (len cap : Nat) (S : Nat → Prop) (w : World) (_hl : len ≤ 9223372036854775807) (hn : len < n + 1) (_h64 : n < 18446744073709551616) :
    Calls Try.prog 46 #[.int .u64 n, .slice A len cap] w (Took S w none) := by
  by_cases h0 : len = 0
  · subst h0
    go_enter Try.func46, Try.ntmps46
    go_wp2
    exact bodyPost_ret (v := .tuple #[packV 0 0 [] 0 none 0 0, .slice none 0 0, .bool false]) (by simp [results, Try.results46, go_sem]) rfl (took_none ((Below.refl _ _).alloc (Nat.le_refl _) _))
  · have h1 : ((len : Int) == 0) = false := by simp; omega
    have h2 : (len : Int) - 1 < n := by omega
    go_enter Try.func46, Try.ntmps46
    go_wp2
    exact bodyPost_ret (v := .tuple #[packV 0 0 [] 0 none 0 0, .slice none 0 0, .bool false]) (by simp [results, Try.results46, go_sem]) rfl (took_none ((Below.refl _ _).alloc (Nat.le_refl _) _))
set_option maxHeartbeats 400000 in
theorem takeExt_ok (n : Nat) (A : Option Addr) (t : UInt8) (bs : List UInt8) (cap : Nat) (S : Nat → Prop) (w : World) (hr : RB w S A (t :: bs)) (hc : bs.length + 1 ≤ cap) (hcap : cap ≤ 9223372036854775807) (hS : Old w S) (hn : n ≤ bs.length) :
    Calls Try.prog 46 #[.int .u64 n, .slice A (bs.length + 1) cap] w (Took S w (tExt n (t :: bs))) := by
  obtain ⟨ad, rfl, hb, hcell⟩ := hr.at_ (k := 0) (by simp)
  have hx : 1 + n - 1 = n := by omega
  have hcv : ∀ (W : World) (c : Nat), Stays S w W → (convert 22 9 (.slice (cutA (some ad) cap 1 1) n c)).run Try.prog W = .ok (.string ⟨(bs.take n).toArray⟩) W := fun W c hw => by
    have := run_string_of_bytes (P := Try.prog) 22 9 5 Try.underlying22 Try.underlying5 Try.underlying9 (((hr.keep hw).cut (k := 1) (cap := cap) (by simp) (by simpa using hc)).take (k := n) (by simpa using hn)) c
    simpa [List.length_take, Nat.min_eq_left hn] using this
  simp only [u8, add_zero_, List.getElem_cons_zero] at hcell
  have h1 : ((bs.length : Int) + 1 == 0) = false := by simp; omega
  have h2 : (n : Int) ≤ bs.length := by omega
  have hi8 := i8of_eq t
  have hi9 := i8of_bd t
  have hlt := hS _ hb
  go_enter Try.func46, Try.ntmps46
  go_wp2
  go_region
  go_wp2
  refine bodyPost_ret (v := .tuple #[packV 10 0 (bs.take n) (i8of t.toNat) none 0 0, .slice (cutA (some ad) cap (1 + n) 1) (bs.length + 1 - (1 + n)) (cap - (1 + n)), .bool true]) (by simp [results, Try.results46, go_sem]) rfl ?_
  rw [tExt, if_neg (by omega)]
  have hcut := hr.cut (k := 1 + n) (cap := cap) (by simp; omega) (by simpa using hc)
  rw [show (t :: bs).drop (1 + n) = bs.drop n by rw [Nat.add_comm]; rfl] at hcut
  refine took_flat (by simp; omega) ((Below.refl _ _).alloc (Nat.le_refl _) _).drew (hcut.keep (by go_simp)) (by simp; omega) (by unfold maxLen; omega)
end Go.Proofs.Ytlnpiigdjjadiaa
