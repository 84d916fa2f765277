/-
  impl.noData where nothing panics; impl.WriteDouble. No condition.
-/
import Derived.Test.YtnnddknplhhnkaaDoorBuf3
namespace Go.Proofs.YtnnddknplhhnkaaDoor
set_option linter.unusedSimpArgs false
set_option linter.unusedVariables false
open Go.RowKit
theorem noData_idle (p q : Addr) (w : World) :
    CallsD Tryd.prog 20 #[.pointer (some p), .pointer (some q)] .returning w fun e u' w' => e = .returned (.tuple #[]) ∧ u' = .returning ∧ w' = w := by
  refine callsD_of_wpS Tryd.func20 rfl fun c₀ cs hu => ?_
  apply wpS_seq
  apply wpS_region
  simp [wpOpsS, go_sem, recoverD, hu, Tryd.ntmps20, Exit.thenS]
  refine wpS_cond (t := false) (by simp [Act.eval, Array.replicate]) ?_
  simp only [Bool.false_eq_true, if_false]
  refine wpS_of_wp (wp_skip ?_)
  cases c₀
  simp_all [bodyPostS, results, Tryd.results20]
/-- What a writer hands back: the bytes, in blocks of its own, and 'true'. -/
def Wrote (w : World) (bs : List UInt8) (e : Ending) (w' : World) : Prop :=
  ∃ A n c, e = .returned (.tuple #[.slice A n c, .bool true]) ∧ n = bs.length ∧ n ≤ c ∧ c ≤ maxLen ∧ RB w' (Made w w') A bs ∧ Below w.heap.size w w'
theorem own_nil (w : World) (B : Nat) (t : TypeId) (size : Nat) : w.ownsRow B t size (.slice none 0 0) 0 [] := World.ownsRow_nil _ _ _ _
set_option maxHeartbeats 800000 in
theorem implWriteDouble_any (n : Nat) (hn : n < 18446744073709551616) (w : World) :
    Calls Tryd.prog 9 #[.int .u64 n] w (Wrote w (130 :: be8 n)) := by
  have hfrom := frombits64 n
  have hx : ((n : Int).toNat) = n := by omega
  rw [hx] at hfrom
  clear hx
  have hB0 : Buf (((w.alloc (.cells #[.slice none 0 0] 23)).alloc (.cells #[.bool false] 4)).alloc (.cells #[.slice none 0 0, .int .i64 0] 52)) (w.heap.size + 1 + 1) [] := ⟨_, Blk.new' (by simp), own_nil _ _ _ _⟩
  obtain ⟨ds, hds⟩ : ∃ ds, ds = 130 :: be8 n := ⟨_, rfl⟩
  have hdl : ds.length ≤ 1000 := by rw [hds]; simp [be8]
  rw [← hds]
  have HD := hide hds
  clear hds
  go_enter_defers Tryd.func9, Tryd.ntmps9
  go_wp2_with (first
    | (go_at_call 21; go_loud (refine (WriteDouble_any (w.heap.size + 1 + 1) [] n hn _ hB0 (by simp)).mono ?_; rintro e w1 ⟨rfl, hb1, hw1⟩; rw [List.nil_append, ← unhide HD] at hb1; have HW1 := hide hw1; have hP1 : Blk w1 w.heap.size 23 #[.slice none 0 0] := (((Blk.new w _ _).alloc _).alloc _).below hw1 (by omega); have hQ1 : Blk w1 (w.heap.size + 1) 4 #[.bool false] := ((Blk.new' (by simp)).alloc _).below hw1 (by omega); have hz1 : w.heap.size + 1 + 1 + 1 ≤ w1.heap.size := Nat.le_trans (by simp) hw1.size; clear hw1 hB0))
    | (go_at_call 24; go_loud (refine (bytes_any (w.heap.size + 1 + 1) ds _ hb1 (by omega)).mono ?_; rintro e w2 ⟨rfl, A, c, rfl, hc1, hc2, hr2⟩; have HR2 := hide hr2; clear hr2))
    | (go_at_call 23; go_loud (refine (copied_any (fun b => w.heap.size + 1 + 1 + 1 ≤ b ∧ b < w1.heap.size) A ds ds.length c w1.drew rfl ((unhide HR2).keep (fun _ _ => rfl)) (fun x hx => hx.2) (by omega)).mono ?_; rintro e w3 ⟨v, rfl, hown, hbel⟩; have HO := hide hown; have HB3 := hide hbel; have hP3 : Blk w3 w.heap.size 23 #[.slice none 0 0] := Blk.below (w := w1.drew) hP1 hbel (by show _ < w1.heap.size; omega); have hQ3 : Blk w3 (w.heap.size + 1) 4 #[.bool false] := Blk.below (w := w1.drew) hQ1 hbel (by show _ < w1.heap.size; omega); have p0 := hP3.cell 0; have p1 := hP3.frozen 0; have q0 := hQ3.cell 0; have q1 := hQ3.frozen 0; obtain ⟨A3, c3, rfl, hc3, hm3, _⟩ := own_slice hown; clear hown hbel hP1 hQ1)))
  refine leaves_cons (f := 20) (args := #[.pointer (some ⟨w.heap.size, 0, none⟩), .pointer (some ⟨w.heap.size + 1, 0, none⟩)]) (by simp) (by simp [go_sem]) ?_
  refine (noData_idle ⟨w.heap.size, 0, none⟩ ⟨w.heap.size + 1, 0, none⟩ _).mono ?_
  rintro e u' w'' ⟨rfl, rfl, rfl⟩
  have hr3 := Reads.of_own (unhide HO)
  have hw1 := unhide HW1
  have hw3 : Below w.heap.size w w3 := (((((Below.refl _ _).alloc (Nat.le_refl _) _).alloc (by simp) _).alloc (by simp; omega) _).trans (hw1.mono (by omega))).drew.trans ((unhide HB3).mono (by show _ ≤ w1.heap.size; omega))
  have hz3 : w1.heap.size ≤ w3.heap.size := (unhide HB3).size
  simp [Leaves, settle, results, Tryd.results9, go_sem, p0, q0]
  have hR := hr3.sub (T := fun b => w1.heap.size ≤ b ∧ b < w3.heap.size) (fun b hb => ⟨hb.1, hb.2.1⟩)
  have k0 : ¬ (fun b => w1.heap.size ≤ b ∧ b < w3.heap.size) w.heap.size := fun h => by have := h.1; omega
  have k1 : ¬ (fun b => w1.heap.size ≤ b ∧ b < w3.heap.size) (w.heap.size + 1) := fun h => by have := h.1; omega
  refine ⟨A3, _, c3, rfl, rfl, hc3, hm3, (hR.keep (stays_setCell k1 (stays_setCell k0 (Stays.refl _ _) _) _)).sub (fun b hb => ⟨?_, ?_⟩), (by repeat (first | with_reducible exact Below.refl _ _ | with_reducible exact hw3 | with_reducible refine Below.alloc ?_ (by first | omega | (simp; omega) | (simp; done)) _ | with_reducible refine Below.setCell ?_ (by first | omega | (simp; omega) | (simp; done)) _ | with_reducible refine Below.drew ?_ | with_reducible refine below_drewN ?_ _))⟩
  · have := hb.1
    omega
  · have := hb.2
    simpa using this
end Go.Proofs.YtnnddknplhhnkaaDoor
