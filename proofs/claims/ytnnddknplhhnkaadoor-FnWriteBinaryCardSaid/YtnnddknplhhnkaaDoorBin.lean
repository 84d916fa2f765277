/-
  encoding.WriteBinary, impl.WriteBinary, and the walk of the law FnWriteBinary. Conditions: at most 2^17 bytes where it is written.
-/
import Derived.Test.YtnnddknplhhnkaaDoorU32
import Derived.Test.YtnnddknplhhnkaaDoorRow
import Derived.Lib.SlBytesConst
namespace Go.Proofs.YtnnddknplhhnkaaDoor
set_option linter.unusedSimpArgs false
set_option linter.unusedVariables false
open Go.RowKit
/-- What encoding.WriteBinary writes. -/
def binE (ds : List UInt8) : List UInt8 := if ds.length < 256 then 160 :: UInt8.ofNat ds.length :: ds else 176 :: (be4 ds.length ++ ds)
theorem binE_len (ds : List UInt8) : (binE ds).length ≤ ds.length + 5 := by
  unfold binE
  split
  · simp
  · simp [be4]
theorem bin_read (ds : List UInt8) (hn : ds.length < 4294967296) : (lvl 8).val (binE ds) = some (some (.mk 18 0 ds [] 0 [], [])) := by
  unfold binE
  split
  · rename_i h
    have h1 : ds.length % 256 = ds.length := by omega
    simp [lvl, consW, takeW, kOf, show (160 : UInt8).toNat = 160 from rfl, bigA, h1]
    omega
  · have h1 := bigA_be4 ds.length hn
    simp [lvl, consW, takeW, kOf, show (176 : UInt8).toNat = 176 from rfl]
    have h2 : (be4 ds.length).length = 4 := rfl
    have h3 : (be4 ds.length ++ ds).take 4 = be4 ds.length := List.take_left' h2
    have h4 : (be4 ds.length ++ ds).drop 4 = ds := List.drop_left' h2
    simp [h2, h3, h4, h1]
    rw [if_neg (by omega), List.drop_eq_nil_of_le (by simp [h2])]
theorem RB.old {w : World} {p : Nat} {A : Option Addr} {ds : List UInt8} (h : RB w (Lt p) A ds) {w' : World} (hb : Below p w w') : RB w' (Lt p) A ds := h.below hb
set_option maxHeartbeats 800000 in
theorem writeBinary_any (p : Nat) (bs ds : List UInt8) (A : Option Addr) (n c : Nat) (w : World) (hn : n = ds.length) (hr : RB w (Lt p) A ds) (hlen2 : n ≤ 131072) (h : Buf w p bs) (hlen : bs.length ≤ 1000000) :
    Calls Tryd.prog 28 #[.pointer (some ⟨p, 0, none⟩), .slice A n c] w fun e w' => e = .returned .nilIface ∧ Buf w' p (bs ++ binE ds) ∧ Below p w w' := by
  have hp := h.lt
  unfold binE
  rw [← hn]
  by_cases h2 : n < 256
  · rw [if_pos h2]
    have h3 : (n : Int) < 256 := by omega
    have HR : RB (w.alloc (.cells #[.int .u8 160, .int .u8 n] 5)) (fun _ => True) (some ⟨w.heap.size, 0, none⟩) [160, UInt8.ofNat n] := row5' [.int .u8 160, .int .u8 n] _ (by simp [u8]; omega) rfl
    have HB := hide (h.alloc (.cells #[.int .u8 160, .int .u8 n] 5))
    have hw0 : Below p w (w.alloc (.cells #[.int .u8 160, .int .u8 n] 5)) := (Below.refl _ _).alloc (by omega) _
    have HN := hide hn
    clear hn
    go_enter Tryd.func28, Tryd.ntmps28
    go_wp2_with fail
    refine (append_any (fun _ => True) p bs [160, UInt8.ofNat n] _ 2 2 _ rfl HR (by simp) (unhide HB) (by omega)).mono ?_
    rintro e w1 ⟨rfl, hb1, hw1⟩
    go_wp2_with fail
    refine (append_any (Lt p) p (bs ++ [160, UInt8.ofNat n]) ds _ n c _ (unhide HN) (hr.old (hw0.trans hw1)) (by have := unhide HN; omega) hb1 (by simp; omega)).mono ?_
    rintro e w2 ⟨rfl, hb2, hw2⟩
    go_wp2
    go_ret
    exact ⟨rfl, by simpa using hb2, (hw0.trans hw1).trans hw2⟩
  · rw [if_neg h2]
    have h3 : ¬ (n : Int) < 256 := by omega
    have h4 : (n : Int) < 4294967295 := by omega
    have HN := hide hn
    clear hn
    go_enter Tryd.func28, Tryd.ntmps28
    go_wp2_with fail
    refine (appendByte_any p bs 176 _ h (by omega)).mono ?_
    rintro e w1 ⟨rfl, hb1, hw1⟩
    go_wp2_with fail
    refine (appendUint32_any p (bs ++ [176]) n _ hb1 (by simp; omega) (by omega)).mono ?_
    rintro e w2 ⟨rfl, hb2, hw2⟩
    go_wp2_with fail
    refine (append_any (Lt p) p _ ds _ n c _ (unhide HN) (hr.old (hw1.trans hw2)) (by have := unhide HN; omega) hb2 (by simp; omega)).mono ?_
    rintro e w3 ⟨rfl, hb3, hw3⟩
    go_wp2
    go_ret
    exact ⟨rfl, by simpa [be4] using hb3, (hw1.trans hw2).trans hw3⟩
set_option maxHeartbeats 800000 in
theorem implWriteBinary_any (A : Option Addr) (vs : List UInt8) (n c : Nat) (hn : n = vs.length) (hlen2 : n ≤ 131072) (w : World) (hr : RB w (Lt w.heap.size) A vs) :
    Calls Tryd.prog 12 #[.slice A n c] w (Wrote w (binE vs)) := by
  have HN := hide hn
  clear hn
  have HRB : RB (((w.alloc (.cells #[.slice none 0 0] 23)).alloc (.cells #[.bool false] 4)).alloc (.cells #[.slice none 0 0, .int .i64 0] 52)) (Lt (w.heap.size + 1 + 1)) A vs := RB.more (RB.below hr (by repeat (first | with_reducible exact Below.refl _ _ | with_reducible exact x | with_reducible refine Below.alloc ?_ (by first | omega | (simp; omega) | (simp; done)) _ | with_reducible refine Below.setCell ?_ (by first | omega | (simp; omega) | (simp; done)) _ | with_reducible refine Below.drew ?_ | with_reducible refine below_drewN ?_ _))) (by omega)
  have hB0 : Buf (((w.alloc (.cells #[.slice none 0 0] 23)).alloc (.cells #[.bool false] 4)).alloc (.cells #[.slice none 0 0, .int .i64 0] 52)) (w.heap.size + 1 + 1) [] := ⟨_, Blk.new' (by simp), own_nil _ _ _ _⟩
  obtain ⟨ds, hds⟩ : ∃ ds, ds = binE vs := ⟨_, rfl⟩
  have hdl : ds.length ≤ 200000 := by rw [hds]; have := binE_len vs; have := unhide HN; omega
  rw [← hds]
  have HD := hide hds
  clear hds
  go_enter_defers Tryd.func12, Tryd.ntmps12
  go_wp2_with (first
    | (go_at_call 28; go_loud (refine (writeBinary_any (w.heap.size + 1 + 1) [] vs A n c _ (unhide HN) HRB hlen2 hB0 (by simp)).mono ?_; rintro e w1 ⟨rfl, hb1, hw1⟩; rw [List.nil_append, ← unhide HD] at hb1; have HW1 := hide hw1; have hP1 : Blk w1 w.heap.size 23 #[.slice none 0 0] := (((Blk.new w _ _).alloc _).alloc _).below hw1 (by omega); have hQ1 : Blk w1 (w.heap.size + 1) 4 #[.bool false] := ((Blk.new' (by simp)).alloc _).below hw1 (by omega); have hz1 : w.heap.size + 1 + 1 + 1 ≤ w1.heap.size := Nat.le_trans (by simp) hw1.size; clear hw1 hB0))
    | (go_at_call 24; go_loud (refine (bytes_any (w.heap.size + 1 + 1) ds _ hb1 (by omega)).mono ?_; rintro e w2 ⟨rfl, A, c, rfl, hc1, hc2, hr2⟩; have HR2 := hide hr2; clear hr2))
    | (go_at_call 23; go_loud (refine (copied_any (fun b => w.heap.size + 1 + 1 + 1 ≤ b ∧ b < w1.heap.size) A ds ds.length c w1.drew rfl ((unhide HR2).keep (fun _ _ => rfl)) (fun x hx => hx.2) (by omega)).mono ?_; rintro e w3 ⟨v, rfl, hown, hbel⟩; have HO := hide hown; have HB3 := hide hbel; have hP3 : Blk w3 w.heap.size 23 #[.slice none 0 0] := Blk.below (w := w1.drew) hP1 hbel (by show _ < w1.heap.size; omega); have hQ3 : Blk w3 (w.heap.size + 1) 4 #[.bool false] := Blk.below (w := w1.drew) hQ1 hbel (by show _ < w1.heap.size; omega); have p0 := hP3.cell 0; have p1 := hP3.frozen 0; have q0 := hQ3.cell 0; have q1 := hQ3.frozen 0; obtain ⟨A3, c3, rfl, hc3, hm3, _⟩ := own_slice hown; clear hown hbel hP1 hQ1)))
  refine leaves_cons (f := 20) (args := #[.pointer (some ⟨w.heap.size, 0, none⟩), .pointer (some ⟨w.heap.size + 1, 0, none⟩)]) (by simp) (by simp [go_sem]) ?_
  refine (noData_idle ⟨w.heap.size, 0, none⟩ ⟨w.heap.size + 1, 0, none⟩ _).mono ?_
  rintro e u' w'' ⟨rfl, rfl, rfl⟩
  have hr3 := Reads.of_own (unhide HO)
  have hw1 := unhide HW1
  have hw3 : Below w.heap.size w w3 := (((((Below.refl _ _).alloc (Nat.le_refl _) _).alloc (by simp) _).alloc (by simp; omega) _).trans (hw1.mono (by omega))).drew.trans ((unhide HB3).mono (by show _ ≤ w1.heap.size; omega))
  have hz3 : w1.heap.size ≤ w3.heap.size := (unhide HB3).size
  simp [Leaves, settle, results, Tryd.results12, go_sem, p0, q0]
  have hR := hr3.sub (T := fun b => w1.heap.size ≤ b ∧ b < w3.heap.size) (fun b hb => ⟨hb.1, hb.2.1⟩)
  have k0 : ¬ (fun b => w1.heap.size ≤ b ∧ b < w3.heap.size) w.heap.size := fun h => by have := h.1; omega
  have k1 : ¬ (fun b => w1.heap.size ≤ b ∧ b < w3.heap.size) (w.heap.size + 1) := fun h => by have := h.1; omega
  refine ⟨A3, _, c3, rfl, rfl, hc3, hm3, (hR.keep (stays_setCell k1 (stays_setCell k0 (Stays.refl _ _) _) _)).sub (fun b hb => ⟨?_, ?_⟩), (by repeat (first | with_reducible exact Below.refl _ _ | with_reducible exact hw3 | with_reducible refine Below.alloc ?_ (by first | omega | (simp; omega) | (simp; done)) _ | with_reducible refine Below.setCell ?_ (by first | omega | (simp; omega) | (simp; done)) _ | with_reducible refine Below.drew ?_ | with_reducible refine below_drewN ?_ _))⟩
  · have := hb.1
    omega
  · have := hb.2
    simpa using this
theorem short_yes (s : ByteArray) (h : s.size ≤ 131072) (w : World) : Calls Tryd.prog 13 #[.string s] w fun e w' => e = .returned (.bool true) ∧ w = w' := by
  have h1 : (s.size : Int) ≤ 131072 := by omega
  go_enter Tryd.func13, Tryd.ntmps13
  go_wp2
  go_ret
  exact ⟨rfl, rfl⟩
theorem short_no (s : ByteArray) (h : 131072 < s.size) (hm : s.size ≤ 9223372036854775807) (w : World) : Calls Tryd.prog 13 #[.string s] w fun e w' => e = .returned (.bool false) ∧ w = w' := by
  have h1 : ¬ (s.size : Int) ≤ 131072 := by omega
  go_enter Tryd.func13, Tryd.ntmps13
  go_wp2
  go_ret
  exact ⟨rfl, rfl⟩
theorem rb_mark (w : World) : RB (w.alloc (.cells #[.int .u8 97] 5 (1, 2))) (Lt (w.heap.size + 1)) (some ⟨w.heap.size, 0, none⟩) [97] := by
  refine ⟨rfl, fun _ => ⟨_, rfl, Nat.lt_succ_self _, fun j u hu => ?_⟩⟩
  have hj : j = 0 := by
    rcases j with _ | j
    · rfl
    · simp at hu
  subst hj
  simp at hu
  subst hu
  exact World.cell?_alloc_mark w _ 5 (1, 2) 0
theorem str_mark (w : World) : (convert 23 9 (.slice (some ⟨w.heap.size, 0, none⟩) 1 1)).run Tryd.prog (w.alloc (.cells #[.int .u8 97] 5 (1, 2))) = .ok (.string ⟨#[97]⟩) (w.alloc (.cells #[.int .u8 97] 5 (1, 2))) :=
  run_string_of_bytes (P := Tryd.prog) 23 9 5 Tryd.underlying23 Tryd.underlying5 Tryd.underlying9 (rb_mark w) 1
set_option maxRecDepth 100000 in
set_option maxHeartbeats 400000 in
theorem FnWriteBinary_far (A : Option Addr) (n cap : Nat) (w : World) (h : 2147483647 < n) (hm : n ≤ 9223372036854775807) : Calls Tryd.prog 5 #[.slice A n cap] w fun e w' => e = .returned (.bool true) ∧ Below w.heap.size w w' := by
  go_enter Tryd.func5, Tryd.ntmps5
  go_wp2
  go_ret
  exact ⟨rfl, Below.refl _ _⟩
set_option maxRecDepth 100000 in
set_option maxHeartbeats 800000 in
theorem FnWriteBinary_many (A : Option Addr) (vs : List UInt8) (n cap : Nat) (w : World) (hn : n = vs.length) (hr : RB w (Lt w.heap.size) A vs) (h1 : 131072 < n) (h2 : n ≤ 2147483647) : Calls Tryd.prog 5 #[.slice A n cap] w fun e w' => e = .returned (.bool true) ∧ Below w.heap.size w w' := by
  have HN := hide hn
  clear hn
  have kc := fun (w : World) (C : Array Value) (n c : Nat) => Lib.run_convert_bytes_const (P := Tryd.prog) w 23 5 C n c Tryd.underlying23 Tryd.underlying5
  have ks := str_mark
  go_enter Tryd.func5, Tryd.ntmps5
  go_wp2_with fail
  refine (implWriteBinary_any (some ⟨w.heap.size, 0, none⟩) [97] 1 1 rfl (by omega) _ (by rw [World.size_alloc]; exact rb_mark w)).mono ?_
  rintro e w1 ⟨A1, n1, c1, rfl, rfl, hc1, hm1, hr1, hb1⟩
  have hz1 : w.heap.size + 1 ≤ w1.heap.size := by have := hb1.size; simpa using this
  have hw1 : Below w.heap.size w w1 := ((Below.refl w.heap.size w).alloc (Nat.le_refl _) _).trans (hb1.mono (by simp))
  go_wp2_with fail
  refine (wrote_flat (Made _ w1) A1 (binE [97]) _ c1 18 0 [97] 0 _ rfl (hr1.keep (stays_alloc (fun x hx => hx.2) (Stays.refl _ _) _)) hc1 hm1 (by decide) (old_alloc (fun x hx => hx.2) _) (bin_read [97] (by decide))).mono ?_
  rintro e w2 ⟨rfl, hb2⟩
  have hw2 : Below w.heap.size w w2 := (hw1.alloc (by omega) _).trans (hb2.mono (by simp; omega))
  have cv2 := run_string_of_bytes (P := Tryd.prog) 23 9 5 Tryd.underlying23 Tryd.underlying5 Tryd.underlying9 (hr.below hw2) cap
  rw [← unhide HN] at cv2
  have HS : 131072 < (⟨vs.toArray⟩ : ByteArray).size := by have := unhide HN; simp [ByteArray.size]; omega
  have HM : (⟨vs.toArray⟩ : ByteArray).size ≤ 9223372036854775807 := by have := unhide HN; simp [ByteArray.size]; omega
  generalize (⟨vs.toArray⟩ : ByteArray) = V at *
  go_wp2_with fail
  refine (short_no _ HS HM _).mono ?_
  rintro e w3 ⟨rfl, rfl⟩
  go_wp2
  go_ret
  exact ⟨rfl, hw2⟩
set_option maxRecDepth 100000 in
set_option maxHeartbeats 800000 in
theorem FnWriteBinary_few (A : Option Addr) (vs : List UInt8) (n cap : Nat) (w : World) (hn : n = vs.length) (hr : RB w (Lt w.heap.size) A vs) (hc : n ≤ cap) (h1 : n ≤ 131072) : Calls Tryd.prog 5 #[.slice A n cap] w fun e w' => e = .returned (.bool true) ∧ Below w.heap.size w w' := by
  have HN := hide hn
  clear hn
  have kc := fun (w : World) (C : Array Value) (n c : Nat) => Lib.run_convert_bytes_const (P := Tryd.prog) w 23 5 C n c Tryd.underlying23 Tryd.underlying5
  have ks := str_mark
  go_enter Tryd.func5, Tryd.ntmps5
  go_wp2_with fail
  refine (implWriteBinary_any (some ⟨w.heap.size, 0, none⟩) [97] 1 1 rfl (by omega) _ (by rw [World.size_alloc]; exact rb_mark w)).mono ?_
  rintro e w1 ⟨A1, n1, c1, rfl, rfl, hc1, hm1, hr1, hb1⟩
  have hz1 : w.heap.size + 1 ≤ w1.heap.size := by have := hb1.size; simpa using this
  have hw1 : Below w.heap.size w w1 := ((Below.refl w.heap.size w).alloc (Nat.le_refl _) _).trans (hb1.mono (by simp))
  go_wp2_with fail
  refine (wrote_flat (Made _ w1) A1 (binE [97]) _ c1 18 0 [97] 0 _ rfl (hr1.keep (stays_alloc (fun x hx => hx.2) (Stays.refl _ _) _)) hc1 hm1 (by decide) (old_alloc (fun x hx => hx.2) _) (bin_read [97] (by decide))).mono ?_
  rintro e w2 ⟨rfl, hb2⟩
  have hw2 : Below w.heap.size w w2 := (hw1.alloc (by omega) _).trans (hb2.mono (by simp; omega))
  have cv2 := run_string_of_bytes (P := Tryd.prog) 23 9 5 Tryd.underlying23 Tryd.underlying5 Tryd.underlying9 (hr.below hw2) cap
  rw [← unhide HN] at cv2
  have HS : (⟨vs.toArray⟩ : ByteArray).size ≤ 131072 := by have := unhide HN; simp [ByteArray.size]; omega
  obtain ⟨V, hV⟩ : ∃ V : ByteArray, V = ⟨vs.toArray⟩ := ⟨_, rfl⟩
  rw [← hV] at cv2 HS
  have HV := hide hV
  clear hV
  go_wp2_with fail
  refine (short_yes _ HS _).mono ?_
  rintro e w3 ⟨rfl, rfl⟩
  go_wp2_with fail
  refine (implWriteBinary_any A vs n cap (unhide HN) h1 _ (RB.more (hr.below hw2) hw2.size)).mono ?_
  rintro e w4 ⟨A4, n4, c4, rfl, rfl, hc4, hm4, hr4, hb4⟩
  have hw4 : Below w.heap.size w w4 := hw2.trans (hb4.mono hw2.size)
  have cv4 := run_string_of_bytes (P := Tryd.prog) 23 9 5 Tryd.underlying23 Tryd.underlying5 Tryd.underlying9 (hr.below hw4) cap
  rw [← unhide HN, ← unhide HV] at cv4
  go_wp2_with fail
  rw [unhide HV]
  refine (wrote_flat (Made _ w4) A4 (binE vs) _ c4 18 0 vs 0 _ rfl hr4 hc4 hm4 (by have := binE_len vs; have := unhide HN; omega) (fun x hx => hx.2) (bin_read vs (by have := unhide HN; omega))).mono ?_
  rintro e w5 ⟨rfl, hb5⟩
  go_wp2
  go_ret
  exact ⟨rfl, hw4.trans (hb5.mono hw4.size)⟩
theorem FnWriteBinary_walk (a : Option Addr) (len cap : Nat) (zs : List Int) (w : World) (h : RowIn .u8 w a len cap zs) :
    Calls Tryd.prog 5 #[.slice a len cap] w fun e w' => e = .returned (.bool true) ∧ Below w.heap.size w w' := by
  obtain ⟨vs, hn, hr, hc, hm⟩ := bytes_of_row h
  unfold maxLen at hm
  by_cases h1 : 2147483647 < len
  · exact FnWriteBinary_far a len cap w h1 (by omega)
  by_cases h2 : 131072 < len
  · exact FnWriteBinary_many a vs len cap w hn hr h2 (by omega)
  · exact FnWriteBinary_few a vs len cap w hn hr hc (by omega)
end Go.Proofs.YtnnddknplhhnkaaDoor
