/-
  encoding.Marshal of a boolean and of a signed byte; impl.WriteBoolean, impl.WriteByte. No condition.
-/
import Derived.Test.YtkokeohlbmccpaaGreatDoorU32
import Derived.Test.YtkokeohlbmccpaaGreatDoorTA
namespace Go.Proofs.YtkokeohlbmccpaaGreatDoor
set_option linter.unusedSimpArgs false
set_option linter.unusedVariables false
open Go.RowKit
def boolE (b : Bool) : List UInt8 := [if b then 65 else 66]
def i8E (x : Int) : List UInt8 := [81, UInt8.ofNat (x % 256).toNat]
def bitN (b : Bool) : Nat := if b then 1 else 0
abbrev num8 (x : Int) : Nat := (x % 18446744073709551616).toNat
theorem bool_read (b : Bool) : (lvl 8).val (boolE b) = some (some (.mk 1 (bitN b) [] [] 0 [], [])) := by
  cases b <;> rfl
theorem i8_read (x : Int) (h0 : -128 ≤ x) (h1 : x ≤ 127) : (lvl 8).val (i8E x) = some (some (.mk 6 (num8 x) [] [] 0 [], [])) := by
  have hb : bigA [UInt8.ofNat (x % 256).toNat] = (x % 256).toNat := by
    simp [bigA]
    omega
  have hs : sgn 1 (x % 256).toNat = num8 x := by
    unfold sgn num8
    split <;> omega
  rw [show (lvl 8).val (i8E x) = takeW (lvl 7).cons (lvl 7).val (lvl 7).take [] 81 [UInt8.ofNat (x % 256).toNat] from rfl]
  simp [takeW, kOf, hb, hs]
set_option maxRecDepth 1000000 in
set_option maxHeartbeats 1600000 in
theorem marshal_bool (p : Nat) (bs : List UInt8) (b : Bool) (w : World) (h : Buf w p bs) (hlen : bs.length ≤ 1000000) :
    Calls Tryz.prog 20 #[.pointer (some ⟨p, 0, none⟩), .iface 4 (.bool b)] w fun e w' => e = .returned .nilIface ∧ Buf w' p (bs ++ boolE b) ∧ Below p w w' := by
  unfold boolE
  have yes := fun (v : Value) (W : World) => ta_yes (P := Tryz.prog) 4 20 (by kernel_rfl) v W
  cases b
  · go_enter Tryz.func20, Tryz.ntmps20
    go_wp2_with fail
    refine (appendByte_any p bs 66 _ h (by omega)).mono ?_
    rintro e w1 ⟨rfl, hb1, hw1⟩
    go_wp2
    go_ret
    exact ⟨rfl, hb1, hw1⟩
  · go_enter Tryz.func20, Tryz.ntmps20
    go_wp2_with fail
    refine (appendByte_any p bs 65 _ h (by omega)).mono ?_
    rintro e w1 ⟨rfl, hb1, hw1⟩
    go_wp2
    go_ret
    exact ⟨rfl, hb1, hw1⟩
theorem wrap8 (x : Int) : u8 (UInt8.ofNat (x % 256).toNat) = .int .u8 (IntKind.u8.wrap x) := by
  simp [u8, IntKind.wrap, IntKind.bits, IntKind.signed]
  omega
set_option maxRecDepth 1000000 in
set_option maxHeartbeats 3200000 in
theorem marshal_i8 (p : Nat) (bs : List UInt8) (x : Int) (w : World) (h : Buf w p bs) (hlen : bs.length ≤ 1000000) :
    Calls Tryz.prog 20 #[.pointer (some ⟨p, 0, none⟩), .iface 32 (.int .i8 x)] w fun e w' => e = .returned .nilIface ∧ Buf w' p (bs ++ i8E x) ∧ Below p w w' := by
  have hp := h.lt
  unfold i8E
  have HR : RB (w.alloc (.cells #[.int .u8 81, .int .u8 (IntKind.u8.wrap x)] 5)) (fun _ => True) (some ⟨w.heap.size, 0, none⟩) [81, UInt8.ofNat (x % 256).toNat] := row5' [.int .u8 81, .int .u8 (IntKind.u8.wrap x)] _ (by simp only [List.map_cons, List.map_nil, wrap8]; rfl) rfl
  have HB := hide (h.alloc (.cells #[.int .u8 81, .int .u8 (IntKind.u8.wrap x)] 5))
  have yes := fun (v : Value) (W : World) => ta_yes (P := Tryz.prog) 32 20 (by kernel_rfl) v W
  have no0 := fun (v : Value) (W : World) => ta_no (P := Tryz.prog) 32 4 20 (by kernel_rfl) (by kernel_rfl) (by decide) v W
  have no1 := fun (v : Value) (W : World) => ta_no (P := Tryz.prog) 32 44 20 (by kernel_rfl) (by kernel_rfl) (by decide) v W
  have no2 := fun (v : Value) (W : World) => ta_no (P := Tryz.prog) 32 73 20 (by kernel_rfl) (by kernel_rfl) (by decide) v W
  have no3 := fun (v : Value) (W : World) => ta_no (P := Tryz.prog) 32 75 20 (by kernel_rfl) (by kernel_rfl) (by decide) v W
  have no4 := fun (v : Value) (W : World) => ta_no (P := Tryz.prog) 32 26 20 (by kernel_rfl) (by kernel_rfl) (by decide) v W
  have no5 := fun (v : Value) (W : World) => ta_no (P := Tryz.prog) 32 76 20 (by kernel_rfl) (by kernel_rfl) (by decide) v W
  have no6 := fun (v : Value) (W : World) => ta_no (P := Tryz.prog) 32 77 20 (by kernel_rfl) (by kernel_rfl) (by decide) v W
  have no7 := fun (v : Value) (W : World) => ta_no (P := Tryz.prog) 32 79 20 (by kernel_rfl) (by kernel_rfl) (by decide) v W
  have no8 := fun (v : Value) (W : World) => ta_no (P := Tryz.prog) 32 80 20 (by kernel_rfl) (by kernel_rfl) (by decide) v W
  have no9 := fun (v : Value) (W : World) => ta_no (P := Tryz.prog) 32 82 20 (by kernel_rfl) (by kernel_rfl) (by decide) v W
  have no10 := fun (v : Value) (W : World) => ta_no (P := Tryz.prog) 32 5 20 (by kernel_rfl) (by kernel_rfl) (by decide) v W
  have no11 := fun (v : Value) (W : World) => ta_no (P := Tryz.prog) 32 84 20 (by kernel_rfl) (by kernel_rfl) (by decide) v W
  have no12 := fun (v : Value) (W : World) => ta_no (P := Tryz.prog) 32 3 20 (by kernel_rfl) (by kernel_rfl) (by decide) v W
  have no13 := fun (v : Value) (W : World) => ta_no (P := Tryz.prog) 32 86 20 (by kernel_rfl) (by kernel_rfl) (by decide) v W
  go_enter Tryz.func20, Tryz.ntmps20
  go_wp2_with fail
  refine (append_any (fun _ => True) p bs [81, UInt8.ofNat (x % 256).toNat] _ 2 2 _ rfl HR (by simp) (unhide HB) (by omega)).mono ?_
  rintro e w1 ⟨rfl, hb1, hw1⟩
  go_wp2
  go_ret
  exact ⟨rfl, hb1, ((by repeat (first | with_reducible exact Below.refl _ _ | with_reducible exact x | with_reducible refine Below.alloc ?_ (by first | omega | (simp; omega) | (simp; done)) _ | with_reducible refine Below.setCell ?_ (by first | omega | (simp; omega) | (simp; done)) _ | with_reducible refine Below.drew ?_ | with_reducible refine below_drewN ?_ _)) : Below p w (w.alloc _)).trans hw1⟩
set_option maxHeartbeats 800000 in
theorem marshaled_bool (b : Bool) (w : World) :
    Calls Tryz.prog 14 #[.iface 4 (.bool b)] w (Wrote w (boolE b)) := by
  have hB0 : Buf (w.alloc (.cells #[.slice none 0 0, .int .i64 0] 59)) w.heap.size [] := ⟨_, Blk.new' rfl, own_nil _ _ _ _⟩
  obtain ⟨ds, hds⟩ : ∃ ds, ds = boolE b := ⟨_, rfl⟩
  have hdl : ds.length ≤ 200000 := by rw [hds]; simp [boolE]
  rw [← hds]
  have HD := hide hds
  clear hds
  go_enter Tryz.func14, Tryz.ntmps14
  go_wp2_with (first
    | (go_at_call 20; go_loud (refine (marshal_bool w.heap.size [] b _ hB0 (by simp)).mono ?_; rintro e w1 ⟨rfl, hb1, hw1⟩; rw [List.nil_append, ← unhide HD] at hb1; have HW1 := hide hw1; have hz1 : w.heap.size + 1 ≤ w1.heap.size := Nat.le_trans (by simp) hw1.size; clear hw1 hB0))
    | (go_at_call 21; go_loud (refine (bytes_any w.heap.size ds _ hb1 (by omega)).mono ?_; rintro e w2 ⟨rfl, A, c, rfl, hc1, hc2, hr2⟩; have HR2 := hide hr2; clear hr2))
    | (go_at_call 18; go_loud (refine (copied_any (fun b => w.heap.size + 1 ≤ b ∧ b < w1.heap.size) A ds ds.length c w1.drew rfl ((unhide HR2).keep (fun _ _ => rfl)) (fun x hx => hx.2) (by omega)).mono ?_; rintro e w3 ⟨v, rfl, hown, hbel⟩; have HO := hide hown; have HB3 := hide hbel; obtain ⟨A3, c3, rfl, hc3, hm3, _⟩ := own_slice hown; clear hown hbel)))
  go_ret2
  have hr3 := Reads.of_own (unhide HO)
  have hw1 := unhide HW1
  have hw3 : Below w.heap.size w w3 := (((Below.refl _ _).alloc (Nat.le_refl _) _).trans hw1).drew.trans ((unhide HB3).mono (by show _ ≤ w1.heap.size; omega))
  exact ⟨A3, _, c3, rfl, rfl, hc3, hm3, hr3.sub (fun b hb => ⟨Nat.le_trans (by show w.heap.size ≤ w1.heap.size; omega) hb.1, hb.2.1⟩), hw3⟩
set_option maxHeartbeats 800000 in
theorem marshaled_i8 (x : Int) (w : World) :
    Calls Tryz.prog 14 #[.iface 32 (.int .i8 x)] w (Wrote w (i8E x)) := by
  have hB0 : Buf (w.alloc (.cells #[.slice none 0 0, .int .i64 0] 59)) w.heap.size [] := ⟨_, Blk.new' rfl, own_nil _ _ _ _⟩
  obtain ⟨ds, hds⟩ : ∃ ds, ds = i8E x := ⟨_, rfl⟩
  have hdl : ds.length ≤ 200000 := by rw [hds]; simp [i8E]
  rw [← hds]
  have HD := hide hds
  clear hds
  go_enter Tryz.func14, Tryz.ntmps14
  go_wp2_with (first
    | (go_at_call 20; go_loud (refine (marshal_i8 w.heap.size [] x _ hB0 (by simp)).mono ?_; rintro e w1 ⟨rfl, hb1, hw1⟩; rw [List.nil_append, ← unhide HD] at hb1; have HW1 := hide hw1; have hz1 : w.heap.size + 1 ≤ w1.heap.size := Nat.le_trans (by simp) hw1.size; clear hw1 hB0))
    | (go_at_call 21; go_loud (refine (bytes_any w.heap.size ds _ hb1 (by omega)).mono ?_; rintro e w2 ⟨rfl, A, c, rfl, hc1, hc2, hr2⟩; have HR2 := hide hr2; clear hr2))
    | (go_at_call 18; go_loud (refine (copied_any (fun b => w.heap.size + 1 ≤ b ∧ b < w1.heap.size) A ds ds.length c w1.drew rfl ((unhide HR2).keep (fun _ _ => rfl)) (fun x hx => hx.2) (by omega)).mono ?_; rintro e w3 ⟨v, rfl, hown, hbel⟩; have HO := hide hown; have HB3 := hide hbel; obtain ⟨A3, c3, rfl, hc3, hm3, _⟩ := own_slice hown; clear hown hbel)))
  go_ret2
  have hr3 := Reads.of_own (unhide HO)
  have hw1 := unhide HW1
  have hw3 : Below w.heap.size w w3 := (((Below.refl _ _).alloc (Nat.le_refl _) _).trans hw1).drew.trans ((unhide HB3).mono (by show _ ≤ w1.heap.size; omega))
  exact ⟨A3, _, c3, rfl, rfl, hc3, hm3, hr3.sub (fun b hb => ⟨Nat.le_trans (by show w.heap.size ≤ w1.heap.size; omega) hb.1, hb.2.1⟩), hw3⟩
set_option maxHeartbeats 800000 in
theorem implWriteBoolean_any (b : Bool) (w : World) :
    Calls Tryz.prog 6 #[.bool b] w (Wrote w (boolE b)) := by
  obtain ⟨ds, hds⟩ : ∃ ds, ds = boolE b := ⟨_, rfl⟩
  have HM := fun W : World => marshaled_bool b W
  rw [← hds] at HM
  rw [← hds]
  clear hds
  go_enter_defers Tryz.func6, Tryz.ntmps6
  go_wp2_with fail
  refine (HM _).mono ?_
  clear HM
  rintro e w3 ⟨A3, n3, c3, rfl, hn3, hc3, hm3, hr3, hbel⟩
  have hP3 : Blk w3 w.heap.size 22 #[.slice none 0 0] := ((Blk.new w _ _).alloc _).below hbel (by simp; omega)
  have hQ3 : Blk w3 (w.heap.size + 1) 4 #[.bool false] := (Blk.new' (by simp)).below hbel (by simp)
  have p0 := hP3.cell 0
  have p1 := hP3.frozen 0
  have q0 := hQ3.cell 0
  have q1 := hQ3.frozen 0
  have hz3 : w.heap.size + 1 + 1 ≤ w3.heap.size := by have := hbel.size; simpa using this
  have HB3 := hide hbel
  have HR3 := hide hr3
  have HN3 := hide hn3
  clear hbel hr3 hn3 hP3 hQ3
  go_wp2
  refine leaves_cons (f := 13) (args := #[.pointer (some ⟨w.heap.size, 0, none⟩), .pointer (some ⟨w.heap.size + 1, 0, none⟩)]) (by simp) (by simp [go_sem]) ?_
  refine (noData_idle ⟨w.heap.size, 0, none⟩ ⟨w.heap.size + 1, 0, none⟩ _).mono ?_
  rintro e u' w'' ⟨rfl, rfl, rfl⟩
  have hbel := unhide HB3
  have hw3 : Below w.heap.size w w3 := (((Below.refl w.heap.size w).alloc (Nat.le_refl _) _).alloc (by simp) _).trans (hbel.mono (by simp; omega))
  simp [Leaves, settle, results, Tryz.results6, go_sem, p0, q0]
  have hR : RB w3 (fun b => w.heap.size + 1 + 1 ≤ b ∧ b < w3.heap.size) A3 ds := (unhide HR3).sub (fun b hb => ⟨by have := hb.1; simpa using this, hb.2⟩)
  have k0 : ¬ (fun b => w.heap.size + 1 + 1 ≤ b ∧ b < w3.heap.size) w.heap.size := fun h => by have := h.1; omega
  have k1 : ¬ (fun b => w.heap.size + 1 + 1 ≤ b ∧ b < w3.heap.size) (w.heap.size + 1) := fun h => by have := h.1; omega
  refine ⟨A3, _, c3, rfl, unhide HN3, hc3, hm3, (hR.keep (stays_setCell k1 (stays_setCell k0 (Stays.refl _ _) _) _)).sub (fun b hb => ⟨?_, ?_⟩), (by repeat (first | with_reducible exact Below.refl _ _ | with_reducible exact hw3 | with_reducible refine Below.alloc ?_ (by first | omega | (simp; omega) | (simp; done)) _ | with_reducible refine Below.setCell ?_ (by first | omega | (simp; omega) | (simp; done)) _ | with_reducible refine Below.drew ?_ | with_reducible refine below_drewN ?_ _))⟩
  · have := hb.1
    omega
  · have := hb.2
    simpa using this
set_option maxHeartbeats 800000 in
theorem implWriteByte_any (x : Int) (w : World) :
    Calls Tryz.prog 9 #[.int .i8 x] w (Wrote w (i8E x)) := by
  obtain ⟨ds, hds⟩ : ∃ ds, ds = i8E x := ⟨_, rfl⟩
  have HM := fun W : World => marshaled_i8 x W
  rw [← hds] at HM
  rw [← hds]
  clear hds
  go_enter_defers Tryz.func9, Tryz.ntmps9
  go_wp2_with fail
  refine (HM _).mono ?_
  clear HM
  rintro e w3 ⟨A3, n3, c3, rfl, hn3, hc3, hm3, hr3, hbel⟩
  have hP3 : Blk w3 w.heap.size 22 #[.slice none 0 0] := ((Blk.new w _ _).alloc _).below hbel (by simp; omega)
  have hQ3 : Blk w3 (w.heap.size + 1) 4 #[.bool false] := (Blk.new' (by simp)).below hbel (by simp)
  have p0 := hP3.cell 0
  have p1 := hP3.frozen 0
  have q0 := hQ3.cell 0
  have q1 := hQ3.frozen 0
  have hz3 : w.heap.size + 1 + 1 ≤ w3.heap.size := by have := hbel.size; simpa using this
  have HB3 := hide hbel
  have HR3 := hide hr3
  have HN3 := hide hn3
  clear hbel hr3 hn3 hP3 hQ3
  go_wp2
  refine leaves_cons (f := 13) (args := #[.pointer (some ⟨w.heap.size, 0, none⟩), .pointer (some ⟨w.heap.size + 1, 0, none⟩)]) (by simp) (by simp [go_sem]) ?_
  refine (noData_idle ⟨w.heap.size, 0, none⟩ ⟨w.heap.size + 1, 0, none⟩ _).mono ?_
  rintro e u' w'' ⟨rfl, rfl, rfl⟩
  have hbel := unhide HB3
  have hw3 : Below w.heap.size w w3 := (((Below.refl w.heap.size w).alloc (Nat.le_refl _) _).alloc (by simp) _).trans (hbel.mono (by simp; omega))
  simp [Leaves, settle, results, Tryz.results9, go_sem, p0, q0]
  have hR : RB w3 (fun b => w.heap.size + 1 + 1 ≤ b ∧ b < w3.heap.size) A3 ds := (unhide HR3).sub (fun b hb => ⟨by have := hb.1; simpa using this, hb.2⟩)
  have k0 : ¬ (fun b => w.heap.size + 1 + 1 ≤ b ∧ b < w3.heap.size) w.heap.size := fun h => by have := h.1; omega
  have k1 : ¬ (fun b => w.heap.size + 1 + 1 ≤ b ∧ b < w3.heap.size) (w.heap.size + 1) := fun h => by have := h.1; omega
  refine ⟨A3, _, c3, rfl, unhide HN3, hc3, hm3, (hR.keep (stays_setCell k1 (stays_setCell k0 (Stays.refl _ _) _) _)).sub (fun b hb => ⟨?_, ?_⟩), (by repeat (first | with_reducible exact Below.refl _ _ | with_reducible exact hw3 | with_reducible refine Below.alloc ?_ (by first | omega | (simp; omega) | (simp; done)) _ | with_reducible refine Below.setCell ?_ (by first | omega | (simp; omega) | (simp; done)) _ | with_reducible refine Below.drew ?_ | with_reducible refine below_drewN ?_ _))⟩
  · have := hb.1
    omega
  · have := hb.2
    simpa using this
theorem bit_any (b : Bool) (w : World) : Calls Tryz.prog 8 #[.bool b] w fun e w' => e = .returned (.int .u64 (bitN b : Nat)) ∧ w = w' := by
  cases b <;> (
    go_enter Tryz.func8, Tryz.ntmps8
    go_wp2
    go_ret
    exact ⟨rfl, rfl⟩)
set_option maxRecDepth 100000 in
set_option maxHeartbeats 800000 in
theorem FnWriteBoolean_walk (b : Bool) (w : World) :
    Calls Tryz.prog 3 #[.bool b] w fun e w' => e = .returned (.bool true) ∧ Below w.heap.size w w' := by
  go_enter Tryz.func3, Tryz.ntmps3
  go_wp2_with fail
  refine (implWriteBoolean_any true w).mono ?_
  rintro e w1 ⟨A1, n1, c1, rfl, rfl, hc1, hm1, hr1, hb1⟩
  go_wp2_with fail
  refine (bit_any true _).mono ?_
  rintro e w1 ⟨rfl, rfl⟩
  go_wp2_with fail
  refine (wrote_flat (Made w w1) A1 (boolE true) _ c1 1 (bitN true) [] 0 w1 rfl hr1 hc1 hm1 (by decide) (fun x hx => hx.2) (bool_read true)).mono ?_
  rintro e w2 ⟨rfl, hb2⟩
  go_wp2_with fail
  refine (implWriteBoolean_any b w2).mono ?_
  rintro e w3 ⟨A3, n3, c3, rfl, rfl, hc3, hm3, hr3, hb3⟩
  go_wp2_with fail
  refine (bit_any b _).mono ?_
  rintro e w3 ⟨rfl, rfl⟩
  go_wp2_with fail
  refine (wrote_flat (Made w2 w3) A3 (boolE b) _ c3 1 (bitN b) [] 0 w3 rfl hr3 hc3 hm3 (by simp [boolE]) (fun x hx => hx.2) (bool_read b)).mono ?_
  rintro e w4 ⟨rfl, hb4⟩
  go_wp2
  go_ret
  exact ⟨rfl, ((hb1.trans (hb2.mono hb1.size)).trans (hb3.mono (Nat.le_trans hb1.size hb2.size))).trans (hb4.mono (Nat.le_trans (Nat.le_trans hb1.size hb2.size) hb3.size))⟩
theorem wrapu64 (x : Int) : ((num8 x : Nat) : Int) = IntKind.u64.wrap x := by
  simp [IntKind.wrap, IntKind.bits, IntKind.signed, num8]
  omega
set_option maxRecDepth 100000 in
set_option maxHeartbeats 800000 in
theorem FnWriteByte_walk (x : Int) (w : World) (hx : (Lit.int .i8 x).wf = true) :
    Calls Tryz.prog 4 #[.int .i8 x] w fun e w' => e = .returned (.bool true) ∧ Below w.heap.size w w' := by
  have hb : -128 ≤ x ∧ x ≤ 127 := by simpa [Lit.wf, IntKind.min, IntKind.max, IntKind.signed, IntKind.bits] using hx
  obtain ⟨q, hq⟩ : ∃ q, q = num8 x := ⟨_, rfl⟩
  have hrd := i8_read x hb.1 hb.2
  have hwr := wrapu64 x
  rw [← hq] at hrd hwr
  have HRD := hide hrd
  have HWR := hide hwr.symm
  clear hrd hwr hq hx
  obtain ⟨hx0, hx1⟩ := hb
  go_enter Tryz.func4, Tryz.ntmps4
  go_wp2_with fail
  refine (implWriteByte_any 5 w).mono ?_
  rintro e w1 ⟨A1, n1, c1, rfl, rfl, hc1, hm1, hr1, hb1⟩
  go_wp2_with fail
  refine (wrote_flat (Made w w1) A1 (i8E 5) _ c1 6 5 [] 0 w1 rfl hr1 hc1 hm1 (by decide) (fun x hx => hx.2) (i8_read 5 (by decide) (by decide))).mono ?_
  rintro e w2 ⟨rfl, hb2⟩
  go_wp2_with fail
  refine (implWriteByte_any x w2).mono ?_
  rintro e w3 ⟨A3, n3, c3, rfl, rfl, hc3, hm3, hr3, hb3⟩
  have hwr := unhide HWR
  go_wp2_with fail
  refine (wrote_flat (Made w2 w3) A3 (i8E x) _ c3 6 q [] 0 w3 rfl hr3 hc3 hm3 (by simp [i8E]) (fun x hx => hx.2) (unhide HRD)).mono ?_
  rintro e w4 ⟨rfl, hb4⟩
  go_wp2
  go_ret
  exact ⟨rfl, ((hb1.trans (hb2.mono hb1.size)).trans (hb3.mono (Nat.le_trans hb1.size hb2.size))).trans (hb4.mono (Nat.le_trans (Nat.le_trans hb1.size hb2.size) hb3.size))⟩
end Go.Proofs.YtkokeohlbmccpaaGreatDoor
