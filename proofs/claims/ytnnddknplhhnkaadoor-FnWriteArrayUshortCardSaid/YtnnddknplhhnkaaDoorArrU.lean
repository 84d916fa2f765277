/-
  An array of ushorts: Marshal, impl.WriteArrayUshort. Conditions: at most 300.
-/
import Derived.Test.YtnnddknplhhnkaaDoorArr
namespace Go.Proofs.YtnnddknplhhnkaaDoor
set_option linter.unusedSimpArgs false
set_option linter.unusedVariables false
open Go.RowKit
theorem infou16 : (Tryd.prog.info? 38).map (fun i => (i.zero, i.size, i.bytes)) = some (some (.int .u16 0), 1, 2) := by kernel_rfl
/-- Each number in two bytes. -/
def u16sE : List Int → List UInt8
  | [] => []
  | x :: r => UInt8.ofNat (x.toNat / 256) :: UInt8.ofNat x.toNat :: u16sE r
theorem u16sE_len : ∀ ns : List Int, (u16sE ns).length = 2 * ns.length
  | [] => rfl
  | x :: r => by simp [u16sE, u16sE_len r]; omega
theorem u16sE_snoc : ∀ (ns : List Int) (x : Int), u16sE (ns ++ [x]) = u16sE ns ++ [UInt8.ofNat (x.toNat / 256), UInt8.ofNat x.toNat]
  | [], x => rfl
  | y :: r, x => by simp [u16sE, u16sE_snoc r x]
def arrU (ns : List Int) : List UInt8 := hdrE ns.length (2 * ns.length) 96 ++ u16sE ns
theorem arrU_len (ns : List Int) : (arrU ns).length ≤ 2 * ns.length + 10 := by
  have := hdrE_len ns.length (2 * ns.length) 96
  simp [arrU, u16sE_len]
  omega
theorem takeU (x : Int) (h0 : 0 ≤ x) (h1 : x ≤ 65535) (r : List UInt8) : (lvl 7).take [] 96 (UInt8.ofNat (x.toNat / 256) :: UInt8.ofNat x.toNat :: r) = some (some (.mk 3 x.toNat [] [] 0 [], r)) := by
  have hb : bigA [UInt8.ofNat (x.toNat / 256), UInt8.ofNat x.toNat] = x.toNat := by
    simp [bigA]
    omega
  rw [show (lvl 7).take [] 96 (UInt8.ofNat (x.toNat / 256) :: UInt8.ofNat x.toNat :: r) = takeW (lvl 6).cons (lvl 6).val (lvl 6).take [] 96 (UInt8.ofNat (x.toNat / 256) :: UInt8.ofNat x.toNat :: r) from rfl]
  simp [takeW, kOf, hb]
theorem loopU : ∀ ns : List Int, (∀ x ∈ ns, 0 ≤ x ∧ x ≤ 65535) → loopA ((lvl 7).take [] 96) ns.length (u16sE ns) = some (some (ns.map (fun x => .mk 3 x.toNat [] [] 0 []), []))
  | [], _ => rfl
  | x :: r, h => by
    have h1 := h x (by simp)
    have h2 := loopU r (fun y hy => h y (by simp [hy]))
    simp only [List.length_cons, u16sE, loopA, takeU x h1.1 h1.2, h2, List.map_cons]
theorem arrU_read (ns : List Int) (h : ∀ x ∈ ns, 0 ≤ x ∧ x ≤ 65535) (hl : ns.length ≤ 300) : ∃ o, (lvl 8).val (arrU ns) = some (some (.mk 23 0 [] (ns.map (fun x => .mk 3 x.toNat [] [] 0 [])) o [], [])) := by
  rcases ns with _ | ⟨x, r⟩
  · exact ⟨_, arr_read0 96 3 2 (by omega) (by omega) rfl⟩
  · exact ⟨_, arr_read (x :: r).length (2 * (x :: r).length) 96 (u16sE (x :: r)) _ (by simp) (by simp only [List.length_cons] at *; omega) (by omega) (u16sE_len _) (by omega) (by omega) (by omega) (loopU _ h)⟩
set_option maxHeartbeats 800000 in
theorem u16Marshal_any (p : Nat) (bs : List UInt8) (ns : List Int) (A : Option Addr) (n c : Nat) (w : World) (hn : n = ns.length) (hc : n ≤ c) (hcm : c ≤ maxLen) (hn3 : n ≤ 300) (hwf : ∀ x ∈ ns, 0 ≤ x ∧ x ≤ 65535) (hr : Reads w (Lt p) 1 A n (ns.map (Value.int .u16))) (h : Buf w p bs) (hlen : bs.length ≤ 1000) :
    Calls Tryd.prog 29 #[.slice A n c, .pointer (some ⟨p, 0, none⟩)] w fun e w' => e = .returned .nilIface ∧ Buf w' p (bs ++ arrU ns) ∧ Below p w w' := by
  have hp := h.lt
  unfold maxLen at hcm
  have hsz : (n : Int) * ((2 : Nat) : Int) = ((2 * n : Nat) : Int) := by omega
  have HA := writeArrayHeader_any p bs n 2 (2 * n) 96 hsz (by omega) (by omega) (by omega) w h (by omega)
  clear hsz
  have HN := hide hn
  clear hn
  have hld := hdrE_len n (2 * n) 96
  obtain ⟨H, hH⟩ : ∃ H, H = hdrE n (2 * n) 96 := ⟨_, rfl⟩
  rw [← hH] at HA hld
  have HH := hide hH
  clear hH
  go_enter Tryd.func29, Tryd.ntmps29
  go_wp2_with fail
  refine HA.mono ?_
  rintro e w1 ⟨rfl, hb1, hw1⟩
  have hr1 := hr.below hw1
  have HW1 := hide hw1
  clear hw1 HA h
  go_wp2
  go_loopw [13] (fun i wr => ∃ k : Nat, i = .int .i64 k ∧ k ≤ n ∧ Buf wr p (bs ++ H ++ u16sE (ns.take k)) ∧ Below p w1 wr) (fun i _ => n - (intOf i).toNat)
  case atStart => exact ⟨0, rfl, Nat.zero_le _, by simpa [u16sE] using hb1, Below.refl _ _⟩
  case round =>
    obtain ⟨k, rfl, hk, hbuf, hbel⟩ := hrel
    by_cases hlt : k < n
    · obtain ⟨ad, u, rfl, hSb, hu, hcell⟩ := (hr1.below hbel).at_ hlt
      have hln : k < ns.length := by have := unhide HN; omega
      have hux : u = .int .u16 ns[k] := by
        rw [List.getElem?_map, List.getElem?_eq_getElem hln] at hu
        simpa using hu.symm
      have htk : u16sE (ns.take (k + 1)) = u16sE (ns.take k) ++ [UInt8.ofNat (ns[k].toNat / 256), UInt8.ofNat ns[k].toNat] := by
        rw [List.take_succ_eq_append_getElem hln, u16sE_snoc]
      have hx := hwf ns[k] (List.getElem_mem hln)
      have hlk : (u16sE (ns.take k)).length ≤ 600 := by rw [u16sE_len, List.length_take]; omega
      generalize ns[k] = x at *
      obtain ⟨X, rfl⟩ := Int.eq_ofNat_of_zero_le hx.1
      subst hux
      have HTK := hide htk
      clear htk hu
      have HB := hide hbel
      have HBU := hide hbuf
      clear hbel hbuf
      go_wp2_with (go_at_call 42; go_loud (refine (appendUint16_any p (bs ++ H ++ u16sE (ns.take k)) X _ (unhide HBU) (by simp; omega) (by omega)).mono ?_; rintro e w4 ⟨rfl, hb4, hw4⟩))
      go_roundw
      case rel => exact ⟨k + 1, by go_num, by omega, by rw [unhide HTK]; simpa using hb4, (unhide HB).trans hw4⟩
      case measure => simp [intOf]; omega
    · obtain rfl : k = n := by omega
      have htk : ns.take k = ns := List.take_of_length_le (by have := unhide HN; omega)
      rw [htk] at hbuf
      clear htk
      go_wp2
      go_ret
      refine ⟨rfl, ?_, (unhide HW1).trans hbel⟩
      unfold arrU
      have e1 := unhide HH
      rw [unhide HN] at e1
      rw [← e1, ← List.append_assoc]
      exact hbuf
set_option maxRecDepth 100000 in
set_option maxHeartbeats 1600000 in
theorem implWriteArrayUshort_any (A : Option Addr) (ns : List Int) (n c : Nat) (hn : n = ns.length) (hc : n ≤ c) (hcm : c ≤ 9223372036854775807) (hn3 : n ≤ 300) (hwf : ∀ x ∈ ns, 0 ≤ x ∧ x ≤ 65535) (w : World) (hr : Reads w (Lt w.heap.size) 1 A n (ns.map (Value.int .u16))) :
    Calls Tryd.prog 14 #[.slice A n c] w (Wrote w (arrU ns)) := by
  obtain ⟨ds, hds⟩ : ∃ ds, ds = arrU ns := ⟨_, rfl⟩
  have hdl : ds.length ≤ 1000 := by rw [hds]; have := arrU_len ns; have := hn; omega
  rw [← hds]
  have HD := hide hds
  clear hds
  have HN := hide hn
  clear hn
  go_enter_defers Tryd.func14, Tryd.ntmps14
  go_wp2
  go_loopw [4, 10] (fun v i wr => ∃ k : Nat, i = .int .i64 k ∧ k ≤ n ∧ wr.ownsRow (w.heap.size + 1 + 1) 38 1 v k ((ns.take k).map (Value.int .u16)) ∧ Below (w.heap.size + 1 + 1) ((w.alloc (.cells #[.slice none 0 0] 23)).alloc (.cells #[.bool false] 4)) wr) (fun _ i _ => n - (intOf i).toNat)
  case atStart => exact ⟨0, rfl, Nat.zero_le _, World.ownsRow_nil _ _ _ _, Below.refl _ _⟩
  case round =>
    obtain ⟨k, rfl, hk, hown, hbel⟩ := hrel
    obtain ⟨Av, cv, rfl, hcv1, hcv2, _⟩ := own_slice hown
    by_cases hlt : k < n
    · obtain ⟨ad, u, rfl, hSb, hu, hcell⟩ := hr.at_ hlt
      have hln : k < ns.length := by have := unhide HN; omega
      have hux : u = .int .u16 ns[k] := by
        rw [List.getElem?_map, List.getElem?_eq_getElem hln] at hu
        simpa using hu.symm
      have hcell2 : wr.cell? (ad.add k) = some (.int .u16 ns[k]) := by
        rw [← hux, ← hcell]
        have hl : (ad.add k).block < w.heap.size := by rw [block_of_add]; exact hSb
        have h1 := hbel.cell (p := ad.add k) (Nat.lt_of_lt_of_le hl (by omega))
        rw [h1, hcell]
        exact (World.cell?_alloc_lt _ _ _ (by simp; omega)).trans ((World.cell?_alloc_lt _ _ _ hl).trans hcell)
      have htk : (ns.take (k + 1)).map (Value.int .u16) = (ns.take k).map (Value.int .u16) ++ [.int .u16 ns[k]] := by
        rw [List.take_succ_eq_append_getElem hln, List.map_append]
        rfl
      generalize ns[k] = x at *
      have HTK := hide htk
      have HOWN := hide hown
      have HB := hide hbel
      have hsz : w.heap.size + 1 + 1 ≤ wr.heap.size := by have := hbel.size; simpa using this
      clear htk hux hu hcell hown hbel
      go_wp2_with (at_builtin; obtain ⟨i0, hi0, hz0, hz1', hz2⟩ := info_parts infou16; go_loud (refine wpList_append_any (S := fun _ => True) _ rfl _ _ _ rfl (w.heap.size + 1 + 1) 38 i0 _ 1 2 Tryd.underlying66 hi0 hz0 hz1' hz2 ?x1 ?x2 (.slice Av k cv) k ((ns.take k).map (Value.int .u16)) ?x3 ?x8 (some ⟨wr.heap.size, 0, none⟩) 1 1 [.int .u16 x] ?x4 ?x5 ?x6 ?c3 ?x7 ?c4 ?_; (case x1 => rfl); (case x2 => omega); (case x3 => rfl); (case x4 => rfl); (case x5 => exact Reads.of_blk (S := fun _ => True) (t := 38) (cs := #[.int .u16 x]) (Blk.new' rfl) trivial 1 1 rfl); (case x6 => intro u hu; simp only [List.mem_singleton] at hu; subst hu; rfl); (case x7 => omega); (case x8 => exact own_below (unhide HOWN) (by repeat (first | with_reducible exact Below.refl _ _ | with_reducible exact x | with_reducible refine Below.alloc ?_ (by first | omega | (simp; omega) | (simp; done)) _ | with_reducible refine Below.setCell ?_ (by first | omega | (simp; omega) | (simp; done)) _ | with_reducible refine Below.drew ?_ | with_reducible refine below_drewN ?_ _))); (case c3 => unfold maxLen; omega); (case c4 => simp; omega); clear hi0 hz0 hz1' hz2; intro v1 w1 hown1 hgrow hat; have hB1 : Below (w.heap.size + 1 + 1) ((w.alloc (.cells #[.slice none 0 0] 23)).alloc (.cells #[.bool false] 4)) w1 := (((unhide HB).alloc hsz _).grown hgrow (by simp; omega) (fun k hk => (own_ge (unhide HOWN) _ hk).1)); have HB1 := hide hB1; have HO1 := hide hown1; clear hgrow hown1 hat hB1))
      go_roundw
      case rel => exact ⟨k + 1, by go_num, by omega, by rw [unhide HTK]; exact unhide HO1, unhide HB1⟩
      case measure => simp [intOf]; omega
    · obtain rfl : k = n := by omega
      have htk : (ns.take k).map (Value.int .u16) = ns.map (Value.int .u16) := by rw [List.take_of_length_le (by have := unhide HN; omega)]
      rw [htk] at hown
      have hsz : w.heap.size + 1 + 1 ≤ wr.heap.size := by have := hbel.size; simpa using this
      obtain ⟨Av', cv', he', _, _, hrA⟩ := own_slice hown
      simp only [Value.slice.injEq] at he'
      obtain ⟨rfl, _, rfl⟩ := he'
      have hB0 : Buf (wr.alloc (.cells #[.slice none 0 0, .int .i64 0] 52)) wr.heap.size [] := ⟨_, Blk.new _ _ _, own_nil _ _ _ _⟩
      have hrB : Reads (wr.alloc (.cells #[.slice none 0 0, .int .i64 0] 52)) (Lt wr.heap.size) 1 Av k (ns.map (Value.int .u16)) := (hrA.keep (stays_alloc (fun b hb => hb.2) (Stays.refl _ _) _)).sub (fun b hb => hb.2)
      have hP0 : Blk wr w.heap.size 23 #[.slice none 0 0] := Blk.below ((Blk.new w _ _).alloc _) hbel (by omega)
      have hQ0 : Blk wr (w.heap.size + 1) 4 #[.bool false] := Blk.below (Blk.new' (by simp)) hbel (by omega)
      have HBR := hide hbel
      clear hown hbel hrA htk hr
      generalize hZZ : wr.heap.size = p at *
      go_wp2_with (first
        | (go_at_call 29; go_loud (refine (u16Marshal_any p [] ns Av k cv _ (unhide HN) hcv1 hcv2 hn3 hwf hrB hB0 (by simp)).mono ?_; rintro e w1 ⟨rfl, hb1, hw1⟩; rw [List.nil_append, ← unhide HD] at hb1; have HW1 := hide hw1; have hP1 : Blk w1 w.heap.size 23 #[.slice none 0 0] := (hP0.alloc _).below hw1 (by omega); have hQ1 : Blk w1 (w.heap.size + 1) 4 #[.bool false] := (hQ0.alloc _).below hw1 (by omega); have hz1 : p + 1 ≤ w1.heap.size := Nat.le_trans (by simp [hZZ]) hw1.size; clear hw1 hB0))
        | (go_at_call 24; go_loud (refine (bytes_any p ds _ hb1 (by omega)).mono ?_; rintro e w2 ⟨rfl, A, c, rfl, hc1, hc2, hr2⟩; have HR2 := hide hr2; clear hr2))
        | (go_at_call 23; go_loud (refine (copied_any (fun b => p + 1 ≤ b ∧ b < w1.heap.size) A ds ds.length c w1.drew rfl ((unhide HR2).keep (fun _ _ => rfl)) (fun x hx => hx.2) (by omega)).mono ?_; rintro e w3 ⟨v, rfl, hown, hbel⟩; have HO := hide hown; have HB3 := hide hbel; have hP3 : Blk w3 w.heap.size 23 #[.slice none 0 0] := Blk.below (w := w1.drew) hP1 hbel (by show _ < w1.heap.size; omega); have hQ3 : Blk w3 (w.heap.size + 1) 4 #[.bool false] := Blk.below (w := w1.drew) hQ1 hbel (by show _ < w1.heap.size; omega); have p0 := hP3.cell 0; have p1 := hP3.frozen 0; have q0 := hQ3.cell 0; have q1 := hQ3.frozen 0; obtain ⟨A3, c3, rfl, hc3, hm3, _⟩ := own_slice hown; clear hown hbel hP1 hQ1)))
      refine leaves_cons (f := 20) (args := #[.pointer (some ⟨w.heap.size, 0, none⟩), .pointer (some ⟨w.heap.size + 1, 0, none⟩)]) (by simp) (by simp [go_sem]) ?_
      refine (noData_idle ⟨w.heap.size, 0, none⟩ ⟨w.heap.size + 1, 0, none⟩ _).mono ?_
      rintro e u' w'' ⟨rfl, rfl, rfl⟩
      have hr3 := Reads.of_own (unhide HO)
      have hw1 := unhide HW1
      have hwr : Below w.heap.size w wr := (((Below.refl w.heap.size w).alloc (Nat.le_refl _) _).alloc (by simp) _).trans ((unhide HBR).mono (by omega))
      have hw3 : Below w.heap.size w w3 := (((hwr.alloc (by omega) _).trans (hw1.mono (by omega))).drew).trans ((unhide HB3).mono (by show _ ≤ w1.heap.size; omega))
      have hz3 : w1.heap.size ≤ w3.heap.size := (unhide HB3).size
      simp [Leaves, settle, results, Tryd.results14, go_sem, p0, q0]
      have hR := hr3.sub (T := fun b => w1.heap.size ≤ b ∧ b < w3.heap.size) (fun b hb => ⟨hb.1, hb.2.1⟩)
      have k0 : ¬ (fun b => w1.heap.size ≤ b ∧ b < w3.heap.size) w.heap.size := fun h => by have := h.1; omega
      have k1 : ¬ (fun b => w1.heap.size ≤ b ∧ b < w3.heap.size) (w.heap.size + 1) := fun h => by have := h.1; omega
      refine ⟨A3, _, c3, rfl, rfl, hc3, hm3, (hR.keep (stays_setCell k1 (stays_setCell k0 (Stays.refl _ _) _) _)).sub (fun b hb => ⟨?_, ?_⟩), (by repeat (first | with_reducible exact Below.refl _ _ | with_reducible exact hw3 | with_reducible refine Below.alloc ?_ (by first | omega | (simp; omega) | (simp; done)) _ | with_reducible refine Below.setCell ?_ (by first | omega | (simp; omega) | (simp; done)) _ | with_reducible refine Below.drew ?_ | with_reducible refine below_drewN ?_ _))⟩
      · have := hb.1
        omega
      · have := hb.2
        simpa using this
end Go.Proofs.YtnnddknplhhnkaaDoor
