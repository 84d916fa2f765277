/-
  An array of ints: Marshal, impl.WriteArrayInt, spec.ArrayAsked of ints. Conditions: at most 300, that are asked.
-/
import Derived.Test.YtnnddknplhhnkaaDoorArr
namespace Go.Proofs.YtnnddknplhhnkaaDoor
set_option linter.unusedSimpArgs false
set_option linter.unusedVariables false
open Go.RowKit
theorem infoi32 : (Tryd.prog.info? 21).map (fun i => (i.zero, i.size, i.bytes)) = some (some (.int .i32 0), 1, 4) := by kernel_rfl
/-- Each number in one byte, in four. -/
def i8sE : List Int → List UInt8
  | [] => []
  | x :: r => UInt8.ofNat (x % 256).toNat :: i8sE r
def i32sE : List Int → List UInt8
  | [] => []
  | x :: r => UInt8.ofNat ((x % 4294967296).toNat / 16777216) :: UInt8.ofNat ((x % 4294967296).toNat / 65536) :: UInt8.ofNat ((x % 4294967296).toNat / 256) :: UInt8.ofNat (x % 4294967296).toNat :: i32sE r
theorem i8sE_len : ∀ ns : List Int, (i8sE ns).length = ns.length
  | [] => rfl
  | x :: r => by simp [i8sE, i8sE_len r]
theorem i32sE_len : ∀ ns : List Int, (i32sE ns).length = 4 * ns.length
  | [] => rfl
  | x :: r => by simp [i32sE, i32sE_len r]; omega
theorem i8sE_snoc : ∀ (ns : List Int) (x : Int), i8sE (ns ++ [x]) = i8sE ns ++ [UInt8.ofNat (x % 256).toNat]
  | [], x => rfl
  | y :: r, x => by simp [i8sE, i8sE_snoc r x]
theorem i32sE_snoc : ∀ (ns : List Int) (x : Int), i32sE (ns ++ [x]) = i32sE ns ++ [UInt8.ofNat ((x % 4294967296).toNat / 16777216), UInt8.ofNat ((x % 4294967296).toNat / 65536), UInt8.ofNat ((x % 4294967296).toNat / 256), UInt8.ofNat (x % 4294967296).toNat]
  | [], x => rfl
  | y :: r, x => by simp [i32sE, i32sE_snoc r x]
/-- One is above 127; one is below -128. -/
def highB (ns : List Int) : Bool := ns.any fun x => decide (127 < x)
def lowB (ns : List Int) : Bool := ns.any fun x => decide (x < -128)
theorem highB_no {ns : List Int} (h : highB ns = false) : ∀ x ∈ ns, x ≤ 127 := fun x hx => by
  have := List.any_eq_false.1 h x hx
  simp at this
  omega
theorem lowB_no {ns : List Int} (h : lowB ns = false) : ∀ x ∈ ns, -128 ≤ x := fun x hx => by
  have := List.any_eq_false.1 h x hx
  simp at this
  omega
def arrI (ns : List Int) : List UInt8 := if highB ns = true then hdrE ns.length (4 * ns.length) 113 ++ i32sE ns else hdrE ns.length ns.length 84 ++ i8sE ns
theorem arrI_len (ns : List Int) : (arrI ns).length ≤ 4 * ns.length + 10 := by
  unfold arrI
  split
  · have := hdrE_len ns.length (4 * ns.length) 113
    simp [i32sE_len]
    omega
  · have := hdrE_len ns.length ns.length 84
    simp [i8sE_len]
    omega
abbrev numI (x : Int) : Nat := (x % 18446744073709551616).toNat
theorem takeI1 (x : Int) (h0 : -128 ≤ x) (h1 : x ≤ 127) (r : List UInt8) : (lvl 7).take [] 84 (UInt8.ofNat (x % 256).toNat :: r) = some (some (.mk 8 (numI x) [] [] 0 [], r)) := by
  have hb : bigA [UInt8.ofNat (x % 256).toNat] = (x % 256).toNat := by
    simp [bigA]
    omega
  have hs : sgn 1 (x % 256).toNat = numI x := by
    unfold sgn numI
    split <;> omega
  rw [show (lvl 7).take [] 84 (UInt8.ofNat (x % 256).toNat :: r) = takeW (lvl 6).cons (lvl 6).val (lvl 6).take [] 84 (UInt8.ofNat (x % 256).toNat :: r) from rfl]
  simp [takeW, kOf, hb, hs]
theorem takeI4 (x : Int) (h0 : -2147483648 ≤ x) (h1 : x ≤ 2147483647) (r : List UInt8) : (lvl 7).take [] 113 (UInt8.ofNat ((x % 4294967296).toNat / 16777216) :: UInt8.ofNat ((x % 4294967296).toNat / 65536) :: UInt8.ofNat ((x % 4294967296).toNat / 256) :: UInt8.ofNat (x % 4294967296).toNat :: r) = some (some (.mk 8 (numI x) [] [] 0 [], r)) := by
  have hb : bigA (be4 (x % 4294967296).toNat) = (x % 4294967296).toNat := bigA_be4 _ (by omega)
  have hs : sgn 4 (x % 4294967296).toNat = numI x := by
    unfold sgn numI
    split <;> omega
  rw [show (lvl 7).take [] 113 (UInt8.ofNat ((x % 4294967296).toNat / 16777216) :: UInt8.ofNat ((x % 4294967296).toNat / 65536) :: UInt8.ofNat ((x % 4294967296).toNat / 256) :: UInt8.ofNat (x % 4294967296).toNat :: r) = takeW (lvl 6).cons (lvl 6).val (lvl 6).take [] 113 (be4 (x % 4294967296).toNat ++ r) from rfl]
  have l1 : (be4 (x % 4294967296).toNat).length = 4 := rfl
  have e1 : (be4 (x % 4294967296).toNat ++ r).take 4 = be4 (x % 4294967296).toNat := List.take_left' l1
  have e2 : (be4 (x % 4294967296).toNat ++ r).drop 4 = r := List.drop_left' l1
  simp [takeW, kOf, hb, hs, e1, e2, l1]
theorem loopI1 : ∀ ns : List Int, (∀ x ∈ ns, -128 ≤ x ∧ x ≤ 127) → loopA ((lvl 7).take [] 84) ns.length (i8sE ns) = some (some (ns.map (fun x => .mk 8 (numI x) [] [] 0 []), []))
  | [], _ => rfl
  | x :: r, h => by
    have h1 := h x (by simp)
    have h2 := loopI1 r (fun y hy => h y (by simp [hy]))
    simp only [List.length_cons, i8sE, loopA, takeI1 x h1.1 h1.2, h2, List.map_cons]
theorem loopI4 : ∀ ns : List Int, (∀ x ∈ ns, -2147483648 ≤ x ∧ x ≤ 2147483647) → loopA ((lvl 7).take [] 113) ns.length (i32sE ns) = some (some (ns.map (fun x => .mk 8 (numI x) [] [] 0 []), []))
  | [], _ => rfl
  | x :: r, h => by
    have h1 := h x (by simp)
    have h2 := loopI4 r (fun y hy => h y (by simp [hy]))
    simp only [List.length_cons, i32sE, loopA, takeI4 x h1.1 h1.2, h2, List.map_cons]
theorem arrI_read (ns : List Int) (h : (∀ x ∈ ns, -2147483648 ≤ x ∧ x ≤ 2147483647) ∧ (lowB ns = false ∨ highB ns = true)) (hl : ns.length ≤ 300) : ∃ o, (lvl 8).val (arrI ns) = some (some (.mk 23 0 [] (ns.map (fun x => .mk 8 (numI x) [] [] 0 [])) o [], [])) := by
  obtain ⟨h, hlh⟩ := h
  rcases ns with _ | ⟨x, r⟩
  · exact ⟨_, arr_read0 84 8 1 (by omega) (by omega) rfl⟩
  · unfold arrI
    by_cases hh : highB (x :: r) = true
    · rw [if_pos hh]
      exact ⟨_, arr_read (x :: r).length (4 * (x :: r).length) 113 (i32sE (x :: r)) _ (by simp) (by simp only [List.length_cons] at *; omega) (by omega) (i32sE_len _) (by omega) (by omega) (by omega) (loopI4 _ h)⟩
    · rw [if_neg hh]
      have h1 := highB_no (ns := x :: r) (by simpa using hh)
      have h2 := lowB_no (ns := x :: r) (hlh.resolve_right hh)
      exact ⟨_, arr_read (x :: r).length (x :: r).length 84 (i8sE (x :: r)) _ (by simp) (by simp only [List.length_cons] at *; omega) (by omega) (i8sE_len _) (by omega) (by omega) (by omega) (loopI1 _ (fun y hy => ⟨h2 y hy, h1 y hy⟩))⟩
theorem high_first : ∀ ns : List Int, highB ns = true → ∃ m, ∃ h : m < ns.length, 127 < ns[m] ∧ ∀ j (hj : j < ns.length), j < m → ns[j] ≤ 127
  | [], h => by simp [highB] at h
  | x :: r, h => by
    by_cases hx : 127 < x
    · exact ⟨0, by simp, hx, fun j _ hj => absurd hj (by omega)⟩
    · have h' : highB r = true := by simpa [highB, hx] using h
      obtain ⟨m, hm, h1, h2⟩ := high_first r h'
      refine ⟨m + 1, by simpa using hm, by simpa using h1, fun j hj hjm => ?_⟩
      rcases j with _ | j
      · simp; omega
      · simpa using h2 j (by simpa using hj) (by omega)
theorem wrap_u8 (x : Int) : u8 (UInt8.ofNat (x % 256).toNat) = .int .u8 (IntKind.u8.wrap x) := by
  simp [u8, IntKind.wrap, IntKind.bits, IntKind.signed]
  omega
theorem wrap_u32 (x : Int) : (((x % 4294967296).toNat : Nat) : Int) = IntKind.u32.wrap x := by
  simp [IntKind.wrap, IntKind.bits, IntKind.signed]
  omega
theorem wrap_u64 (x : Int) : ((numI x : Nat) : Int) = IntKind.u64.wrap x := by
  simp [IntKind.wrap, IntKind.bits, IntKind.signed, numI]
  omega
set_option maxHeartbeats 1600000 in
theorem i32Marshal_low (p : Nat) (bs : List UInt8) (ns : List Int) (A : Option Addr) (n c : Nat) (w : World) (hn : n = ns.length) (hc : n ≤ c) (hcm : c ≤ maxLen) (hn3 : n ≤ 300) (hwf : ∀ x ∈ ns, -128 ≤ x ∧ x ≤ 127) (hlow : highB ns = false) (hr : Reads w (Lt p) 1 A n (ns.map (Value.int .i32))) (h : Buf w p bs) (hlen : bs.length ≤ 1000) :
    Calls Tryd.prog 30 #[.slice A n c, .pointer (some ⟨p, 0, none⟩)] w fun e w' => e = .returned .nilIface ∧ Buf w' p (bs ++ arrI ns) ∧ Below p w w' := by
  have hp := h.lt
  unfold maxLen at hcm
  have hai : arrI ns = hdrE ns.length ns.length 84 ++ i8sE ns := by unfold arrI; rw [if_neg (by simp [hlow])]
  have HAI := hide hai
  clear hai hlow
  have hsz : (n : Int) * ((1 : Nat) : Int) = ((n : Nat) : Int) := by omega
  have HA := writeArrayHeader_any p bs n 1 n 84 hsz (by omega) (by omega) (by omega) w h (by omega)
  clear hsz
  have HN := hide hn
  clear hn
  have hld := hdrE_len n n 84
  obtain ⟨H, hH⟩ : ∃ H, H = hdrE n n 84 := ⟨_, rfl⟩
  rw [← hH] at HA hld
  have HH := hide hH
  clear hH
  go_enter Tryd.func30, Tryd.ntmps30
  go_wp2
  go_loop [5, 6, 15] (fun s t i => s = .int .i64 1 ∧ t = .int .u8 84 ∧ ∃ k : Nat, i = .int .i64 k ∧ k ≤ n) (fun _ _ i => n - (intOf i).toNat)
  case atStart => exact ⟨rfl, rfl, 0, rfl, Nat.zero_le _⟩
  case round =>
  obtain ⟨rfl, rfl, k, rfl, hk⟩ := hrel
  by_cases hlt : k < n
  · obtain ⟨ad, u, rfl, hSb, hu, hcell⟩ := hr.at_ hlt
    have hln : k < ns.length := by have := unhide HN; omega
    have hux : u = .int .i32 ns[k] := by
      rw [List.getElem?_map, List.getElem?_eq_getElem hln] at hu
      simpa using hu.symm
    have hx := hwf ns[k] (List.getElem_mem hln)
    generalize ns[k] = x at *
    subst hux
    have hx2 : ¬ (127 : Int) < x := by omega
    clear hu
    go_wp2
    go_round
    case rel => exact ⟨rfl, rfl, k + 1, by go_num, by omega⟩
    case measure => simp [intOf]; omega
  obtain rfl : n = k := by omega
  go_wp2_with fail
  refine HA.mono ?_
  rintro e w1 ⟨rfl, hb1, hw1⟩
  have hr1 := hr.below hw1
  have HW1 := hide hw1
  clear hw1 HA h hlt hk
  go_wp2
  go_loopw [43] (fun i wr => ∃ k : Nat, i = .int .i64 k ∧ k ≤ n ∧ Buf wr p (bs ++ H ++ i8sE (ns.take k)) ∧ Below p w1 wr) (fun i _ => n - (intOf i).toNat)
  case atStart => exact ⟨0, rfl, Nat.zero_le _, by simpa [i8sE] using hb1, Below.refl _ _⟩
  case round =>
    obtain ⟨k, rfl, hk, hbuf, hbel⟩ := hrel
    by_cases hlt : k < n
    · obtain ⟨ad, u, hAe, hSb, hu, hcell⟩ := (hr1.below hbel).at_ hlt
      cases hAe
      have hln : k < ns.length := by have := unhide HN; omega
      have hux : u = .int .i32 ns[k] := by
        rw [List.getElem?_map, List.getElem?_eq_getElem hln] at hu
        simpa using hu.symm
      have htk : i8sE (ns.take (k + 1)) = i8sE (ns.take k) ++ i8sE [ns[k]] := by
        rw [List.take_succ_eq_append_getElem hln, i8sE_snoc]
        rfl
      have hx := hwf ns[k] (List.getElem_mem hln)
      have hlk : (i8sE (ns.take k)).length ≤ 1200 := by rw [i8sE_len, List.length_take]; omega
      generalize ns[k] = x at *
      subst hux
      have HTK := hide htk
      clear htk hu
      have HB := hide hbel
      have HBU := hide hbuf
      clear hbel hbuf
      have hAB := appendByte_any p (bs ++ H ++ i8sE (ns.take k)) (UInt8.ofNat (x % 256).toNat) wr (unhide HBU) (by simp; omega)
      rw [wrap_u8] at hAB
      go_wp2_with (go_at_call 38; go_loud (refine hAB.mono ?_; rintro e w4 ⟨rfl, hb4, hw4⟩))
      go_roundw
      case rel => exact ⟨k + 1, by go_num, by omega, by rw [unhide HTK]; simpa [i8sE] using hb4, (unhide HB).trans hw4⟩
      case measure => simp [intOf]; omega
    · obtain rfl : k = n := by omega
      have htk : ns.take k = ns := List.take_of_length_le (by have := unhide HN; omega)
      rw [htk] at hbuf
      clear htk
      go_wp2
      go_ret
      refine ⟨rfl, ?_, (unhide HW1).trans hbel⟩
      rw [unhide HAI]
      have e1 := unhide HH
      rw [unhide HN] at e1
      rw [← e1, ← List.append_assoc]
      exact hbuf
set_option maxHeartbeats 1600000 in
theorem i32Marshal_high (p : Nat) (bs : List UInt8) (ns : List Int) (A : Option Addr) (n c : Nat) (w : World) (hn : n = ns.length) (hc : n ≤ c) (hcm : c ≤ maxLen) (hn3 : n ≤ 300) (hwf : ∀ x ∈ ns, -2147483648 ≤ x ∧ x ≤ 2147483647) (hhigh : highB ns = true) (hr : Reads w (Lt p) 1 A n (ns.map (Value.int .i32))) (h : Buf w p bs) (hlen : bs.length ≤ 1000) :
    Calls Tryd.prog 30 #[.slice A n c, .pointer (some ⟨p, 0, none⟩)] w fun e w' => e = .returned .nilIface ∧ Buf w' p (bs ++ arrI ns) ∧ Below p w w' := by
  have hp := h.lt
  unfold maxLen at hcm
  have hai : arrI ns = hdrE ns.length (4 * ns.length) 113 ++ i32sE ns := by unfold arrI; rw [if_pos hhigh]
  have HAI := hide hai
  obtain ⟨m, hml, hm1, hm2⟩ := high_first ns hhigh
  clear hai hhigh
  have hmn : m < n := by omega
  have hsz : (n : Int) * ((4 : Nat) : Int) = ((4 * n : Nat) : Int) := by omega
  have HA := writeArrayHeader_any p bs n 4 (4 * n) 113 hsz (by omega) (by omega) (by omega) w h (by omega)
  clear hsz
  have HN := hide hn
  clear hn
  have hld := hdrE_len n (4 * n) 113
  obtain ⟨H, hH⟩ : ∃ H, H = hdrE n (4 * n) 113 := ⟨_, rfl⟩
  rw [← hH] at HA hld
  have HH := hide hH
  have HM1 := hide hm1
  have HM2 := hide hm2
  clear hH hm1 hm2
  go_enter Tryd.func30, Tryd.ntmps30
  go_wp2
  go_loop [5, 6, 15] (fun s t i => s = .int .i64 1 ∧ t = .int .u8 84 ∧ ∃ k : Nat, i = .int .i64 k ∧ k ≤ m) (fun _ _ i => n - (intOf i).toNat)
  case atStart => exact ⟨rfl, rfl, 0, rfl, Nat.zero_le _⟩
  case round =>
  obtain ⟨rfl, rfl, k, rfl, hk⟩ := hrel
  have hlt : k < n := by omega
  obtain ⟨ad, u, rfl, hSb, hu, hcell⟩ := hr.at_ hlt
  have hln : k < ns.length := by have := unhide HN; omega
  have hux : u = .int .i32 ns[k] := by
    rw [List.getElem?_map, List.getElem?_eq_getElem hln] at hu
    simpa using hu.symm
  have hx := hwf ns[k] (List.getElem_mem hln)
  by_cases hkm : k < m
  · have hx2 := unhide HM2 k hln hkm
    generalize ns[k] = x at *
    subst hux
    have hx2 : ¬ (127 : Int) < x := by omega
    clear hu
    go_wp2
    go_round
    case rel => exact ⟨rfl, rfl, k + 1, by go_num, by omega⟩
    case measure => simp [intOf]; omega
  obtain rfl : k = m := by omega
  have hx2 := unhide HM1
  generalize ns[k] = x at *
  subst hux
  clear hu hkm HM1 HM2 hml
  go_wp2_with fail
  refine HA.mono ?_
  rintro e w1 ⟨rfl, hb1, hw1⟩
  have hr1 := hr.below hw1
  have HW1 := hide hw1
  clear hw1 HA h hlt hk hln hx hx2 hcell hmn
  go_wp2
  go_loopw [32] (fun i wr => ∃ k : Nat, i = .int .i64 k ∧ k ≤ n ∧ Buf wr p (bs ++ H ++ i32sE (ns.take k)) ∧ Below p w1 wr) (fun i _ => n - (intOf i).toNat)
  case atStart => exact ⟨0, rfl, Nat.zero_le _, by simpa [i32sE] using hb1, Below.refl _ _⟩
  case round =>
    obtain ⟨k, rfl, hk, hbuf, hbel⟩ := hrel
    by_cases hlt : k < n
    · obtain ⟨ad, u, hAe, hSb, hu, hcell⟩ := (hr1.below hbel).at_ hlt
      cases hAe
      have hln : k < ns.length := by have := unhide HN; omega
      have hux : u = .int .i32 ns[k] := by
        rw [List.getElem?_map, List.getElem?_eq_getElem hln] at hu
        simpa using hu.symm
      have htk : i32sE (ns.take (k + 1)) = i32sE (ns.take k) ++ i32sE [ns[k]] := by
        rw [List.take_succ_eq_append_getElem hln, i32sE_snoc]
        rfl
      have hx := hwf ns[k] (List.getElem_mem hln)
      have hlk : (i32sE (ns.take k)).length ≤ 1200 := by rw [i32sE_len, List.length_take]; omega
      generalize ns[k] = x at *
      subst hux
      have HTK := hide htk
      clear htk hu
      have HB := hide hbel
      have HBU := hide hbuf
      clear hbel hbuf
      have hAB := appendUint32_any p (bs ++ H ++ i32sE (ns.take k)) (x % 4294967296).toNat wr (unhide HBU) (by simp; omega) (by omega)
      rw [wrap_u32] at hAB
      go_wp2_with (go_at_call 39; go_loud (refine hAB.mono ?_; rintro e w4 ⟨rfl, hb4, hw4⟩))
      go_roundw
      case rel => exact ⟨k + 1, by go_num, by omega, by rw [unhide HTK]; simpa [i32sE] using hb4, (unhide HB).trans hw4⟩
      case measure => simp [intOf]; omega
    · obtain rfl : k = n := by omega
      have htk : ns.take k = ns := List.take_of_length_le (by have := unhide HN; omega)
      rw [htk] at hbuf
      clear htk
      go_wp2
      go_ret
      refine ⟨rfl, ?_, (unhide HW1).trans hbel⟩
      rw [unhide HAI]
      have e1 := unhide HH
      rw [unhide HN] at e1
      rw [← e1, ← List.append_assoc]
      exact hbuf
theorem i32Marshal_any (p : Nat) (bs : List UInt8) (ns : List Int) (A : Option Addr) (n c : Nat) (w : World) (hn : n = ns.length) (hc : n ≤ c) (hcm : c ≤ maxLen) (hn3 : n ≤ 300) (hwf : ∀ x ∈ ns, -2147483648 ≤ x ∧ x ≤ 2147483647) (hlh : lowB ns = false ∨ highB ns = true) (hr : Reads w (Lt p) 1 A n (ns.map (Value.int .i32))) (h : Buf w p bs) (hlen : bs.length ≤ 1000) :
    Calls Tryd.prog 30 #[.slice A n c, .pointer (some ⟨p, 0, none⟩)] w fun e w' => e = .returned .nilIface ∧ Buf w' p (bs ++ arrI ns) ∧ Below p w w' := by
  by_cases hh : highB ns = true
  · exact i32Marshal_high p bs ns A n c w hn hc hcm hn3 hwf hh hr h hlen
  · have hl := hlh.resolve_right hh
    have hh' : highB ns = false := by simpa using hh
    exact i32Marshal_low p bs ns A n c w hn hc hcm hn3 (fun x hx => ⟨lowB_no hl x hx, highB_no hh' x hx⟩) hh' hr h hlen
set_option maxRecDepth 100000 in
set_option maxHeartbeats 1600000 in
theorem implWriteArrayInt_any (A : Option Addr) (ns : List Int) (n c : Nat) (hn : n = ns.length) (hc : n ≤ c) (hcm : c ≤ 9223372036854775807) (hn3 : n ≤ 300) (hwf : ∀ x ∈ ns, -2147483648 ≤ x ∧ x ≤ 2147483647) (hlh : lowB ns = false ∨ highB ns = true) (w : World) (hr : Reads w (Lt w.heap.size) 1 A n (ns.map (Value.int .i32))) :
    Calls Tryd.prog 15 #[.slice A n c] w (Wrote w (arrI ns)) := by
  obtain ⟨ds, hds⟩ : ∃ ds, ds = arrI ns := ⟨_, rfl⟩
  have hdl : ds.length ≤ 2000 := by rw [hds]; have := arrI_len ns; have := hn; omega
  rw [← hds]
  have HD := hide hds
  clear hds
  have HN := hide hn
  clear hn
  go_enter_defers Tryd.func15, Tryd.ntmps15
  go_wp2
  go_loopw [4, 10] (fun v i wr => ∃ k : Nat, i = .int .i64 k ∧ k ≤ n ∧ wr.ownsRow (w.heap.size + 1 + 1) 21 1 v k ((ns.take k).map (Value.int .i32)) ∧ Below (w.heap.size + 1 + 1) ((w.alloc (.cells #[.slice none 0 0] 23)).alloc (.cells #[.bool false] 4)) wr) (fun _ i _ => n - (intOf i).toNat)
  case atStart => exact ⟨0, rfl, Nat.zero_le _, World.ownsRow_nil _ _ _ _, Below.refl _ _⟩
  case round =>
    obtain ⟨k, rfl, hk, hown, hbel⟩ := hrel
    obtain ⟨Av, cv, rfl, hcv1, hcv2, _⟩ := own_slice hown
    by_cases hlt : k < n
    · obtain ⟨ad, u, rfl, hSb, hu, hcell⟩ := hr.at_ hlt
      have hln : k < ns.length := by have := unhide HN; omega
      have hux : u = .int .i32 ns[k] := by
        rw [List.getElem?_map, List.getElem?_eq_getElem hln] at hu
        simpa using hu.symm
      have hcell2 : wr.cell? (ad.add k) = some (.int .i32 ns[k]) := by
        rw [← hux, ← hcell]
        have hl : (ad.add k).block < w.heap.size := by rw [block_of_add]; exact hSb
        have h1 := hbel.cell (p := ad.add k) (Nat.lt_of_lt_of_le hl (by omega))
        rw [h1, hcell]
        exact (World.cell?_alloc_lt _ _ _ (by simp; omega)).trans ((World.cell?_alloc_lt _ _ _ hl).trans hcell)
      have htk : (ns.take (k + 1)).map (Value.int .i32) = (ns.take k).map (Value.int .i32) ++ [.int .i32 ns[k]] := by
        rw [List.take_succ_eq_append_getElem hln, List.map_append]
        rfl
      generalize ns[k] = x at *
      have HTK := hide htk
      have HOWN := hide hown
      have HB := hide hbel
      have hsz : w.heap.size + 1 + 1 ≤ wr.heap.size := by have := hbel.size; simpa using this
      clear htk hux hu hcell hown hbel
      go_wp2_with (at_builtin; obtain ⟨i0, hi0, hz0, hz1', hz2⟩ := info_parts infoi32; go_loud (refine wpList_append_any (S := fun _ => True) _ rfl _ _ _ rfl (w.heap.size + 1 + 1) 21 i0 _ 1 4 Tryd.underlying67 hi0 hz0 hz1' hz2 ?x1 ?x2 (.slice Av k cv) k ((ns.take k).map (Value.int .i32)) ?x3 ?x8 (some ⟨wr.heap.size, 0, none⟩) 1 1 [.int .i32 x] ?x4 ?x5 ?x6 ?c3 ?x7 ?c4 ?_; (case x1 => rfl); (case x2 => omega); (case x3 => rfl); (case x4 => rfl); (case x5 => exact Reads.of_blk (S := fun _ => True) (t := 21) (cs := #[.int .i32 x]) (Blk.new' rfl) trivial 1 1 rfl); (case x6 => intro u hu; simp only [List.mem_singleton] at hu; subst hu; rfl); (case x7 => omega); (case x8 => exact own_below (unhide HOWN) (by repeat (first | with_reducible exact Below.refl _ _ | with_reducible exact x | with_reducible refine Below.alloc ?_ (by first | omega | (simp; omega) | (simp; done)) _ | with_reducible refine Below.setCell ?_ (by first | omega | (simp; omega) | (simp; done)) _ | with_reducible refine Below.drew ?_ | with_reducible refine below_drewN ?_ _))); (case c3 => unfold maxLen; omega); (case c4 => simp; omega); clear hi0 hz0 hz1' hz2; intro v1 w1 hown1 hgrow hat; have hB1 : Below (w.heap.size + 1 + 1) ((w.alloc (.cells #[.slice none 0 0] 23)).alloc (.cells #[.bool false] 4)) w1 := (((unhide HB).alloc hsz _).grown hgrow (by simp; omega) (fun k hk => (own_ge (unhide HOWN) _ hk).1)); have HB1 := hide hB1; have HO1 := hide hown1; clear hgrow hown1 hat hB1))
      go_roundw
      case rel => exact ⟨k + 1, by go_num, by omega, by rw [unhide HTK]; exact unhide HO1, unhide HB1⟩
      case measure => simp [intOf]; omega
    · obtain rfl : k = n := by omega
      have htk : (ns.take k).map (Value.int .i32) = ns.map (Value.int .i32) := by rw [List.take_of_length_le (by have := unhide HN; omega)]
      rw [htk] at hown
      have hsz : w.heap.size + 1 + 1 ≤ wr.heap.size := by have := hbel.size; simpa using this
      obtain ⟨Av', cv', he', _, _, hrA⟩ := own_slice hown
      simp only [Value.slice.injEq] at he'
      obtain ⟨rfl, _, rfl⟩ := he'
      have hB0 : Buf (wr.alloc (.cells #[.slice none 0 0, .int .i64 0] 52)) wr.heap.size [] := ⟨_, Blk.new _ _ _, own_nil _ _ _ _⟩
      have hrB : Reads (wr.alloc (.cells #[.slice none 0 0, .int .i64 0] 52)) (Lt wr.heap.size) 1 Av k (ns.map (Value.int .i32)) := (hrA.keep (stays_alloc (fun b hb => hb.2) (Stays.refl _ _) _)).sub (fun b hb => hb.2)
      have hP0 : Blk wr w.heap.size 23 #[.slice none 0 0] := Blk.below ((Blk.new w _ _).alloc _) hbel (by omega)
      have hQ0 : Blk wr (w.heap.size + 1) 4 #[.bool false] := Blk.below (Blk.new' (by simp)) hbel (by omega)
      have HBR := hide hbel
      clear hown hbel hrA htk hr
      generalize hZZ : wr.heap.size = p at *
      go_wp2_with (first
        | (go_at_call 30; go_loud (refine (i32Marshal_any p [] ns Av k cv _ (unhide HN) hcv1 hcv2 hn3 hwf hlh hrB hB0 (by simp)).mono ?_; rintro e w1 ⟨rfl, hb1, hw1⟩; rw [List.nil_append, ← unhide HD] at hb1; have HW1 := hide hw1; have hP1 : Blk w1 w.heap.size 23 #[.slice none 0 0] := (hP0.alloc _).below hw1 (by omega); have hQ1 : Blk w1 (w.heap.size + 1) 4 #[.bool false] := (hQ0.alloc _).below hw1 (by omega); have hz1 : p + 1 ≤ w1.heap.size := Nat.le_trans (by simp [hZZ]) hw1.size; clear hw1 hB0))
        | (go_at_call 24; go_loud (refine (bytes_any p ds _ hb1 (by omega)).mono ?_; rintro e w2 ⟨rfl, A, c, rfl, hc1, hc2, hr2⟩; have HR2 := hide hr2; clear hr2))
        | (go_at_call 23; go_loud (refine (copied_any (fun b => p + 1 ≤ b ∧ b < w1.heap.size) A ds ds.length c w1.drew rfl ((unhide HR2).keep (fun _ _ => rfl)) (fun x hx => hx.2) (by omega)).mono ?_; rintro e w3 ⟨v, rfl, hown, hbel⟩; have HO := hide hown; have HB3 := hide hbel; have hP3 : Blk w3 w.heap.size 23 #[.slice none 0 0] := Blk.below (w := w1.drew) hP1 hbel (by show _ < w1.heap.size; omega); have hQ3 : Blk w3 (w.heap.size + 1) 4 #[.bool false] := Blk.below (w := w1.drew) hQ1 hbel (by show _ < w1.heap.size; omega); have p0 := hP3.cell 0; have p1 := hP3.frozen 0; have q0 := hQ3.cell 0; have q1 := hQ3.frozen 0; obtain ⟨A3, c3, rfl, hc3, hm3, _⟩ := own_slice hown; clear hown hbel hP1 hQ1)))
      refine leaves_cons (f := 20) (args := #[.pointer (some ⟨w.heap.size, 0, none⟩), .pointer (some ⟨w.heap.size + 1, 0, none⟩)]) (by simp) (by simp [go_sem]) ?_
      refine (noData_idle ⟨w.heap.size, 0, none⟩ ⟨w.heap.size + 1, 0, none⟩ _).mono ?_
      rintro e u' w'' ⟨rfl, rfl, rfl⟩
      have hr3 := Reads.of_own (unhide HO)
      have hw1 := unhide HW1
      have hwr : Below w.heap.size w wr := (((Below.refl w.heap.size w).alloc (Nat.le_refl _) _).alloc (by simp) _).trans ((unhide HBR).mono (by omega))
      have hw3 : Below w.heap.size w w3 := (((hwr.alloc (by omega) _).trans (hw1.mono (by omega))).drew).trans ((unhide HB3).mono (by show _ ≤ w1.heap.size; omega))
      have hz3 : w1.heap.size ≤ w3.heap.size := (unhide HB3).size
      simp [Leaves, settle, results, Tryd.results15, go_sem, p0, q0]
      have hR := hr3.sub (T := fun b => w1.heap.size ≤ b ∧ b < w3.heap.size) (fun b hb => ⟨hb.1, hb.2.1⟩)
      have k0 : ¬ (fun b => w1.heap.size ≤ b ∧ b < w3.heap.size) w.heap.size := fun h => by have := h.1; omega
      have k1 : ¬ (fun b => w1.heap.size ≤ b ∧ b < w3.heap.size) (w.heap.size + 1) := fun h => by have := h.1; omega
      refine ⟨A3, _, c3, rfl, rfl, hc3, hm3, (hR.keep (stays_setCell k1 (stays_setCell k0 (Stays.refl _ _) _) _)).sub (fun b hb => ⟨?_, ?_⟩), (by repeat (first | with_reducible exact Below.refl _ _ | with_reducible exact hw3 | with_reducible refine Below.alloc ?_ (by first | omega | (simp; omega) | (simp; done)) _ | with_reducible refine Below.setCell ?_ (by first | omega | (simp; omega) | (simp; done)) _ | with_reducible refine Below.drew ?_ | with_reducible refine below_drewN ?_ _))⟩
      · have := hb.1
        omega
      · have := hb.2
        simpa using this
end Go.Proofs.YtnnddknplhhnkaaDoor
