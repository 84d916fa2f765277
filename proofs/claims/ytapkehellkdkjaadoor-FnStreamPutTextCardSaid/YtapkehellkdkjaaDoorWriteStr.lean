/-
  io.WriteString into a Text, msgp.Writer's avail, writeString, WriteString. Conditions: at most 2^40 bytes are written.
-/
import Derived.Test.YtapkehellkdkjaaDoorWriter3
import Derived.Deep.RegionLaw
import Derived.Lib.BufferWrite
import Derived.Lib.AppendStr
namespace Go.Proofs.YtapkehellkdkjaaDoor
set_option linter.unusedSimpArgs false
set_option linter.unusedVariables false
set_option linter.unusedVariables false
open Go.RowKit
theorem sizeB5 : (Tryd.prog.info? 5).map (·.size) = some 1 := by kernel_rfl
theorem u8_strCellsW (bs : List UInt8) : Lib.strCells ⟨bs.toArray⟩ = bs.map u8 := by simp [Lib.strCells, Go.Proofs.YtapkehellkdkjaaDoor.u8]
theorem wp_append_strW {P : Program} {o : Oper} {a : Act} {w : World} {K : Act → World → Prop} {Q : Exit → Act → World → Prop} (s x : Operand) (t u : TypeId)
    (ho : o.op = .call { callee := .builtin .append, args := #[s, x], argTypes := #[t, u] })
    (base : Nat) (e : TypeId) (i : TypeInfo) (ht : P.underlying t = some (.slice e)) (hu : P.underlying u = some .string) (hi : P.info? e = some i) (hz : i.zero = some (.int .u8 0))
    (hsize : i.size = 1) (hby : i.bytes = 1) (v : Value) (n : Nat) (xs : List Value) (hs : a.eval s = v) (hown : w.ownsRow base e 1 v n xs)
    (bs : List UInt8) (hx : a.eval x = .string ⟨bs.toArray⟩) (h63 : n + bs.length ≤ 140737488355328) (hbase : base ≤ w.heap.size)
    (h : ∀ v' w', w'.ownsRow base e 1 v' (n + bs.length) (xs ++ bs.map u8) → w.grownBy w' v.ownBlock → K (a.put o.dst v') w') : o.wp P a w K Q := by
  have hsz : (⟨bs.toArray⟩ : ByteArray).size = bs.length := by simp [ByteArray.size]
  obtain ⟨v', w', hrun, h2, h3, h4⟩ := Lib.run_append_own_string (P := P) w base t u o.type e i ht hu hi hz hsize hby v n xs hown ⟨bs.toArray⟩ (by rw [hsz]; unfold maxLen; omega) (by rw [hsz]; omega) hbase
  rw [hsz, u8_strCellsW] at h2
  unfold Oper.wp execOp
  simp only [ho, resolve, invoke, builtin, Sem.run_bind, Sem.run_pure, Result.andThen_ok, List.map_toArray, List.map_cons, List.map_nil, hs, hx, hrun]
  exact h v' w' h2 h3

theorem wpList_append_strW {P : Program} {w : World} {ops : Array Oper} {rest : List Oper} {o : Oper} {a : Act} {Q : Exit → Act → World → Prop} (hgd : o.guard = none) (s x : Operand) (t u : TypeId)
    (ho : o.op = .call { callee := .builtin .append, args := #[s, x], argTypes := #[t, u] })
    (base : Nat) (e : TypeId) (i : TypeInfo) (ht : P.underlying t = some (.slice e)) (hu : P.underlying u = some .string) (hi : P.info? e = some i) (hz : i.zero = some (.int .u8 0))
    (hsize : i.size = 1) (hby : i.bytes = 1) (v : Value) (n : Nat) (xs : List Value) (hs : a.eval s = v) (hown : w.ownsRow base e 1 v n xs)
    (bs : List UInt8) (hx : a.eval x = .string ⟨bs.toArray⟩) (h63 : n + bs.length ≤ 140737488355328) (hbase : base ≤ w.heap.size)
    (h : ∀ v' w', w'.ownsRow base e 1 v' (n + bs.length) (xs ++ bs.map u8) → w.grownBy w' v.ownBlock → wpList P ops Q rest (a.put o.dst v') w') : wpList P ops Q (o :: rest) a w :=
  wpList_plain hgd fun _ hK => wp_append_strW s x t u ho base e i ht hu hi hz hsize hby v n xs hs hown bs hx h63 hbase fun v' w' h1 h2 => hK _ _ (h v' w' h1 h2)
theorem taText (t : Nat) (w : World) : (Instr.typeAssert (.iface 46 (.pointer (some ⟨t, 0, none⟩))) 60 77 true).run Tryd.prog w = .ok (.tuple #[.iface 46 (.pointer (some ⟨t, 0, none⟩)), .bool true]) w := by kernel_rfl
theorem mWriteS (t : Nat) (w : World) : (method 207 46 (.pointer (some ⟨t, 0, none⟩)) "WriteString").run Tryd.prog w = .ok (51, .pointer (some ⟨t, 0, none⟩)) w := by kernel_rfl
theorem mWriteSN (t : Nat) (w : World) : (nilAhead 207 46 (.pointer (some ⟨t, 0, none⟩)) "WriteString").run Tryd.prog w = .ok (some false) w := by kernel_rfl
set_option maxHeartbeats 800000 in
/-- Text.WriteString appends. -/
theorem textWriteStr (base t n : Nat) (v : Value) (bs : List UInt8) (xs : List Value) (w : World) (hT : Blk w t 44 #[v]) (hown : w.ownsRow base 5 1 v n xs) (ht : t < base) (hb : base ≤ w.heap.size) (hl : n + bs.length ≤ 1099511627776) :
    Calls Tryd.prog 51 #[.pointer (some ⟨t, 0, none⟩), .string ⟨bs.toArray⟩] w fun e w' => ∃ v' w1, e = .returned (.tuple #[.int .i64 (bs.length : Nat), .nilIface]) ∧ w' = w1.setCell ⟨t, 0, none⟩ v' ∧ w1.ownsRow base 5 1 v' (n + bs.length) (xs ++ bs.map u8) ∧ w.grownBy w1 v.ownBlock := by
  have c0 := hT.cell 0
  have f0 := hT.frozen 0
  have hlt := hT.lt
  have HT := hide hT
  have HOWN := hide hown
  clear hT hown
  have hgl := own_block_ge (unhide HOWN)
  have hne : some t ≠ v.ownBlock := fun e => by have := (hgl t e.symm).1; omega
  have HNE := hide hne
  have hsz : (⟨bs.toArray⟩ : ByteArray).size = bs.length := by simp [ByteArray.size]
  clear hgl hne
  go_enter Tryd.func51, Tryd.ntmps51
  go_wp2_with (at_builtin; go_loud (obtain ⟨i0, hi0, hz0, hz1', hz2⟩ := info_parts infoB5; refine wpList_append_strW rfl (.tmp 10) (.tmp 11) _ _ rfl base 5 i0 Tryd.underlying24 Tryd.underlying9 hi0 hz0 hz1' hz2 v n xs ?x3 (unhide HOWN) bs ?x4 ?x7 hb ?_; (case x3 => rfl); (case x4 => rfl); (case x7 => omega); clear hi0 hz0 hz1' hz2; intro v1 w1 hown1 hgrow; have hT1 := (unhide HT).grown hgrow (unhide HNE); have c1 := hT1.cell 0; have f1 := hT1.frozen 0; obtain ⟨A1, cc1, rfl, _, _, _⟩ := own_slice hown1; have HO1 := hide hown1; have HG1 := hide hgrow; clear hown1 hgrow hT1 c0 f0))
  go_ret2
  exact ⟨_, w1, by simp, rfl, unhide HO1, unhide HG1⟩
set_option maxHeartbeats 800000 in
theorem ioWriteString (base t n : Nat) (v : Value) (s : List UInt8) (xs : List Value) (w : World) (hT : Blk w t 44 #[v]) (hown : w.ownsRow base 5 1 v n xs) (ht : t < base) (hb : base ≤ w.heap.size) (hl : n + s.length ≤ 1099511627776) :
    Calls Tryd.prog 30 #[.iface 46 (.pointer (some ⟨t, 0, none⟩)), .string ⟨s.toArray⟩] w fun e w' => ∃ v' w1, e = .returned (.tuple #[.int .i64 (s.length : Nat), .nilIface]) ∧ w' = w1.setCell ⟨t, 0, none⟩ v' ∧ w1.ownsRow base 5 1 v' (n + s.length) (xs ++ s.map u8) ∧ w.grownBy w1 v.ownBlock := by
  have hm1 := mWriteS t
  have hm2 := mWriteSN t
  have hta := taText t
  have hTW := textWriteStr base t n v s xs w hT hown ht hb hl
  have HTW := hide hTW
  clear hTW hT hown
  go_enter Tryd.func30, Tryd.ntmps30
  go_wp2_with (go_at_call 51; go_loud (refine (unhide HTW).mono ?_; rintro e w3 ⟨v', w2, rfl, rfl, hown2, hg2⟩; have HO2 := hide hown2; have HG2 := hide hg2; clear hown2 hg2))
  go_ret2
  exact ⟨v', w2, rfl, rfl, unhide HO2, unhide HG2⟩
theorem avail_any (t b m z : Nat) (done pend : List UInt8) (v : Value) (w : World) (h : WrSt w t b m z done pend v) :
    Calls Tryd.prog 29 #[.pointer (some ⟨m, 0, none⟩)] w fun e w' => e = .returned (.int .i64 ((z : Int) - (pend.length : Nat))) ∧ w' = w.drew := by
  have c1 : w.cell? ⟨m, 1, none⟩ = some (.slice (some ⟨b, 0, none⟩) z z) := h.W.cell 1
  have c2 : w.cell? ⟨m, 2, none⟩ = some (.int .i64 (pend.length : Nat)) := h.W.cell 2
  have hle := h.ple
  have hz := h.z2
  clear h
  go_enter Tryd.func29, Tryd.ntmps29
  go_wp2
  go_region
  go_wp2
  go_ret
  exact ⟨rfl, rfl⟩
theorem step_copy_str {ops : Array Oper} {o : Oper} {a : Act} {w : World} {K : Act → World → Prop} {Q : Exit → Act → World → Prop} {E : Prop} (hgd : o.guard = none) (d x : Operand) (dT sT : TypeId)
    (ho : o.op = .call { callee := .builtin .copy, args := #[d, x], argTypes := #[dT, sT] }) (hu : Tryd.prog.underlying dT = some (.slice 5)) (g off dLen dCap : Nat) (s : List UInt8)
    (hd : a.eval d = .slice (some ⟨g, off, none⟩) dLen dCap) (hx : a.eval x = .string ⟨s.toArray⟩) (xs : List Value) (cap : Nat) (hrow : Row w 5 g cap xs) (hoff : xs.length = off) (hle : s.length ≤ dLen) (hfit : off + s.length ≤ cap)
    (h : ∀ w', Hid (Row w' 5 g cap (xs ++ s.map u8)) → Hid (w.grownBy w' (some g)) → K (a.put o.dst (.int .i64 (s.length : Nat))) w') :
    if Region.wanted o (yielded ops a.tmps) = true then Oper.wp Tryd.prog o a w K Q else E := by
  have hw : Region.wanted o (yielded ops a.tmps) = true := by simp [Region.wanted, hgd]
  rw [if_pos hw]
  obtain ⟨cur, hb, hcs, hxl, htk⟩ := hrow
  have hs : (⟨s.toArray⟩ : ByteArray).size = s.length := by simp [ByteArray.size]
  have hrun := Lib.run_copy_row_string (P := Tryd.prog) w dT sT o.type 5 g off dLen dCap ⟨s.toArray⟩ cur 5 hu sizeB5 hb (by rw [hs]; exact hle) (by rw [hs]; omega)
  unfold Oper.wp
  simp [execOp, ho, resolve, invoke, builtin, hd, hx, hrun, Result.andThen]
  rw [hs]
  refine h _ ⟨_, setRow_heap w g cur _ 5 _ hb, ?_, ?_, ?_⟩ ⟨rfl, rfl, rfl, by simp, fun i _ hne => setRow_other w g i _ (fun e => hne (by rw [e]))⟩
  · simp [Lib.byteCells]
    omega
  · simp
    omega
  · have hb2 : Lib.byteCells (s.toArray.toList) = s.map u8 := by simp [Lib.byteCells, Go.Proofs.YtapkehellkdkjaaDoor.u8]
    subst hoff
    rw [htk]
    simp only [List.length_append, List.length_map]
    rw [show Lib.byteCells (⟨s.toArray⟩ : ByteArray).data.toList = s.map u8 from hb2]
    rw [List.take_append, List.take_of_length_le (by omega), Nat.add_sub_cancel_left, List.take_append_of_le_length (by simp)]
    simp
    exact List.take_of_length_le (by simp)
theorem step_copy_str0 {ops : Array Oper} {o : Oper} {a : Act} {w : World} {K : Act → World → Prop} {Q : Exit → Act → World → Prop} {E : Prop} (hgd : o.guard = none) (d x : Operand) (dT sT : TypeId)
    (ho : o.op = .call { callee := .builtin .copy, args := #[d, x], argTypes := #[dT, sT] }) (hu : Tryd.prog.underlying dT = some (.slice 5)) (dp : Option Addr) (dLen dCap : Nat) (s : ByteArray)
    (hd : a.eval d = .slice dp dLen dCap) (hx : a.eval x = .string s) (h0 : s.size = 0) (h : K (a.put o.dst (.int .i64 0)) w) :
    if Region.wanted o (yielded ops a.tmps) = true then Oper.wp Tryd.prog o a w K Q else E := by
  have hw : Region.wanted o (yielded ops a.tmps) = true := by simp [Region.wanted, hgd]
  rw [if_pos hw]
  have hrun := Lib.run_copy_empty_string (P := Tryd.prog) w dT sT o.type 5 dp dLen dCap s hu (by rw [sizeB5]; rfl) h0
  unfold Oper.wp
  simp [execOp, ho, resolve, invoke, builtin, hd, hx, hrun, Result.andThen]
  exact h
end Go.Proofs.YtapkehellkdkjaaDoor
