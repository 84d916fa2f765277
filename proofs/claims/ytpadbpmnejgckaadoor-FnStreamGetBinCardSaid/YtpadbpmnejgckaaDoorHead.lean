/-
  spec.PutHead: heads of arrays, maps, bytes and texts. No condition.
-/
import Derived.Test.YtpadbpmnejgckaaDoorForms4
namespace Go.Proofs.YtpadbpmnejgckaaDoor
set_option linter.unusedSimpArgs false
set_option linter.unusedVariables false
open Go.RowKit
theorem PutH.more {P P' : List UInt8 → Prop} {g : Nat} {w w1 w' : World} {e : Ending} (h : PutH P g w1 e w') (hb : Below w.heap.size w w1) (hP : ∀ bs, P bs → P' bs) : PutH P' g w e w' := by
  obtain ⟨v, bs, h1, rfl, ⟨hl, ho⟩, h2, h3⟩ := h
  refine ⟨v, bs, hP _ h1, rfl, ⟨hl, ?_⟩, grown_trans' (only_of_below hb (some g)) h2 (fun _ h => by injection h with h; subst h; exact .inl rfl), h3⟩
  rcases ho with ⟨rfl, h2⟩ | ⟨b, cap, cur, rfl, hb', r⟩
  · exact .inl ⟨rfl, h2⟩
  · exact .inr ⟨b, cap, cur, rfl, Nat.le_trans hb.size hb', r⟩
/-- The head of so many values of a kind, in one of its forms. -/
def HeadIs (kind n : Nat) (bs : List UInt8) : Prop :=
  (kind = 8 ∧ HeadOK 144 16 n [(220, 2), (221, 4)] bs) ∨
  (kind = 9 ∧ HeadOK 128 16 n [(222, 2), (223, 4)] bs) ∨
  (kind = 7 ∧ HeadOK (-1) 0 n [(196, 1), (197, 2), (198, 4)] bs) ∨
  (kind = 6 ∧ HeadOK 160 32 n [(217, 1), (218, 2), (219, 4)] bs)
theorem or144 : ∀ n : Nat, n < 16 → bits BinOp.or IntKind.i64 144 (n : Int) = 144 + n := by decide +kernel
theorem or128 : ∀ n : Nat, n < 16 → bits BinOp.or IntKind.i64 128 (n : Int) = 128 + n := by decide +kernel
theorem or160 : ∀ n : Nat, n < 32 → bits BinOp.or IntKind.i64 160 (n : Int) = 160 + n := by decide +kernel
set_option maxHeartbeats 800000 in
theorem putHead_8 (g n : Nat) (w : World) (hF : FormsAt w g) (hn : n < 4294967296) :
    Calls Tryd.prog 66 #[.int .i64 8, .int .u32 n, .pointer (some ⟨g, 0, none⟩)] w (PutH (HeadIs 8 n) g w) := by
  have hF1 : FormsAt (w.alloc (.cells #[.int .i64 220, .int .i64 2, .int .i64 221, .int .i64 4] 160)) g := hF.below ((Below.refl w.heap.size w).alloc (Nat.le_refl _) _) hF.lt
  have hr : Reads (w.alloc (.cells #[.int .i64 220, .int .i64 2, .int .i64 221, .int .i64 4] 160)) (fun b => b = w.heap.size) 2 (some ⟨w.heap.size, 0, none⟩) 2 (formC [(220, 2), (221, 4)]) := reads_blk (S := fun b => b = w.heap.size) (t := 160) (cs := #[.int .i64 220, .int .i64 2, .int .i64 221, .int .i64 4]) (Blk.new w _ _) rfl 2 2 rfl
  have hgood : ∀ f ∈ [(220, 2), (221, 4)], goodF f := by
    intro f hf
    simp only [List.mem_cons, List.not_mem_nil, or_false] at hf
    unfold goodF
    rcases hf with rfl | rfl <;> simp
  have hne : 0 < (mayF n [(220, 2), (221, 4)]).length := by
    refine List.length_pos_of_mem (a := (221, 4)) ?_
    unfold mayF
    rw [List.mem_filter]
    refine ⟨by simp, ?_⟩
    simp [fitsF]
    omega
  have hP : Calls Tryd.prog 93 #[.pointer (some ⟨g, 0, none⟩), .int .i64 n, .int .i64 (144), .int .i64 16, .slice (some ⟨w.heap.size, 0, none⟩) 2 2] (w.alloc (.cells #[.int .i64 220, .int .i64 2, .int .i64 221, .int .i64 4] 160)) (PutH (HeadOK (144) 16 n [(220, 2), (221, 4)]) g (w.alloc (.cells #[.int .i64 220, .int .i64 2, .int .i64 221, .int .i64 4] 160))) := by
    by_cases hnu : n < 16
    · exact putHead_fixed g n 16 144 [(220, 2), (221, 4)] (some ⟨w.heap.size, 0, none⟩) 2 2 (fun b => b = w.heap.size) _ hF1 (by omega) (by omega) hnu (by omega) (or144 n hnu) (by omega) rfl hr (fun b hb => by rw [hb]; simp) hgood (by omega)
    · exact putHead_coded g n 16 144 [(220, 2), (221, 4)] (some ⟨w.heap.size, 0, none⟩) 2 2 (fun b => b = w.heap.size) _ hF1 (by omega) (.inr ⟨by omega, by omega⟩) (by omega) rfl hr (fun b hb => by rw [hb]; simp) hgood (by omega) hne
  have HP := hide hP
  clear hP hr hF1 hgood hne
  obtain ⟨T, hT⟩ : ∃ T, T = PutH (HeadIs 8 n) g w := ⟨_, rfl⟩
  rw [← hT]
  have HT := hide hT
  clear hT
  go_enter Tryd.func66, Tryd.ntmps66
  go_wp2_with fail
  refine (unhide HP).mono ?_
  intro e w2 h2
  obtain ⟨v, bs, h3⟩ := h2
  have hfin : PutH (HeadIs 8 n) g w e w2 := PutH.more ⟨v, bs, h3⟩ ((Below.refl w.heap.size w).alloc (Nat.le_refl _) _) (fun bs hb => by unfold HeadIs; simp; exact hb)
  obtain ⟨_, rfl, _⟩ := h3
  have HFIN := hide hfin
  clear hfin
  go_wp2
  rw [unhide HT]
  exact unhide HFIN
set_option maxHeartbeats 800000 in
theorem putHead_9 (g n : Nat) (w : World) (hF : FormsAt w g) (hn : n < 4294967296) :
    Calls Tryd.prog 66 #[.int .i64 9, .int .u32 n, .pointer (some ⟨g, 0, none⟩)] w (PutH (HeadIs 9 n) g w) := by
  have hF1 : FormsAt (w.alloc (.cells #[.int .i64 222, .int .i64 2, .int .i64 223, .int .i64 4] 160)) g := hF.below ((Below.refl w.heap.size w).alloc (Nat.le_refl _) _) hF.lt
  have hr : Reads (w.alloc (.cells #[.int .i64 222, .int .i64 2, .int .i64 223, .int .i64 4] 160)) (fun b => b = w.heap.size) 2 (some ⟨w.heap.size, 0, none⟩) 2 (formC [(222, 2), (223, 4)]) := reads_blk (S := fun b => b = w.heap.size) (t := 160) (cs := #[.int .i64 222, .int .i64 2, .int .i64 223, .int .i64 4]) (Blk.new w _ _) rfl 2 2 rfl
  have hgood : ∀ f ∈ [(222, 2), (223, 4)], goodF f := by
    intro f hf
    simp only [List.mem_cons, List.not_mem_nil, or_false] at hf
    unfold goodF
    rcases hf with rfl | rfl <;> simp
  have hne : 0 < (mayF n [(222, 2), (223, 4)]).length := by
    refine List.length_pos_of_mem (a := (223, 4)) ?_
    unfold mayF
    rw [List.mem_filter]
    refine ⟨by simp, ?_⟩
    simp [fitsF]
    omega
  have hP : Calls Tryd.prog 93 #[.pointer (some ⟨g, 0, none⟩), .int .i64 n, .int .i64 (128), .int .i64 16, .slice (some ⟨w.heap.size, 0, none⟩) 2 2] (w.alloc (.cells #[.int .i64 222, .int .i64 2, .int .i64 223, .int .i64 4] 160)) (PutH (HeadOK (128) 16 n [(222, 2), (223, 4)]) g (w.alloc (.cells #[.int .i64 222, .int .i64 2, .int .i64 223, .int .i64 4] 160))) := by
    by_cases hnu : n < 16
    · exact putHead_fixed g n 16 128 [(222, 2), (223, 4)] (some ⟨w.heap.size, 0, none⟩) 2 2 (fun b => b = w.heap.size) _ hF1 (by omega) (by omega) hnu (by omega) (or128 n hnu) (by omega) rfl hr (fun b hb => by rw [hb]; simp) hgood (by omega)
    · exact putHead_coded g n 16 128 [(222, 2), (223, 4)] (some ⟨w.heap.size, 0, none⟩) 2 2 (fun b => b = w.heap.size) _ hF1 (by omega) (.inr ⟨by omega, by omega⟩) (by omega) rfl hr (fun b hb => by rw [hb]; simp) hgood (by omega) hne
  have HP := hide hP
  clear hP hr hF1 hgood hne
  obtain ⟨T, hT⟩ : ∃ T, T = PutH (HeadIs 9 n) g w := ⟨_, rfl⟩
  rw [← hT]
  have HT := hide hT
  clear hT
  go_enter Tryd.func66, Tryd.ntmps66
  go_wp2_with fail
  refine (unhide HP).mono ?_
  intro e w2 h2
  obtain ⟨v, bs, h3⟩ := h2
  have hfin : PutH (HeadIs 9 n) g w e w2 := PutH.more ⟨v, bs, h3⟩ ((Below.refl w.heap.size w).alloc (Nat.le_refl _) _) (fun bs hb => by unfold HeadIs; simp; exact hb)
  obtain ⟨_, rfl, _⟩ := h3
  have HFIN := hide hfin
  clear hfin
  go_wp2
  rw [unhide HT]
  exact unhide HFIN
set_option maxHeartbeats 800000 in
theorem putHead_7 (g n : Nat) (w : World) (hF : FormsAt w g) (hn : n < 4294967296) :
    Calls Tryd.prog 66 #[.int .i64 7, .int .u32 n, .pointer (some ⟨g, 0, none⟩)] w (PutH (HeadIs 7 n) g w) := by
  have hF1 : FormsAt (w.alloc (.cells #[.int .i64 196, .int .i64 1, .int .i64 197, .int .i64 2, .int .i64 198, .int .i64 4] 160)) g := hF.below ((Below.refl w.heap.size w).alloc (Nat.le_refl _) _) hF.lt
  have hr : Reads (w.alloc (.cells #[.int .i64 196, .int .i64 1, .int .i64 197, .int .i64 2, .int .i64 198, .int .i64 4] 160)) (fun b => b = w.heap.size) 2 (some ⟨w.heap.size, 0, none⟩) 3 (formC [(196, 1), (197, 2), (198, 4)]) := reads_blk (S := fun b => b = w.heap.size) (t := 160) (cs := #[.int .i64 196, .int .i64 1, .int .i64 197, .int .i64 2, .int .i64 198, .int .i64 4]) (Blk.new w _ _) rfl 2 3 rfl
  have hgood : ∀ f ∈ [(196, 1), (197, 2), (198, 4)], goodF f := by
    intro f hf
    simp only [List.mem_cons, List.not_mem_nil, or_false] at hf
    unfold goodF
    rcases hf with rfl | rfl | rfl <;> simp
  have hne : 0 < (mayF n [(196, 1), (197, 2), (198, 4)]).length := by
    refine List.length_pos_of_mem (a := (198, 4)) ?_
    unfold mayF
    rw [List.mem_filter]
    refine ⟨by simp, ?_⟩
    simp [fitsF]
    omega
  have hP : Calls Tryd.prog 93 #[.pointer (some ⟨g, 0, none⟩), .int .i64 n, .int .i64 (-1), .int .i64 0, .slice (some ⟨w.heap.size, 0, none⟩) 3 3] (w.alloc (.cells #[.int .i64 196, .int .i64 1, .int .i64 197, .int .i64 2, .int .i64 198, .int .i64 4] 160)) (PutH (HeadOK (-1) 0 n [(196, 1), (197, 2), (198, 4)]) g (w.alloc (.cells #[.int .i64 196, .int .i64 1, .int .i64 197, .int .i64 2, .int .i64 198, .int .i64 4] 160))) := by
    exact putHead_coded g n 0 (-1) [(196, 1), (197, 2), (198, 4)] (some ⟨w.heap.size, 0, none⟩) 3 3 (fun b => b = w.heap.size) _ hF1 (by omega) (.inl (by omega)) (by omega) rfl hr (fun b hb => by rw [hb]; simp) hgood (by omega) hne
  have HP := hide hP
  clear hP hr hF1 hgood hne
  obtain ⟨T, hT⟩ : ∃ T, T = PutH (HeadIs 7 n) g w := ⟨_, rfl⟩
  rw [← hT]
  have HT := hide hT
  clear hT
  go_enter Tryd.func66, Tryd.ntmps66
  go_wp2_with fail
  refine (unhide HP).mono ?_
  intro e w2 h2
  obtain ⟨v, bs, h3⟩ := h2
  have hfin : PutH (HeadIs 7 n) g w e w2 := PutH.more ⟨v, bs, h3⟩ ((Below.refl w.heap.size w).alloc (Nat.le_refl _) _) (fun bs hb => by unfold HeadIs; simp; exact hb)
  obtain ⟨_, rfl, _⟩ := h3
  have HFIN := hide hfin
  clear hfin
  go_wp2
  rw [unhide HT]
  exact unhide HFIN
set_option maxHeartbeats 800000 in
theorem putHead_6 (g n : Nat) (w : World) (hF : FormsAt w g) (hn : n < 4294967296) :
    Calls Tryd.prog 66 #[.int .i64 6, .int .u32 n, .pointer (some ⟨g, 0, none⟩)] w (PutH (HeadIs 6 n) g w) := by
  have hF1 : FormsAt (w.alloc (.cells #[.int .i64 217, .int .i64 1, .int .i64 218, .int .i64 2, .int .i64 219, .int .i64 4] 160)) g := hF.below ((Below.refl w.heap.size w).alloc (Nat.le_refl _) _) hF.lt
  have hr : Reads (w.alloc (.cells #[.int .i64 217, .int .i64 1, .int .i64 218, .int .i64 2, .int .i64 219, .int .i64 4] 160)) (fun b => b = w.heap.size) 2 (some ⟨w.heap.size, 0, none⟩) 3 (formC [(217, 1), (218, 2), (219, 4)]) := reads_blk (S := fun b => b = w.heap.size) (t := 160) (cs := #[.int .i64 217, .int .i64 1, .int .i64 218, .int .i64 2, .int .i64 219, .int .i64 4]) (Blk.new w _ _) rfl 2 3 rfl
  have hgood : ∀ f ∈ [(217, 1), (218, 2), (219, 4)], goodF f := by
    intro f hf
    simp only [List.mem_cons, List.not_mem_nil, or_false] at hf
    unfold goodF
    rcases hf with rfl | rfl | rfl <;> simp
  have hne : 0 < (mayF n [(217, 1), (218, 2), (219, 4)]).length := by
    refine List.length_pos_of_mem (a := (219, 4)) ?_
    unfold mayF
    rw [List.mem_filter]
    refine ⟨by simp, ?_⟩
    simp [fitsF]
    omega
  have hP : Calls Tryd.prog 93 #[.pointer (some ⟨g, 0, none⟩), .int .i64 n, .int .i64 (160), .int .i64 32, .slice (some ⟨w.heap.size, 0, none⟩) 3 3] (w.alloc (.cells #[.int .i64 217, .int .i64 1, .int .i64 218, .int .i64 2, .int .i64 219, .int .i64 4] 160)) (PutH (HeadOK (160) 32 n [(217, 1), (218, 2), (219, 4)]) g (w.alloc (.cells #[.int .i64 217, .int .i64 1, .int .i64 218, .int .i64 2, .int .i64 219, .int .i64 4] 160))) := by
    by_cases hnu : n < 32
    · exact putHead_fixed g n 32 160 [(217, 1), (218, 2), (219, 4)] (some ⟨w.heap.size, 0, none⟩) 3 3 (fun b => b = w.heap.size) _ hF1 (by omega) (by omega) hnu (by omega) (or160 n hnu) (by omega) rfl hr (fun b hb => by rw [hb]; simp) hgood (by omega)
    · exact putHead_coded g n 32 160 [(217, 1), (218, 2), (219, 4)] (some ⟨w.heap.size, 0, none⟩) 3 3 (fun b => b = w.heap.size) _ hF1 (by omega) (.inr ⟨by omega, by omega⟩) (by omega) rfl hr (fun b hb => by rw [hb]; simp) hgood (by omega) hne
  have HP := hide hP
  clear hP hr hF1 hgood hne
  obtain ⟨T, hT⟩ : ∃ T, T = PutH (HeadIs 6 n) g w := ⟨_, rfl⟩
  rw [← hT]
  have HT := hide hT
  clear hT
  go_enter Tryd.func66, Tryd.ntmps66
  go_wp2_with fail
  refine (unhide HP).mono ?_
  intro e w2 h2
  obtain ⟨v, bs, h3⟩ := h2
  have hfin : PutH (HeadIs 6 n) g w e w2 := PutH.more ⟨v, bs, h3⟩ ((Below.refl w.heap.size w).alloc (Nat.le_refl _) _) (fun bs hb => by unfold HeadIs; simp; exact hb)
  obtain ⟨_, rfl, _⟩ := h3
  have HFIN := hide hfin
  clear hfin
  go_wp2
  rw [unhide HT]
  exact unhide HFIN
end Go.Proofs.YtpadbpmnejgckaaDoor
