/-
  msgp.AppendExtension over a *RawExtension of any length, impl.PutExt. Conditions: at most 2^17 bytes; at most 2^40 bytes before.
-/
import Derived.Test.YtloaaffkjhkpaaaExtZ
import Derived.Test.YtloaaffkjhkpaaaExtB
import Derived.Test.YtloaaffkjhkpaaaExtC
namespace Go.Proofs.Ytloaaffkjhkpaaa
set_option linter.unusedSimpArgs false
set_option linter.unusedVariables false
set_option linter.unusedVariables false
open Go.RowKit
/-- What AppendExtension puts behind a slice. -/
def encE (kind : Int) (ds : List UInt8) : List UInt8 :=
  if ds.length = 0 then 199 :: 0 :: UInt8.ofNat (kind + 256).toNat :: ds
  else if ds.length = 1 then 212 :: UInt8.ofNat (kind + 256).toNat :: ds
  else if ds.length = 2 then 213 :: UInt8.ofNat (kind + 256).toNat :: ds
  else if ds.length = 4 then 214 :: UInt8.ofNat (kind + 256).toNat :: ds
  else if ds.length = 8 then 215 :: UInt8.ofNat (kind + 256).toNat :: ds
  else if ds.length = 16 then 216 :: UInt8.ofNat (kind + 256).toNat :: ds
  else if ds.length < 255 then 199 :: UInt8.ofNat ds.length :: UInt8.ofNat (kind + 256).toNat :: ds
  else if ds.length < 65535 then 200 :: (be (ds.length : Int) 2 ++ UInt8.ofNat (kind + 256).toNat :: ds)
  else 201 :: (be (ds.length : Int) 4 ++ UInt8.ofNat (kind + 256).toNat :: ds)
theorem AppendExtension_any (S : Nat → Prop) (R cd l : Nat) (kind : Int) (hk0 : -128 ≤ kind) (hk1 : kind ≤ 127) (Ad : Option Addr) (ds : List UInt8) (B : Nat) (A : Option Addr) (n cap : Nat) (xs : List Value) (w : World) (hl : ds.length = l) (hhi : l ≤ 131072) (h0 : w.cell? ⟨R, 0, none⟩ = some (.slice Ad l cd)) (h1 : w.cell? ⟨R, 1, none⟩ = some (.int .i8 kind)) (hSR : S R) (hr : RB w S Ad ds) (hS : Old w S) (hsep : ∀ b, S b → (Value.slice A n cap).ownBlock ≠ some b)
    (hown : w.ownsRow B 5 1 (.slice A n cap) n xs) (hone : ∀ u ∈ xs, u.oneCell' = true) (hB : B ≤ w.heap.size) (hlen : n ≤ 1099511627776) :
    Calls Try.prog 21 #[.slice A n cap, .iface 53 (.pointer (some ⟨R, 0, none⟩))] w fun e w' => ∃ v, e = .returned (.tuple #[v, .nilIface]) ∧ Appd B n xs w (.slice A n cap) (encE kind ds) (.returned v) w' := by
  unfold encE
  rw [hl]
  split
  · rename_i e; subst e; exact AppendExtension_0 S R cd kind hk0 hk1 Ad ds B A n cap xs w hl h0 h1 hSR hr hS hsep hown hone hB hlen
  split
  · rename_i e; subst e; exact AppendExtension_1 S R cd kind hk0 hk1 Ad ds B A n cap xs w hl h0 h1 hSR hr hS hsep hown hone hB hlen
  split
  · rename_i e; subst e; exact AppendExtension_2 S R cd kind hk0 hk1 Ad ds B A n cap xs w hl h0 h1 hSR hr hS hsep hown hone hB hlen
  split
  · rename_i e; subst e; exact AppendExtension_4 S R cd kind hk0 hk1 Ad ds B A n cap xs w hl h0 h1 hSR hr hS hsep hown hone hB hlen
  split
  · rename_i e; subst e; exact AppendExtension_8 S R cd kind hk0 hk1 Ad ds B A n cap xs w hl h0 h1 hSR hr hS hsep hown hone hB hlen
  split
  · rename_i e; subst e; exact AppendExtension_16 S R cd kind hk0 hk1 Ad ds B A n cap xs w hl h0 h1 hSR hr hS hsep hown hone hB hlen
  split
  · exact AppendExtension_mid S R cd l kind hk0 hk1 Ad ds B A n cap xs w hl (by omega) (by omega) (by omega) (by omega) (by omega) (by omega) (by omega) h0 h1 hSR hr hS hsep hown hone hB hlen
  split
  · exact AppendExtension_b16 S R cd l kind hk0 hk1 Ad ds B A n cap xs w hl (by omega) (by omega) h0 h1 hSR hr hS hsep hown hone hB hlen
  · exact AppendExtension_b32 S R cd l kind hk0 hk1 Ad ds B A n cap xs w hl (by omega) (by omega) h0 h1 hSR hr hS hsep hown hone hB hlen
/-- Bytes bs of one's own behind w, and true. -/
def OutB (w : World) (bs : List UInt8) (e : Ending) (w' : World) : Prop :=
  ∃ A c, e = .returned (.tuple #[.slice A bs.length c, .bool true]) ∧ bs.length ≤ c ∧ c ≤ maxLen ∧ RB w' (Made w w') A bs ∧ Below w.heap.size w w'
set_option maxRecDepth 100000 in
set_option maxHeartbeats 1600000 in
theorem PutExt_any (S S2 : Nat → Prop) (A D : Option Addr) (bs ds : List UInt8) (n cap l dcap : Nat) (kind : Int) (hk0 : -128 ≤ kind) (hk1 : kind ≤ 127) (w : World) (hn : n = bs.length) (hl : l = ds.length) (hr : RB w S A bs) (hS : Old w S) (hr2 : RB w S2 D ds) (hS2 : Old w S2) (hlen : n ≤ 1099511627776) (hld : l ≤ 131072) :
    Calls Try.prog 12 #[.slice A n cap, .int .i8 kind, .slice D l dcap] w (OutB w (bs ++ encE kind ds)) := by
  subst hn
  have HL := hide hl
  have HR2 := hide hr2
  clear hl hr2
  go_enter Try.func12, Try.ntmps12
  go_wp2_with fail
  refine (copied_any S A bs bs.length cap _ rfl hr hS (by omega)).mono ?_
  rintro e w1 ⟨v, rfl, hown, hbel⟩
  have hbl := hide (own_blocks hown)
  obtain ⟨A1, c1, rfl, hc1, hc1m, _⟩ := own_slice hown
  have HR3 := hide ((unhide HR2).keep (stays_below (Stays.refl _ _) hbel hS2))
  have HO3 := hide (old_below hbel hS2)
  have HOWN := hide hown
  have HBEL := hide hbel
  clear hown hbel
  go_wp2_with fail
  refine (copied_any S2 D ds l dcap _ (unhide HL) (unhide HR3) (unhide HO3) (by have := unhide HL; omega)).mono ?_
  rintro e w2 ⟨v2, rfl, hown2, hbel2⟩
  rw [← unhide HL] at hown2
  obtain ⟨A2, c2, rfl, hc2, hc2m, hr4⟩ := own_slice hown2
  have HR4 := hide hr4
  have HB2 := hide hbel2
  clear hown2 hbel2 hr4
  go_wp2_with fail
  have hb2 := unhide HB2
  have hb3 : Below w1.heap.size w1 (w2.alloc (.cells #[.slice A2 l c2, .int .i8 kind] 55)) := hb2.alloc hb2.size _
  refine (AppendExtension_any (fun b => b = w2.heap.size ∨ (w1.heap.size ≤ b ∧ b < w2.heap.size)) w2.heap.size c2 l kind hk0 hk1 A2 ds w.heap.size A1 bs.length c1 (bs.map u8) (w2.alloc (.cells #[.slice A2 l c2, .int .i8 kind] 55)) (unhide HL).symm hld (by go_simp) (by go_simp) (.inl rfl) ?r1 ?o1 ?s1 ?w1 (u8_one bs) ?b1 (by omega)).mono ?_
  case r1 =>
    have h := unhide HR4
    refine RB.sub (S := fun b => w1.heap.size ≤ b ∧ b < w2.heap.size) ?_ (fun b hb => .inr hb)
    refine RB.keep ?_ (stays_alloc (fun b hb => hb.2) (Stays.refl _ _) _)
    unfold RB
    rw [← unhide HL]
    exact h
  case o1 =>
    intro b hb
    simp only [World.size_alloc]
    rcases hb with rfl | hb
    · omega
    · omega
  case s1 =>
    intro b hb he
    have := ((unhide HOWN).lt b he).2
    have := hb2.size
    rcases hb with rfl | hb <;> omega
  case w1 => exact own_below (unhide HOWN) hb3
  case b1 => simp only [World.size_alloc]; have := (unhide HBEL).size; have := hb2.size; omega
  rintro e w4 ⟨v4, rfl, A4, c4, hv4, h3, h4, h5, h6⟩
  injection hv4 with hv4
  subst hv4
  have HF := hide (out_of_appd (bs := bs) (enc := encE kind ds) rfl rfl ((unhide HBEL).trans (hb3.mono (unhide HBEL).size)) (unhide hbl) rfl h3 h4 h5 h6)
  clear h3 h4 hb2 hb3
  go_wp2
  obtain ⟨A5, c5, he5, k1, k2, k3, k4⟩ := unhide HF
  injection he5 with he5
  injection he5 with q1 q2 q3
  subst q1 q3
  have HQ := hide q2
  have HK := hide (show RB w4.drew (Made w w4.drew) A4 (bs ++ encE kind ds) from k3.keep (fun b _ => rfl))
  have HK4 := hide k4
  clear q2 k3 k4 HF
  go_region
  go_wp2
  refine bodyPost_ret (v := .tuple #[.slice A4 (bs.length + (encE kind ds).length) c4, .bool true]) (by simp [results, Try.results12, go_sem]) rfl ?_
  exact ⟨A4, c4, by rw [← unhide HQ], k1, k2, unhide HK, (unhide HK4).drew⟩
end Go.Proofs.Ytloaaffkjhkpaaa
