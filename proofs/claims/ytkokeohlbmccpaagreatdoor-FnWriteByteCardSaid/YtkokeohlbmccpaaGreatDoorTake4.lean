/-
  spec.constructor.take computes its plain function, over a contract of spec.within. Conditions: the data read as bytes, at most 2^40.
-/
import Derived.Test.YtkokeohlbmccpaaGreatDoorTake3a
import Derived.Test.YtkokeohlbmccpaaGreatDoorTake3b
import Derived.Test.YtkokeohlbmccpaaGreatDoorTake3c
import Derived.Test.YtkokeohlbmccpaaGreatDoorTake3d
import Derived.Test.YtkokeohlbmccpaaGreatDoorTake3e
namespace Go.Proofs.YtkokeohlbmccpaaGreatDoor
set_option linter.unusedSimpArgs false
set_option linter.unusedVariables false
open Go.RowKit
theorem take_any (lv : Nat) (hlvb : lv ≤ 1000) (hW : Withins lv) : TakesTake (lv + 1) := by
  intro lv' Q S D desc dn dc ys code A bs m cap w hlv hdn hdc hdm hrD hcD hcode hm hr hc hcap h40 hS hQ r hres
  subst hm hdn
  simp only [lvl, takeW] at hres
  rcases hk : kOf code with _ | ⟨kind, size⟩
  · rw [hk] at hres
    cases hres
    exact take_none lv' Q S D desc dc ys code A bs cap w hdc hdm hrD hcD hcode hr hc hcap h40 hS hQ (by simp [kRes, hk])
  rw [hk] at hres
  simp only at hres
  have hkr : kRes code = ((kind : Int), (size : Int), true) := by simp [kRes, hk]
  obtain ⟨hk23, hs16, hs8, h1416, hlen, hsg, hbool, hnull, h69⟩ := kOf_bd code kind size hk
  by_cases e16 : size = 16
  · subst e16
    rw [if_pos rfl] at hres
    by_cases hl : bs.length < 16
    · rw [if_pos hl] at hres
      cases hres
      exact take_16s lv' Q S D desc dc ys code A bs cap w hdc hdm hrD hcD hcode hr hc hcap h40 hS hQ kind hkr hl
    · rw [if_neg hl] at hres
      cases hres
      exact take_16 lv' Q S D desc dc ys code A bs cap w hdc hdm hrD hcD hcode hr hc hcap h40 hS hQ kind hkr (by omega)
  rw [if_neg e16] at hres
  have h8 : size ≤ 8 := by omega
  by_cases hl : bs.length < size
  · rw [if_pos hl] at hres
    cases hres
    exact take_short lv' Q S D desc dc ys code A bs cap w hdc hdm hrD hcD hcode hr hc hcap h40 hS hQ kind size hkr h8 hl
  rw [if_neg hl] at hres
  have hl' : size ≤ bs.length := by omega
  have hu8 := bigA_lt8 bs size h8
  have hub := bigA_lt_take bs size
  by_cases hD : kind = 0 ∨ code = 69
  · rw [if_pos hD] at hres
    cases hres
    exact take_null lv' Q S D desc dc ys code A bs cap w hdc hdm hrD hcD hcode hr hc hcap h40 hS hQ kind size _ hkr h8 hl' rfl hu8 hD
  rw [if_neg hD] at hres
  have hc69 : code ≠ 69 := fun e => hD (.inr e)
  by_cases hE : kind = 1
  · subst hE
    rw [if_pos rfl] at hres
    obtain ⟨hs1, hcd⟩ := hbool rfl
    by_cases hs0 : size = 0
    · subst hs0
      have hcd := hcd rfl
      rw [if_pos rfl, if_pos (by omega)] at hres
      cases hres
      exact take_bool0 lv' Q S D desc dc ys code A bs cap w hdc hdm hrD hcD hcode hr hc hcap h40 hS hQ hkr hcd
    · simp only [if_neg hs0] at hres
      by_cases hu : bigA (bs.take size) ≤ 1
      · rw [if_pos hu] at hres
        cases hres
        exact take_bool1y lv' Q S D desc dc ys code A bs cap w hdc hdm hrD hcD hcode hr hc hcap h40 hS hQ size _ hkr h8 hl' rfl hu8 hc69 hs0 hu
      · rw [if_neg hu] at hres
        cases hres
        exact take_bool1n lv' Q S D desc dc ys code A bs cap w hdc hdm hrD hcD hcode hr hc hcap h40 hS hQ size _ hkr h8 hl' rfl hu8 hc69 hs0 (by omega)
  rw [if_neg hE] at hres
  by_cases hF : 21 ≤ kind
  · rw [if_pos hF] at hres
    obtain ⟨h1, h4⟩ := hlen (by omega) hc69
    exact take_within lv hlvb lv' Q S D desc dc ys code A bs cap w hdc hdm hrD hcD hcode hr hc hcap h40 hS hQ kind size _ hkr h8 hl' rfl hu8 hW r hres (by omega) hF hk23 hc69 h1 h4
  rw [if_neg hF] at hres
  by_cases hG : 18 ≤ kind
  · rw [if_pos hG] at hres
    by_cases hul : (bs.drop size).length < bigA (bs.take size)
    · rw [if_pos hul] at hres
      cases hres
      exact take_textS lv' Q S D desc dc ys code A bs cap w hdc hdm hrD hcD hcode hr hc hcap h40 hS hQ kind size _ hkr h8 hl' rfl hu8 hG (by omega) hc69 (by simpa using hul)
    · rw [if_neg hul] at hres
      by_cases h18 : kind = 18
      · subst h18
        rw [if_pos rfl] at hres
        cases hres
        exact take_text18 lv' Q S D desc dc ys code A bs cap w hdc hdm hrD hcD hcode hr hc hcap h40 hS hQ size _ hkr h8 hl' rfl hu8 hc69 (by simpa using hul)
      · rw [if_neg h18] at hres
        cases hres
  rw [if_neg hG] at hres
  cases hres
  by_cases hs : 6 ≤ kind ∧ kind ≤ 9
  · rw [if_pos hs]
    rcases hsg hs.1 hs.2 with rfl | rfl | rfl | rfl
    · exact take_sgn1 lv' Q S D desc dc ys code A bs cap w hdc hdm hrD hcD hcode hr hc hcap h40 hS hQ kind _ hkr hl' rfl hu8 hs.1 hs.2 hc69 hub
    · exact take_sgn2 lv' Q S D desc dc ys code A bs cap w hdc hdm hrD hcD hcode hr hc hcap h40 hS hQ kind _ hkr hl' rfl hu8 hs.1 hs.2 hc69 hub
    · exact take_sgn4 lv' Q S D desc dc ys code A bs cap w hdc hdm hrD hcD hcode hr hc hcap h40 hS hQ kind _ hkr hl' rfl hu8 hs.1 hs.2 hc69 hub
    · exact take_sgn8 lv' Q S D desc dc ys code A bs cap w hdc hdm hrD hcD hcode hr hc hcap h40 hS hQ kind _ hkr hl' rfl hu8 hs.1 hs.2 hc69 hub
  · rw [if_neg hs]
    by_cases h6 : kind < 6
    · exact take_numlo lv' Q S D desc dc ys code A bs cap w hdc hdm hrD hcD hcode hr hc hcap h40 hS hQ kind size _ hkr h8 hl' rfl hu8 (by omega) (by omega) hc69 h6
    · exact take_numhi lv' Q S D desc dc ys code A bs cap w hdc hdm hrD hcD hcode hr hc hcap h40 hS hQ kind size _ hkr h8 hl' rfl hu8 (by omega) (by omega) hc69 (by omega)
end Go.Proofs.YtkokeohlbmccpaaGreatDoor
