/-
  HOW THE ARGUMENTS ARE OPENED: a slice of bytes, a slice of strings.
-/
import Derived.Test.Qxb6608522aModsBase
import Derived.ProofKit
import Derived.SliceStrings
namespace Go.Proofs.Qxb6608522aMods
open Go.ChangeShapes Go.WideShapes Go.ChangeAt Go.RowKit

theorem Trym.own : ownKnob Trym.prog.godebug = none := by kernel_rfl
theorem Trym.laidOut : laidOutB Trym.prog = true := by kernel_rfl
theorem Trym.cells5 : Trym.prog.cellsOf 5 = 1 := by kernel_rfl
theorem Trym.cells9 : Trym.prog.cellsOf 9 = 1 := by kernel_rfl

theorem open_bytes {H : Type} {enc : TypeId × Value → H} {w : World} {spare : Nat → Bool} {held : Bool} {a0 : Option Addr} {len0 cap0 fuel : Nat} {x : DataW H × List MemPlace}
    (hf : DataW.trod enc Trym.prog w 0 spare held fuel 22 [.slice a0 len0 cap0] = some x) :
    ∃ Z : List Int, len0 = Z.length ∧ len0 ≤ 9223372036854775807 ∧ (a0 = none → len0 = 0) ∧ BRow w w.heap.size a0 Z := by
  rcases open_ints Trym.underlying22 Trym.underlying5 Trym.cells5 hf with ⟨hcs, _⟩ | ⟨a, len, cap, zs, hcs, _, hl, hm, hz, _, hcell, _⟩
  · simp at hcs
    obtain ⟨rfl, rfl, rfl⟩ := hcs
    exact ⟨[], rfl, by omega, fun _ => rfl, .inl rfl⟩
  · simp at hcs
    obtain ⟨rfl, rfl, rfl⟩ := hcs
    have hlz : len0 ≤ zs.length := by rw [hz]; split <;> omega
    have hl63 : len0 ≤ 9223372036854775807 := by unfold maxLen at hm; omega
    refine ⟨zs.take len0, by simp; omega, hl63, fun h => by simp at h, ?_⟩
    by_cases h0 : len0 = 0
    · exact .inl (by simp [h0])
    · obtain ⟨b, off, spot⟩ := a
      have hc0 := hcell 0 (by omega)
      have hspot : spot = none := by simpa [Addr.add] using World.cell?_spot hc0
      subst hspot
      have hlt : b < w.heap.size := by simpa [Addr.add] using block_lt_of_cell hc0
      refine .inr ⟨b, off, rfl, hlt, hlt, fun k z hk => ?_⟩
      rw [List.getElem?_take] at hk
      split at hk
      · next hkl =>
        have e := hcell k (by omega)
        rw [Addr.add_lit] at e
        rw [e, List.getD, hk]
        rfl
      · simp at hk

theorem open_labels {H : Type} {enc : TypeId × Value → H} {w : World} {spare : Nat → Bool} {held : Bool} {a0 : Option Addr} {len0 cap0 fuel : Nat} {x : DataW H × List MemPlace}
    (hf : DataW.trod enc Trym.prog w 0 spare held fuel 23 [.slice a0 len0 cap0] = some x) :
    ∃ L : List ByteArray, len0 = L.length ∧ len0 ≤ 9223372036854775807 ∧ (a0 = none → len0 = 0 ∧ cap0 = 0) ∧ SRow w w.heap.size a0 L := by
  rcases open_strings Trym.underlying23 Trym.underlying9 Trym.cells9 hf with ⟨hcs, _⟩ | ⟨a, len, cap, zs, hcs, _, hl, hm, hz, _, hcell, _⟩
  · simp at hcs
    obtain ⟨rfl, rfl, rfl⟩ := hcs
    exact ⟨[], rfl, by omega, fun _ => ⟨rfl, rfl⟩, .inl rfl⟩
  · simp at hcs
    obtain ⟨rfl, rfl, rfl⟩ := hcs
    have hlz : len0 ≤ zs.length := by rw [hz]; split <;> omega
    have hl63 : len0 ≤ 9223372036854775807 := by unfold maxLen at hm; omega
    refine ⟨zs.take len0, by simp; omega, hl63, fun h => by simp at h, ?_⟩
    by_cases h0 : len0 = 0
    · exact .inl (by simp [h0])
    · obtain ⟨b, off, spot⟩ := a
      have hc0 := hcell 0 (by omega)
      have hspot : spot = none := by simpa [Addr.add] using World.cell?_spot hc0
      subst hspot
      have hlt : b < w.heap.size := by simpa [Addr.add] using block_lt_of_cell hc0
      refine .inr ⟨b, off, rfl, hlt, hlt, fun k z hk => ?_⟩
      rw [List.getElem?_take] at hk
      split at hk
      · next hkl =>
        have e := hcell k (by omega)
        rw [Addr.add_lit] at e
        rw [e, List.getD, hk]
        rfl
      · simp at hk

end Go.Proofs.Qxb6608522aMods
