/-
  A SLICE OF SKILLS THAT CAME IN, opened: a row of skills.
-/
import Derived.Test.Qxb6619271aModsO
namespace Go.Proofs.Qxb6619271aMods
open Go.ChangeShapes Go.WideShapes Go.ChangeAt Go.RowKit Go.Deep

theorem open_rows {H : Type} {enc : TypeId × Value → H} {w : World} {spare : Nat → Bool} {held : Bool} {a0 : Option Addr} {len0 cap0 fuel : Nat} {x : DataW H × List MemPlace}
    (hf : DataW.trod enc Trym.prog w 0 spare held fuel 22 [.slice a0 len0 cap0] = some x) :
    ∃ L : List Sk, L.length = len0 ∧ len0 ≤ 9223372036854775807 ∧ SkRow w a0 L := by
  rcases open_slice Trym.underlying22 hf with ⟨hcs, _⟩ | ⟨a, len, cap, m, n, D, Pl, hcs, hb, hl, hm, hmm, _, hx⟩
  · simp at hcs
    obtain ⟨rfl, rfl, rfl⟩ := hcs
    exact ⟨[], rfl, by omega, .inl rfl⟩
  · simp at hcs
    obtain ⟨rfl, rfl, rfl⟩ := hcs
    have hlm : len0 ≤ m := by rw [hmm]; split <;> omega
    rw [Trym.cells43] at hx
    have inh : Inhabited Sk := ⟨⟨0, .empty, .empty, .empty, false, .empty, .empty⟩⟩
    obtain ⟨S, hS⟩ := choose_lt (α := Sk) (p := fun i s => ∀ j u, s.cells[j]? = some u → w.cell? (a.add (i * 7 + j)) = some u) (n := len0) (fun i hi => by
      obtain ⟨cs', h1, h2⟩ := hx i (by omega)
      obtain ⟨_, hlen, hcell⟩ := World.cells?_some h1
      obtain ⟨s, rfl⟩ := cells_sk hlen h2
      refine ⟨s, fun j u hu => ?_⟩
      have hj := (List.getElem?_eq_some_iff.1 hu).1
      have e := hcell j (by omega)
      rw [add_add] at e
      rw [e, hu])
    have hl63 : len0 ≤ 9223372036854775807 := by unfold maxLen at hm; omega
    refine ⟨(List.range len0).map S, by simp, hl63, ?_⟩
    by_cases h0 : len0 = 0
    · exact .inl (by simp [h0])
    · obtain ⟨b, off, spot⟩ := a
      have hc0 := hS 0 (by omega) 0 _ rfl
      have hspot : spot = none := by simpa [Addr.add] using World.cell?_spot hc0
      subst hspot
      refine .inr ⟨b, off, rfl, ?_, fun k s hk j u hu => ?_⟩
      · have := block_lt_of_cell hc0
        simpa [Addr.add] using this
      · have hk' : k < len0 ∧ S k = s := by
          obtain ⟨h1, h2⟩ := List.getElem?_eq_some_iff.1 hk
          simp at h1 h2
          exact ⟨h1, h2⟩
        obtain ⟨h1, rfl⟩ := hk'
        have e := hS k h1 j u hu
        rw [Addr.add_lit] at e
        rw [Nat.add_assoc]
        exact e

end Go.Proofs.Qxb6619271aMods
