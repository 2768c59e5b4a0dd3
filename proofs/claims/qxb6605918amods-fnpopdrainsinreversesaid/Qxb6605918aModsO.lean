/-
  HOW THE ARGUMENTS ARE OPENED: a slice of events told by time and number, and one such event by value.
-/
import Derived.Test.Qxb6605918aModsBuild
import Derived.ProofKit
import Derived.Deep.SlicePairs
import Derived.Lib.SmallJoins
namespace Go.Proofs.Qxb6605918aMods
open Go.ChangeShapes Go.WideShapes Go.ChangeAt Go.RowKit Go.Deep Go.Joins

theorem Trym.own : ownKnob Trym.prog.godebug = none := by kernel_rfl
theorem Trym.laidOut : laidOutB Trym.prog = true := by kernel_rfl
theorem Trym.cells25 : Trym.prog.cellsOf 25 = 2 := by kernel_rfl
theorem Trym.cells2 : Trym.prog.cellsOf 2 = 1 := by kernel_rfl
theorem Trym.cells23 : Trym.prog.cellsOf 23 = 1 := by kernel_rfl

theorem open_rows {H : Type} {enc : TypeId × Value → H} {w : World} {spare : Nat → Bool} {held : Bool} {a0 : Option Addr} {len0 cap0 fuel : Nat} {x : DataW H × List MemPlace}
    (hf : DataW.trod enc Trym.prog w 0 spare held fuel 22 [.slice a0 len0 cap0] = some x) :
    ∃ L : List Ev, L.length = len0 ∧ len0 ≤ 9223372036854775807 ∧ EvRow w a0 L := by
  rcases open_slice_pairs Trym.underlying22 Trym.underlying25 Trym.cells25 rfl rfl Trym.cells2 Trym.cells23 hf with ⟨hcs, _⟩ | ⟨a, len, cap, m, n, V0, V1, D0, D1, P0, P1, hcs, hb, hl, hm, hmm, _, hx⟩
  · simp at hcs
    obtain ⟨rfl, rfl, rfl⟩ := hcs
    exact ⟨[], rfl, by omega, .inl rfl⟩
  · simp at hcs
    obtain ⟨rfl, rfl, rfl⟩ := hcs
    have hlm : len0 ≤ m := by rw [hmm]; split <;> omega
    have inh : Inhabited Ev := ⟨⟨0, 0⟩⟩
    obtain ⟨S, hS⟩ := choose_lt (α := Ev) (p := fun i s => w.cell? (a.add (i * 2)) = some (.int .i64 s.t) ∧ w.cell? (a.add (i * 2 + 1)) = some (.int .u64 s.q)) (n := len0) (fun i hi => by
      obtain ⟨h1, h2, h3, h4⟩ := hx i (by omega)
      obtain ⟨z0, e0, _⟩ := DataW.trod_int Trym.underlying2 h3
      obtain ⟨z1, e1, _⟩ := DataW.trod_int Trym.underlying23 h4
      simp at e0 e1
      exact ⟨⟨z0, z1⟩, by rw [h1, e0], by rw [h2, e1]⟩)
    have hl63 : len0 ≤ 9223372036854775807 := by unfold maxLen at hm; omega
    refine ⟨(List.range len0).map S, by simp, hl63, ?_⟩
    by_cases h0 : len0 = 0
    · exact .inl (by simp [h0])
    · obtain ⟨b, off, spot⟩ := a
      have hc0 := (hS 0 (by omega)).1
      have hspot : spot = none := by simpa [Addr.add] using World.cell?_spot hc0
      subst hspot
      refine .inr ⟨b, off, rfl, ?_, fun k s hk => ?_⟩
      · have := block_lt_of_cell hc0
        simpa [Addr.add] using this
      · have hk' : k < len0 ∧ S k = s := by
          obtain ⟨h1, h2⟩ := List.getElem?_eq_some_iff.1 hk
          simp at h1 h2
          exact ⟨h1, h2⟩
        obtain ⟨h1, rfl⟩ := hk'
        have e := hS k h1
        rw [Addr.add_lit, Addr.add_lit] at e
        rw [Nat.add_assoc]
        exact e

set_option maxRecDepth 100000 in
theorem open_ev {H : Type} {enc : TypeId × Value → H} {w : World} {base : Nat} {spare : Nat → Bool} {held : Bool} {r : Reach} {b0 : Nat} {v : Value} {d : DataW H} {p : List MemPlace}
    (hv : Value.okWide Trym.prog w r b0 25 v) (h : DataW.Trod enc Trym.prog w base spare held 25 v d p) : ∃ s : Ev, v = .agg #[.int .i64 s.t, .int .u64 s.q] := by
  obtain ⟨c0, c1, y0, y1, m, rfl, _, _, hy0, hy1⟩ := open_agg2 Trym.underlying25 (by kernel_rfl) Trym.cells25 hv h
  obtain ⟨z0, e0, _⟩ := DataW.trod_int Trym.underlying2 hy0
  obtain ⟨z1, e1, _⟩ := DataW.trod_int Trym.underlying23 hy1
  simp at e0 e1
  subst e0 e1
  exact ⟨⟨z0, z1⟩, rfl⟩

end Go.Proofs.Qxb6605918aMods
