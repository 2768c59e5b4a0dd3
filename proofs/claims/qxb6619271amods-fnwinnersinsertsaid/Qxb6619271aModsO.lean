/-
  HOW THE ARGUMENTS ARE OPENED: a struct of seven one-cell fields, by value and as a slice's element.
-/
import Derived.Test.Qxb6619271aModsC
import Derived.ProofKit
import Derived.Deep.Fields
import Derived.Deep.Slices
namespace Go.Proofs.Qxb6619271aMods
open Go.ChangeShapes Go.WideShapes Go.ChangeAt Go.RowKit Go.Deep

theorem Trym.own : ownKnob Trym.prog.godebug = none := by kernel_rfl
theorem Trym.laidOut : laidOutB Trym.prog = true := by kernel_rfl
theorem Trym.cells34 : Trym.prog.cellsOf 34 = 7 := by kernel_rfl
theorem Trym.cells43 : Trym.prog.cellsOf 43 = 7 := by kernel_rfl

theorem list7 {α : Type} {l : List α} (h : l.length = 7) : ∃ c0 c1 c2 c3 c4 c5 c6, l = [c0, c1, c2, c3, c4, c5, c6] := by
  match l, h with
  | [c0, c1, c2, c3, c4, c5, c6], _ => exact ⟨c0, c1, c2, c3, c4, c5, c6, rfl⟩

section
variable {H : Type} {enc : TypeId × Value → H} {P : Program} {w : World} {base : Nat} {spare : Nat → Bool} {held : Bool}

theorem struct_fields {t : TypeId} {fs : Array Field} {fuel : Nat} {cs : List Value} {x : DataW H × List MemPlace} (hs : P.underlying t = some (.struct fs)) (hone : oneCellFields P fs = true)
    (h : DataW.trod enc P w base spare held fuel t cs = some x) :
    ∃ n, ∀ (i : Nat) (f : Field) (c : Value), fs[i]? = some f → cs[i]? = some c → ∃ y, DataW.trod enc P w base spare held n f.type [c] = some y := by
  obtain ⟨xs, n, _, _, _, hxl, hf⟩ := DataW.trod_struct hs h
  refine ⟨n, fun i f c hi hc => ?_⟩
  have hlt : i < fs.size := (Array.getElem?_eq_some_iff.1 hi).1
  obtain ⟨ho, hk⟩ := hone_of hone i f hi
  have h1 := hf i f hi
  rw [ho, hk] at h1
  have hd : (cs.drop i).take 1 = [c] := by
    have hlt' := (List.getElem?_eq_some_iff.1 hc).1
    rw [List.drop_eq_getElem_cons hlt']
    simp [(List.getElem?_eq_some_iff.1 hc).2]
  rw [hd] at h1
  exact ⟨xs[i], by rw [h1]; simp [hxl, hlt]⟩
end

/-- What a cell of type 'int', 'string', 'bool' holds. -/
theorem is_int {H : Type} {enc : TypeId × Value → H} {w : World} {base n : Nat} {spare : Nat → Bool} {held : Bool} {c : Value} {y : DataW H × List MemPlace} (h : DataW.trod enc Trym.prog w base spare held n 3 [c] = some y) : ∃ z, c = .int .i64 z := by
  obtain ⟨z, e, _⟩ := DataW.trod_int Trym.underlying3 h
  exact ⟨z, by simpa using e⟩
theorem is_string {H : Type} {enc : TypeId × Value → H} {w : World} {base n : Nat} {spare : Nat → Bool} {held : Bool} {c : Value} {y : DataW H × List MemPlace} (h : DataW.trod enc Trym.prog w base spare held n 9 [c] = some y) : ∃ s, c = .string s ∧ s.size ≤ maxLen := by
  obtain ⟨s, e, _, hs⟩ := DataW.trod_string Trym.underlying9 h
  exact ⟨s, by simpa using e, hs⟩
theorem is_bool {H : Type} {enc : TypeId × Value → H} {w : World} {base n : Nat} {spare : Nat → Bool} {held : Bool} {c : Value} {y : DataW H × List MemPlace} (h : DataW.trod enc Trym.prog w base spare held n 4 [c] = some y) : ∃ b, c = .bool b := by
  obtain ⟨b, e, _⟩ := DataW.trod_bool Trym.underlying4 h
  exact ⟨b, by simpa using e⟩

theorem open_in {H : Type} {enc : TypeId × Value → H} {w : World} {base : Nat} {spare : Nat → Bool} {held : Bool} {r : Reach} {b0 : Nat} {v : Value} {d : DataW H} {p : List MemPlace}
    (hv : Value.okWide Trym.prog w r b0 34 v) (h : DataW.Trod enc Trym.prog w base spare held 34 v d p) :
    ∃ (l : Int) (dd : ByteArray) (st : Bool) (f n ds lo : ByteArray), v = .agg #[.int .i64 l, .string dd, .bool st, .string f, .string n, .string ds, .string lo] := by
  obtain ⟨cs, rfl, hsz⟩ := okWide_struct Trym.underlying34 hv
  rw [Trym.cells34] at hsz
  obtain ⟨l⟩ := cs
  obtain ⟨c0, c1, c2, c3, c4, c5, c6, rfl⟩ := list7 (by simpa using hsz)
  obtain ⟨fuel, hf⟩ := h
  obtain ⟨n, hx⟩ := struct_fields Trym.underlying34 (by kernel_rfl) hf
  obtain ⟨y0, g0⟩ := hx 0 _ c0 rfl rfl
  obtain ⟨y1, g1⟩ := hx 1 _ c1 rfl rfl
  obtain ⟨y2, g2⟩ := hx 2 _ c2 rfl rfl
  obtain ⟨y3, g3⟩ := hx 3 _ c3 rfl rfl
  obtain ⟨y4, g4⟩ := hx 4 _ c4 rfl rfl
  obtain ⟨y5, g5⟩ := hx 5 _ c5 rfl rfl
  obtain ⟨y6, g6⟩ := hx 6 _ c6 rfl rfl
  obtain ⟨z0, rfl⟩ := is_int g0
  obtain ⟨z1, rfl, _⟩ := is_string g1
  obtain ⟨z2, rfl⟩ := is_bool g2
  obtain ⟨z3, rfl, _⟩ := is_string g3
  obtain ⟨z4, rfl, _⟩ := is_string g4
  obtain ⟨z5, rfl, _⟩ := is_string g5
  obtain ⟨z6, rfl, _⟩ := is_string g6
  exact ⟨_, _, _, _, _, _, _, rfl⟩

/-- Seven cells that read as a skill told field by field. -/
theorem cells_sk {H : Type} {enc : TypeId × Value → H} {w : World} {base fuel : Nat} {spare : Nat → Bool} {held : Bool} {cs : List Value} {x : DataW H × List MemPlace} (hl : cs.length = 7)
    (hf : DataW.trod enc Trym.prog w base spare held fuel 43 cs = some x) : ∃ s : Sk, cs = s.cells := by
  obtain ⟨c0, c1, c2, c3, c4, c5, c6, rfl⟩ := list7 hl
  obtain ⟨n, hx⟩ := struct_fields Trym.underlying43 (by kernel_rfl) hf
  obtain ⟨y0, g0⟩ := hx 0 _ c0 rfl rfl
  obtain ⟨y1, g1⟩ := hx 1 _ c1 rfl rfl
  obtain ⟨y2, g2⟩ := hx 2 _ c2 rfl rfl
  obtain ⟨y3, g3⟩ := hx 3 _ c3 rfl rfl
  obtain ⟨y4, g4⟩ := hx 4 _ c4 rfl rfl
  obtain ⟨y5, g5⟩ := hx 5 _ c5 rfl rfl
  obtain ⟨y6, g6⟩ := hx 6 _ c6 rfl rfl
  obtain ⟨z0, rfl⟩ := is_int g0
  obtain ⟨z1, rfl, _⟩ := is_string g1
  obtain ⟨z2, rfl, _⟩ := is_string g2
  obtain ⟨z3, rfl, _⟩ := is_string g3
  obtain ⟨z4, rfl⟩ := is_bool g4
  obtain ⟨z5, rfl, _⟩ := is_string g5
  obtain ⟨z6, rfl, _⟩ := is_string g6
  exact ⟨⟨z0, z1, z2, z3, z4, z5, z6⟩, rfl⟩

theorem open_sk {H : Type} {enc : TypeId × Value → H} {w : World} {base : Nat} {spare : Nat → Bool} {held : Bool} {r : Reach} {b0 : Nat} {v : Value} {d : DataW H} {p : List MemPlace}
    (hv : Value.okWide Trym.prog w r b0 43 v) (h : DataW.Trod enc Trym.prog w base spare held 43 v d p) :
    ∃ s : Sk, v = .agg #[.int .i64 s.lv, .string s.nm, .string s.ds, .string s.fl, .bool s.sh, .string s.sd, .string s.fo] := by
  obtain ⟨cs, rfl, hsz⟩ := okWide_struct Trym.underlying43 hv
  rw [Trym.cells43] at hsz
  obtain ⟨fuel, hf⟩ := h
  obtain ⟨s, hs⟩ := cells_sk (cs := cs.toList) (by simpa using hsz) hf
  refine ⟨s, ?_⟩
  have : cs = s.cells.toArray := by rw [← hs]
  rw [this]
  rfl

end Go.Proofs.Qxb6619271aMods
