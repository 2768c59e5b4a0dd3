/-
  CONTRACT: zzb1Build (8): the skills laid into a row of the call's own.
-/
import Derived.Test.Qxb6619271aModsF
namespace Go.Proofs.Qxb6619271aMods
open Go.RowKit

/-- An owned row of n elements, told by its block. -/
def OwnAt (w : World) (B g n : Nat) (xs : List Value) : Prop := w.ownsRow B 31 7 (.slice (some ⟨g, 0, none⟩) n n) n xs

theorem OwnAt.lt {w : World} {B g n : Nat} {xs : List Value} (h : OwnAt w B g n xs) : B ≤ g ∧ g < w.heap.size := World.ownsRow.lt h g rfl

theorem OwnAt.below {w w' : World} {B g n : Nat} {xs : List Value} (h : OwnAt w B g n xs) (hb : Below w.heap.size w w') : OwnAt w' B g n xs := by
  have hl := h.lt
  obtain ⟨h1, h2⟩ := h
  refine ⟨h1, ?_⟩
  rcases h2 with ⟨h2, _⟩ | ⟨g', cap, cur, hv, hg, hh, r⟩
  · simp at h2
  · simp only [Value.slice.injEq, Option.some.injEq, Addr.mk.injEq, and_true, true_and] at hv
    obtain ⟨rfl, rfl⟩ := hv
    exact .inr ⟨g, n, cur, rfl, hg, by rw [hb.block g hl.2]; exact hh, r⟩

/-- Seven stores into an owned row, one behind the other. -/
def set7 (xs : List Value) (o : Nat) (s : Sk) : List Value :=
  ((((((xs.set o (.int .i64 s.lv)).set (o + 1) (.string s.nm)).set (o + 2) (.string s.ds)).set (o + 3) (.string s.fl)).set (o + 4) (.bool s.sh)).set (o + 5) (.string s.sd)).set (o + 6) (.string s.fo)

def put7 (w : World) (g o : Nat) (s : Sk) : World :=
  ((((((w.setCell ⟨g, o, none⟩ (.int .i64 s.lv)).setCell ⟨g, o + 1, none⟩ (.string s.nm)).setCell ⟨g, o + 2, none⟩ (.string s.ds)).setCell ⟨g, o + 3, none⟩ (.string s.fl)).setCell ⟨g, o + 4, none⟩ (.bool s.sh)).setCell ⟨g, o + 5, none⟩ (.string s.sd)).setCell ⟨g, o + 6, none⟩ (.string s.fo)

theorem OwnAt.put {w : World} {B g n : Nat} {xs : List Value} (h : OwnAt w B g n xs) (o : Nat) (s : Sk) : OwnAt (put7 w g o s) B g n (set7 xs o s) :=
  (World.ownsRow.stored (World.ownsRow.stored (World.ownsRow.stored (World.ownsRow.stored (World.ownsRow.stored (World.ownsRow.stored (World.ownsRow.stored h o _).1 (o + 1) _).1 (o + 2) _).1 (o + 3) _).1 (o + 4) _).1 (o + 5) _).1 (o + 6) _).1

theorem below_put {B : Nat} {a w : World} (h : Below B a w) {g : Nat} (hg : B ≤ g) (o : Nat) (s : Sk) : Below B a (put7 w g o s) :=
  (((((((h.setCell (p := ⟨g, o, none⟩) hg _).setCell (p := ⟨g, o + 1, none⟩) hg _).setCell (p := ⟨g, o + 2, none⟩) hg _).setCell (p := ⟨g, o + 3, none⟩) hg _).setCell (p := ⟨g, o + 4, none⟩) hg _).setCell (p := ⟨g, o + 5, none⟩) hg _).setCell (p := ⟨g, o + 6, none⟩) hg _)

theorem set7_take {xs : List Value} {k : Nat} {L : List Sk} {s : Sk} (hx : xs.take (k * 7) = flat (L.take k)) (hlen : (k + 1) * 7 ≤ xs.length) (hs : L[k]? = some s) : (set7 xs (k * 7) s).take ((k + 1) * 7) = flat (L.take (k + 1)) := by
  have e1 : flat (L.take (k + 1)) = xs.take (k * 7) ++ s.cells := by
    rw [hx, List.take_add_one, hs]; simp [flat]
  rw [e1]
  apply List.ext_getElem?
  intro i
  have hl7 : (xs.take (k * 7)).length = k * 7 := by simp; omega
  by_cases h1 : i < k * 7
  · rw [List.getElem?_append_left (by omega)]
    simp only [set7, List.getElem?_take, List.getElem?_set]
    simp [show i < (k + 1) * 7 by omega, h1, show ¬ k * 7 = i by omega, show ¬ k * 7 + 1 = i by omega, show ¬ k * 7 + 2 = i by omega, show ¬ k * 7 + 3 = i by omega, show ¬ k * 7 + 4 = i by omega, show ¬ k * 7 + 5 = i by omega, show ¬ k * 7 + 6 = i by omega]
  · rw [List.getElem?_append_right (by omega), hl7]
    by_cases h2 : i < (k + 1) * 7
    · have h3 : i = k * 7 ∨ i = k * 7 + 1 ∨ i = k * 7 + 2 ∨ i = k * 7 + 3 ∨ i = k * 7 + 4 ∨ i = k * 7 + 5 ∨ i = k * 7 + 6 := by omega
      rcases h3 with rfl | rfl | rfl | rfl | rfl | rfl | rfl
      all_goals
        simp only [set7, List.getElem?_take, List.getElem?_set, h2]
        simp [Sk.cells, show k * 7 < xs.length by omega, show k * 7 + 1 < xs.length by omega, show k * 7 + 2 < xs.length by omega, show k * 7 + 3 < xs.length by omega, show k * 7 + 4 < xs.length by omega, show k * 7 + 5 < xs.length by omega, show k * 7 + 6 < xs.length by omega]
    · rw [List.getElem?_eq_none (by simp; omega), List.getElem?_eq_none (by simp [Sk.cells]; omega)]

end Go.Proofs.Qxb6619271aMods
