/-
  Rows of skills: what an owned row reads as; cuts of it; Winners (9) and Unshadowed (10) in the form that the laws call for.
-/
import Derived.Test.Qxb6619271aModsH
namespace Go.Proofs.Qxb6619271aMods
open Go.RowKit

theorem flat_get {L : List Sk} {k j : Nat} {s : Sk} {u : Value} (hk : L[k]? = some s) (hu : s.cells[j]? = some u) : (flat L)[k * 7 + j]? = some u := by
  have hj : j < 7 := by
    have := (List.getElem?_eq_some_iff.1 hu).1
    simpa [Sk.cells] using this
  induction L generalizing k with
  | nil => simp at hk
  | cons x L ih =>
    have e : flat (x :: L) = x.cells ++ flat L := by simp [flat]
    have hx : x.cells.length = 7 := rfl
    rw [e]
    cases k with
    | zero =>
      simp at hk
      subst hk
      rw [List.getElem?_append_left (by omega)]
      simpa using hu
    | succ k =>
      rw [List.getElem?_append_right (by omega), hx, show (k + 1) * 7 + j - 7 = k * 7 + j by omega]
      exact ih (by simpa using hk)

theorem flat_length (L : List Sk) : (flat L).length = L.length * 7 := by
  induction L with
  | nil => rfl
  | cons x L ih =>
    have e : flat (x :: L) = x.cells ++ flat L := by simp [flat]
    rw [e, List.length_append, ih]
    simp [Sk.cells]
    omega

/-- An owned row of skills is a row of skills. -/
theorem row_of_own {w : World} {B n : Nat} {v : Value} {L : List Sk} (h : w.ownsRow B 31 7 v n (flat L)) : ∃ a c, v = .slice a n c ∧ SkRow w a L ∧ n ≤ c := by
  have hl := h.1
  rw [flat_length] at hl
  have h' := h
  rcases h.2 with ⟨rfl, rfl⟩ | ⟨g, cap, cur, rfl, hg, hh, hc, _⟩
  · exact ⟨_, _, rfl, .inl (List.eq_nil_of_length_eq_zero (by omega)), Nat.le_refl _⟩
  · refine ⟨_, _, rfl, .inr ⟨g, 0, rfl, (h.lt g rfl).2, fun k s hk j u hu => ?_⟩, hc⟩
    have hkl := (List.getElem?_eq_some_iff.1 hk).1
    have hj : j < 7 := by
      have := (List.getElem?_eq_some_iff.1 hu).1
      simpa [Sk.cells] using this
    rw [World.ownsRow.cellAt h' _ (by omega), Nat.zero_add]
    exact flat_get hk hu

theorem OwnAt.row {w : World} {B g n : Nat} {L : List Sk} (h : OwnAt w B g n (flat L)) : SkRow w (some ⟨g, 0, none⟩) L := by
  obtain ⟨a, c, e, hr, _⟩ := row_of_own h
  simp only [Value.slice.injEq] at e
  rw [e.1]
  exact hr

/-- The part ahead of a cut. -/
theorem SkRow.take {w : World} {ao : Option Addr} {L : List Sk} (h : SkRow w ao L) (k : Nat) : SkRow w ao (L.take k) := by
  rcases h with rfl | ⟨b, off, rfl, hlt, hc⟩
  · exact .inl (by simp)
  · refine .inr ⟨b, off, rfl, hlt, fun i s hi j u hu => hc i s ?_ j u hu⟩
    rw [List.getElem?_take] at hi
    split at hi
    · exact hi
    · simp at hi

/-- The part behind a cut: at the capacity's end Go keeps the array's own address, and nothing is read. -/
theorem SkRow.drop {w : World} {g : Nat} {L : List Sk} (h : SkRow w (some ⟨g, 0, none⟩) L) (k n : Nat) (hn : n = L.length) {ao : Option Addr} (hao : ¬ n = k → ao = some ⟨g, k * 7, none⟩) : SkRow w ao (L.drop k) := by
  by_cases hkn : n = k
  · exact .inl (List.drop_eq_nil_of_le (by omega))
  · rw [hao hkn]
    rcases h with rfl | ⟨b, off, e, hlt, hc⟩
    · exact .inl (by simp)
    · simp only [Option.some.injEq, Addr.mk.injEq, and_true] at e
      obtain ⟨rfl, rfl⟩ := e
      refine .inr ⟨g, k * 7, rfl, hlt, fun i s hi j u hu => ?_⟩
      rw [List.getElem?_drop] at hi
      have := hc (k + i) s hi j u hu
      rw [show 0 + (k + i) * 7 + j = k * 7 + i * 7 + j by omega] at this
      exact this

theorem win9 (L : List Sk) (ao : Option Addr) (n c m : Nat) (w : World) (hn : Hid (n = L.length)) (hm : Hid ((unsh L).length = m)) (hL : n ≤ 1048576) (hr : SkRow w ao L) :
    Calls Trym.prog 9 #[.slice ao n c] w fun e w' => ∃ a c', e = .returned (.slice a m c') ∧ SkRow w' a (unsh L) ∧ Below w.heap.size w w' := by
  have hn' := hn.out
  have hm' := hm.out
  subst hn' hm'
  refine (win_any L ao c w hL hr).mono ?_
  rintro e w' ⟨v, rfl, hown, hb⟩
  obtain ⟨a, c', rfl, hr', _⟩ := row_of_own hown
  exact ⟨a, c', rfl, hr', hb⟩

theorem count10 (L : List Sk) (ao : Option Addr) (n c h m : Nat) (w : World) (hn : Hid (n = L.length)) (hm : Hid ((unsh (L.take h)).length = m)) (hh : h ≤ n) (hL : n ≤ 1048576) (hr : SkRow w ao L) :
    Calls Trym.prog 10 #[.slice ao n c, .int .i64 0, .int .i64 h] w fun e w' => e = .returned (.int .i64 m) ∧ w' = w := by
  have hn' := hn.out
  have hm' := hm.out
  subst hn' hm'
  exact unsh10 L ao c _ h w hh rfl hL hr

theorem unsh_false {L : List Sk} {i : Nat} {s : Sk} (h : (unsh L)[i]? = some s) : s.sh = false := by
  have := List.mem_of_getElem? h
  simpa [unsh] using (List.mem_filter.1 this).2

theorem unsh_split (L : List Sk) (k : Nat) : unsh L = unsh (L.take k) ++ unsh (L.drop k) := by
  rw [unsh, unsh, unsh, ← List.filter_append, List.take_append_drop]

end Go.Proofs.Qxb6619271aMods
