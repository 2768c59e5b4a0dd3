/-
  Winners at two skills; the thirteen ways in which two calls of installedSkill agree or part.
-/
import Derived.Test.Qxb6619271aModsA
import Derived.Test.Qxb6619271aModsC
namespace Go.Proofs.Qxb6619271aMods
open Go.RowKit

theorem list_lt2 {k : Nat} {x y s : Sk} (h : [x, y][k]? = some s) : (k = 0 ∧ s = x) ∨ (k = 1 ∧ s = y) := by
  match k, h with
  | 0, h => left; simpa using h.symm
  | 1, h => right; simpa using h.symm
  | k + 2, h => simp at h

theorem lt7 {s : Sk} {j : Nat} {u : Value} (h : s.cells[j]? = some u) : j < 7 := by
  have := (List.getElem?_eq_some_iff.1 h).1
  simpa [Sk.cells] using this

theorem row2 (W : World) (b : Nat) (hb : b = W.heap.size) (x y : Sk) :
    SkRow (W.alloc (.cells #[.int .i64 x.lv, .string x.nm, .string x.ds, .string x.fl, .bool x.sh, .string x.sd, .string x.fo, .int .i64 y.lv, .string y.nm, .string y.ds, .string y.fl, .bool y.sh, .string y.sd, .string y.fo] 31))
      (some ⟨b, 0, none⟩) [x, y] := by
  right
  refine ⟨b, 0, rfl, by simp [hb], ?_⟩
  intro k s hk j u hu
  have hj := lt7 hu
  rw [World.cell?_alloc_at _ _ _ _ hb]
  rcases list_lt2 hk with ⟨rfl, rfl⟩ | ⟨rfl, rfl⟩
  · match j, hj, hu with
    | 0, _, hu | 1, _, hu | 2, _, hu | 3, _, hu | 4, _, hu | 5, _, hu | 6, _, hu => simpa [Sk.cells] using hu
  · match j, hj, hu with
    | 0, _, hu | 1, _, hu | 2, _, hu | 3, _, hu | 4, _, hu | 5, _, hu | 6, _, hu => simpa [Sk.cells] using hu

theorem win_two (l : Int) (n ds lo d f : ByteArray) (l' : Int) (n' ds' lo' d' f' : ByteArray) (W : World) (b : Nat) (hb : b = W.heap.size) :
    Calls Trym.prog 9 #[.slice (some ⟨b, 0, none⟩) 2 2]
      (W.alloc (.cells #[.int .i64 l, .string n, .string ds, .string lo, .bool false, .string d, .string f, .int .i64 l', .string n', .string ds', .string lo', .bool false, .string d', .string f'] 31))
      fun e w' => ∃ a c, e = .returned (.slice a 2 c) ∧ Below (W.heap.size + 1) (W.alloc (.cells #[.int .i64 l, .string n, .string ds, .string lo, .bool false, .string d, .string f, .int .i64 l', .string n', .string ds', .string lo', .bool false, .string d', .string f'] 31)) w' := by
  have h := win_any [⟨l, n, ds, lo, false, d, f⟩, ⟨l', n', ds', lo', false, d', f'⟩] (some ⟨b, 0, none⟩) 2 _ (by simp) (row2 W b hb ⟨l, n, ds, lo, false, d, f⟩ ⟨l', n', ds', lo', false, d', f'⟩)
  refine h.mono ?_
  rintro e w' ⟨v, rfl, hown, hbel⟩
  simp only [unsh, List.filter_cons, List.filter_nil, Bool.not_false, if_true, List.length_cons, List.length_nil] at hown
  rw [World.size_alloc] at hbel
  rcases hown.2 with ⟨_, h0⟩ | ⟨g, cap, cur, rfl, _⟩
  · simp at h0
  · exact ⟨_, _, rfl, hbel⟩

theorem bytes_ne {a b : ByteArray} (h : ¬ a = b) : (a.toList == b.toList) = false := by
  cases e : a.toList == b.toList
  · rfl
  · have g := eq_of_beq e
    rw [ByteArray.toList_eq, ByteArray.toList_eq] at g
    exact absurd (ByteArray.ext (Array.toList_inj.1 g)) h

theorem int_ne {a b : Int} (h : ¬ a = b) : (a == b) = false := by simpa using h

/-- The thirteen ways in which two calls agree or part, in the order in which the two tests ask. -/
theorem ways (l l' : Int) (d d' f f' n n' ds ds' lo lo' : ByteArray) :
    (l == l') = false ∨
    (l = l' ∧ (d.toList == d'.toList) = false ∧ (n.toList == n'.toList) = false) ∨
    (l = l' ∧ (d.toList == d'.toList) = false ∧ n = n' ∧ (ds.toList == ds'.toList) = false) ∨
    (l = l' ∧ (d.toList == d'.toList) = false ∧ n = n' ∧ ds = ds' ∧ (lo.toList == lo'.toList) = false) ∨
    (l = l' ∧ (d.toList == d'.toList) = false ∧ n = n' ∧ ds = ds' ∧ lo = lo') ∨
    (l = l' ∧ d = d' ∧ (f.toList == f'.toList) = false ∧ (n.toList == n'.toList) = false) ∨
    (l = l' ∧ d = d' ∧ (f.toList == f'.toList) = false ∧ n = n' ∧ (ds.toList == ds'.toList) = false) ∨
    (l = l' ∧ d = d' ∧ (f.toList == f'.toList) = false ∧ n = n' ∧ ds = ds' ∧ (lo.toList == lo'.toList) = false) ∨
    (l = l' ∧ d = d' ∧ (f.toList == f'.toList) = false ∧ n = n' ∧ ds = ds' ∧ lo = lo') ∨
    (l = l' ∧ d = d' ∧ f = f' ∧ (n.toList == n'.toList) = false) ∨
    (l = l' ∧ d = d' ∧ f = f' ∧ n = n' ∧ (ds.toList == ds'.toList) = false) ∨
    (l = l' ∧ d = d' ∧ f = f' ∧ n = n' ∧ ds = ds' ∧ (lo.toList == lo'.toList) = false) ∨
    (l = l' ∧ d = d' ∧ f = f' ∧ n = n' ∧ ds = ds' ∧ lo = lo') := by
  by_cases h1 : l = l'
  · by_cases h2 : d = d'
    · by_cases h3 : f = f'
      · by_cases h4 : n = n'
        · by_cases h5 : ds = ds'
          · by_cases h6 : lo = lo'
            · simp [h1, h2, h3, h4, h5, h6]
            · have := bytes_ne h6; simp [h1, h2, h3, h4, h5, this]
          · have := bytes_ne h5; simp [h1, h2, h3, h4, this]
        · have := bytes_ne h4; simp [h1, h2, h3, this]
      · have g := bytes_ne h3
        by_cases h4 : n = n'
        · by_cases h5 : ds = ds'
          · by_cases h6 : lo = lo'
            · simp [h1, h2, h4, h5, h6, g]
            · have := bytes_ne h6; simp [h1, h2, h4, h5, this, g]
          · have := bytes_ne h5; simp [h1, h2, h4, this, g]
        · have := bytes_ne h4; simp [h1, h2, this, g]
    · have g := bytes_ne h2
      by_cases h4 : n = n'
      · by_cases h5 : ds = ds'
        · by_cases h6 : lo = lo'
          · simp [h1, h4, h5, h6, g]
          · have := bytes_ne h6; simp [h1, h4, h5, this, g]
        · have := bytes_ne h5; simp [h1, h4, this, g]
      · have := bytes_ne h4; simp [h1, this, g]
  · exact .inl (int_ne h1)

end Go.Proofs.Qxb6619271aMods
