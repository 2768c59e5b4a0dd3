/-
  THE WALK of FnPopUndoesPush (3); what its one append, stored back into the queue's header, leaves.
-/
import Derived.Test.Qxb6605918aModsBuild
import Derived.Deep.RegionLaw
import Derived.Deep.DeepCutAuto
namespace Go.Proofs.Qxb6605918aMods
open Go.RowKit

set_option maxHeartbeats 1000000 in
theorem bytes6 (ao : Option Addr) (n c : Nat) (t q : Int) (w : World) (hn : n ≤ 9223372036854775807) :
    Calls Trym.prog 6 #[.slice ao n c, .agg #[.int .i64 t, .int .u64 q]] w fun e w' => ∃ b, e = .returned (.bool b) ∧ Below w.heap.size w w' := by
  go_enter Trym.func6, Trym.ntmps6
  go_wp2
  all_goals (go_ret; exact ⟨_, rfl, (Below.refl _ _).alloc (Nat.le_refl _) _⟩)

theorem flatE_length (L : List Ev) : (flatE L).length = L.length * 5 := by
  induction L with
  | nil => rfl
  | cons x L ih =>
    have e : flatE (x :: L) = x.cells ++ flatE L := by simp [flatE]
    rw [e, List.length_append, ih]
    simp [Ev.cells]
    omega

theorem flatE_get {L : List Ev} {k j : Nat} {s : Ev} {u : Value} (hk : L[k]? = some s) (hu : s.cells[j]? = some u) : (flatE L)[k * 5 + j]? = some u := by
  have hj : j < 5 := by
    have := (List.getElem?_eq_some_iff.1 hu).1
    simpa [Ev.cells] using this
  induction L generalizing k with
  | nil => simp at hk
  | cons x L ih =>
    have e : flatE (x :: L) = x.cells ++ flatE L := by simp [flatE]
    have hx : x.cells.length = 5 := rfl
    rw [e]
    cases k with
    | zero =>
      simp at hk
      subst hk
      rw [List.getElem?_append_left (by omega)]
      simpa using hu
    | succ k =>
      rw [List.getElem?_append_right (by omega), hx, show (k + 1) * 5 + j - 5 = k * 5 + j by omega]
      exact ih (by simpa using hk)

theorem is10b (t q : Int) (w : World) :
    Calls Trym.prog 10 #[.agg #[.int .i64 t, .int .u64 q, .nilFunc, .pointer none, .nilIface], .int .i64 t, .int .u64 q] w fun e w' => e = .returned (.bool true) ∧ Below w.heap.size w w' := by
  refine (is10 t q w).mono ?_
  rintro e w' ⟨he, n, hw⟩
  rw [hw]
  exact ⟨he, below_drewN (((Below.refl _ _).alloc (Nat.le_refl _) _).alloc (by simp) _) _⟩

/-- An event's cells in a row some of whose events have been cleared. -/
theorem set5_other {xs : List Value} {o i : Nat} {s : Ev} (h : i < o ∨ o + 5 ≤ i) : (set5 xs o s)[i]? = xs[i]? := by
  simp only [set5, List.getElem?_set]
  simp [show ¬ o = i by omega, show ¬ o + 1 = i by omega, show ¬ o + 2 = i by omega, show ¬ o + 3 = i by omega, show ¬ o + 4 = i by omega]

theorem set5_same {xs : List Value} {o : Nat} {s : Ev} (h : o + 5 ≤ xs.length) : ∀ j u, s.cells[j]? = some u → (set5 xs o s)[o + j]? = some u := by
  intro j u hu
  have hj := (List.getElem?_eq_some_iff.1 hu).1
  have hj5 : j < 5 := by simpa [Ev.cells] using hj
  have : j = 0 ∨ j = 1 ∨ j = 2 ∨ j = 3 ∨ j = 4 := by omega
  rcases this with rfl | rfl | rfl | rfl | rfl
  all_goals
    simp only [set5, List.getElem?_set]
    simp [Ev.cells] at hu
    simp [hu, show o < xs.length by omega, show o + 1 < xs.length by omega, show o + 2 < xs.length by omega, show o + 3 < xs.length by omega, show o + 4 < xs.length by omega]

/-- What 'q = append(q, x)', stored back into the queue's own header, leaves. -/
theorem pushed {w w3 w4 : World} {base g g2 B n cap2 X : Nat} {X1 X2 : Obj} {L : List Ev} {x : Ev} {ao : Option Addr} (v : Value) (hv : v.ownBlock = some g)
    (hown : w4.ownsRow base 33 5 (.slice (some ⟨g2, 0, none⟩) (n + 1) cap2) (n + 1) (flatE L ++ x.cells)) (hgrow : (((w3.alloc X1).alloc X2).drew).grownBy w4 v.ownBlock) (hat : v.ownBlock = some g2 ∨ g2 = w3.heap.size + 2)
    (hg : base ≤ g ∧ g < B) (hB : B < w3.heap.size) (hX : X < base) (hwX : w.heap.size ≤ X)
    (qf3 : w3.frozen? ⟨B, 0, none⟩ = false) (q3 : w3.cell? ⟨B, 0, none⟩ = some v) (u0 : w3.cell? ⟨X, 0, none⟩ = some (.int .i64 x.t)) (u1 : w3.cell? ⟨X, 1, none⟩ = some (.int .u64 x.q)) (hr : EvRow w ao L) (hbel : Below w.heap.size w w3) :
    St (w4.setCell ⟨B, 0, none⟩ (.slice (some ⟨g2, 0, none⟩) (n + 1) cap2)) base g2 B (n + 1) cap2 (n + 1) (flatE (L ++ [x])) ∧ (w4.setCell ⟨B, 0, none⟩ (.slice (some ⟨g2, 0, none⟩) (n + 1) cap2)).cell? ⟨X, 0, none⟩ = some (.int .i64 x.t) ∧
      (w4.setCell ⟨B, 0, none⟩ (.slice (some ⟨g2, 0, none⟩) (n + 1) cap2)).cell? ⟨X, 1, none⟩ = some (.int .u64 x.q) ∧ EvRow (w4.setCell ⟨B, 0, none⟩ (.slice (some ⟨g2, 0, none⟩) (n + 1) cap2)) ao L ∧ Below w.heap.size w (w4.setCell ⟨B, 0, none⟩ (.slice (some ⟨g2, 0, none⟩) (n + 1) cap2)) := by
  rw [hv] at hat hgrow
  have hgB : g2 ≠ B := by
    rcases hat with h | h
    · simp at h; omega
    · omega
  have hs4 : w3.heap.size + 2 ≤ w4.heap.size := by have := hgrow.size; simpa using this
  have hb4 : Below base w3 w4 := (((Below.refl base w3).alloc (by omega) X1).alloc (by simp; omega) X2).drew.grown hgrow (by simp; omega) (fun q hq => by simp at hq; omega)
  have hblk : ∀ b, b < w3.heap.size → b ≠ g → w4.heap[b]? = w3.heap[b]? := fun b h1 h2 => by
    rw [hgrow.block b (by simp; omega) (by simp; exact h2)]
    show ((w3.alloc X1).alloc X2).heap[b]? = _
    rw [Below.heap_alloc _ _ _ (by simp; omega), Below.heap_alloc _ _ _ h1]
  have hBc := (World.cell?_of_block (w := w3) (a := ⟨B, 0, none⟩) (hblk B hB (by omega))).trans q3
  have hBf := (World.frozen?_of_block (w := w3) (a := ⟨B, 0, none⟩) (hblk B hB (by omega))).trans qf3
  have hset : Below B w4 (w4.setCell ⟨B, 0, none⟩ (.slice (some ⟨g2, 0, none⟩) (n + 1) cap2)) := (Below.refl B w4).setCell (p := ⟨B, 0, none⟩) (Nat.le_refl _) _
  have hXb : Below base w3 (w4.setCell ⟨B, 0, none⟩ (.slice (some ⟨g2, 0, none⟩) (n + 1) cap2)) := hb4.trans (hset.mono (by omega))
  have hbe : Below w.heap.size w (w4.setCell ⟨B, 0, none⟩ (.slice (some ⟨g2, 0, none⟩) (n + 1) cap2)) := hbel.trans (hXb.mono (by omega))
  refine ⟨⟨?_, ?_, ?_, hgB, by omega, ?_⟩, (hXb.cell (p := ⟨X, 0, none⟩) hX).trans u0, (hXb.cell (p := ⟨X, 1, none⟩) hX).trans u1, hr.below (Nat.le_refl _) hbe, hbe⟩
  · rw [flatE_snoc]
    exact OwnE.of_block (w := w4) hown (Below.heap_setCell _ _ _ _ hgB)
  · simp [go_sem, hBc]
  · simp [go_sem, hBf]
  · show B < (w4.setCell _ _).heap.size
    have := hset.size
    omega

set_option maxRecDepth 100000 in
set_option maxHeartbeats 4000000 in
theorem undo_walk (L : List Ev) (ao : Option Addr) (c : Nat) (x : Ev) (w : World) (hm : L.length ≤ 9223372036854775807) (hr : EvRow w ao L) :
    Calls Trym.prog 3 #[.slice ao L.length c, .agg #[.int .i64 x.t, .int .u64 x.q]] w fun e w' => e = .returned (.bool true) ∧ Below w.heap.size w w' := by
  have hb0 : Below w.heap.size w (w.alloc (.cells #[.int .i64 x.t, .int .u64 x.q] 25)) := (Below.refl _ _).alloc (Nat.le_refl _) _
  have x0 : (w.alloc (.cells #[.int .i64 x.t, .int .u64 x.q] 25)).cell? ⟨w.heap.size, 0, none⟩ = some (.int .i64 x.t) := by rw [World.cell?_alloc_at _ _ _ _ rfl]; rfl
  have x1 : (w.alloc (.cells #[.int .i64 x.t, .int .u64 x.q] 25)).cell? ⟨w.heap.size, 1, none⟩ = some (.int .u64 x.q) := by rw [World.cell?_alloc_at _ _ _ _ rfl]; rfl
  go_enter Trym.func3, Trym.ntmps3
  go_wp2_with fail
  refine (bytes6 ao L.length c x.t x.q _ hm).mono ?_
  rintro e w1 ⟨b, rfl, hb1⟩
  have hB1 : Below w.heap.size w w1 := hb0.trans (hb1.mono hb0.size)
  cases b
  · go_wp2
    go_ret
    exact ⟨rfl, hB1⟩
  have hx0 : w1.cell? ⟨w.heap.size, 0, none⟩ = some (.int .i64 x.t) := (hb1.cell (p := ⟨w.heap.size, 0, none⟩) (by simp)).trans x0
  have hx1 : w1.cell? ⟨w.heap.size, 1, none⟩ = some (.int .u64 x.q) := (hb1.cell (p := ⟨w.heap.size, 1, none⟩) (by simp)).trans x1
  have hz1 : w.heap.size < w1.heap.size := by have := hb1.size; simp at this; omega
  clear x0 x1 hb0 hb1
  by_cases hL : L.length ≤ 65536
  case neg =>
    go_wp2
    go_ret
    exact ⟨rfl, hB1⟩
  have hr1 := hr.below (Nat.le_refl _) hB1
  go_wp2_with fail
  refine (build7 L ao c w1 (by omega) hr1).mono ?_
  rintro e w2 ⟨g, cap, rfl, hown, hb2⟩
  have hy0 : w2.cell? ⟨w.heap.size, 0, none⟩ = some (.int .i64 x.t) := (hb2.cell (p := ⟨w.heap.size, 0, none⟩) hz1).trans hx0
  have hy1 : w2.cell? ⟨w.heap.size, 1, none⟩ = some (.int .u64 x.q) := (hb2.cell (p := ⟨w.heap.size, 1, none⟩) hz1).trans hx1
  have hz2 : w1.heap.size ≤ w2.heap.size := hb2.size
  have hB2 : Below w.heap.size w w2 := hB1.trans (hb2.mono hB1.size)
  have hr2 := hr1.below (Nat.le_refl _) hb2
  have hxlt : w.heap.size < w2.heap.size := by omega
  clear hr1 hx0 hx1 hB1
  have hb3 : Below w2.heap.size w2 (w2.alloc (.cells #[.slice (some ⟨g, 0, none⟩) L.length cap] 28)) := (Below.refl _ _).alloc (Nat.le_refl _) _
  have q3 : (w2.alloc (.cells #[.slice (some ⟨g, 0, none⟩) L.length cap] 28)).cell? ⟨w2.heap.size, 0, none⟩ = some (.slice (some ⟨g, 0, none⟩) L.length cap) := by rw [World.cell?_alloc_at _ _ _ _ rfl]; rfl
  have qf3 : (w2.alloc (.cells #[.slice (some ⟨g, 0, none⟩) L.length cap] 28)).frozen? ⟨w2.heap.size, 0, none⟩ = false := frozen_of_row _ _ _ _ _ (heap_alloc_new w2 _)
  have hs3 : w2.heap.size < (w2.alloc (.cells #[.slice (some ⟨g, 0, none⟩) L.length cap] 28)).heap.size := by simp
  have u0 := (hb3.cell (p := ⟨w.heap.size, 0, none⟩) hxlt).trans hy0
  have u1 := (hb3.cell (p := ⟨w.heap.size, 1, none⟩) hxlt).trans hy1
  have hg := hown.lt
  have own3 : OwnE _ w1.heap.size g L.length cap (flatE L) := hown.of_block (hb3.block g hg.2)
  have hr3 := hr2.below (Nat.le_refl _) hb3
  have hB3 : Below w.heap.size w _ := hB2.trans (hb3.mono hB2.size)
  clear hy0 hy1 hb2 hr2 hB2 hown hb3
  go_wp2_with fail
  generalize (w2.alloc (.cells #[.slice (some ⟨g, 0, none⟩) L.length cap] 28)) = w3 at q3 qf3 hs3 u0 u1 own3 hr3 hB3 ⊢
  generalize w2.heap.size = B at q3 qf3 hs3 hz2 hxlt hg ⊢
  obtain ⟨i0, hi, hz0, hzz1, hzz2⟩ := info_parts Trym.info33
  have own0 : w3.ownsRow w1.heap.size 33 5 (.slice (some ⟨g, 0, none⟩) L.length cap) L.length (flatE L) := own3
  have hneB : (some B : Option Nat) ≠ some g := by simp; omega
  have hneX : (some w.heap.size : Option Nat) ≠ some g := by simp; omega
  have hX3 : w.heap.size < w3.heap.size := by omega
  clear own3
  go_cut [] (fun wc => ∃ g2 cap2, St wc w1.heap.size g2 B (L.length + 1) cap2 (L.length + 1) (flatE (L ++ [x])) ∧ wc.cell? ⟨w.heap.size, 0, none⟩ = some (.int .i64 x.t) ∧ wc.cell? ⟨w.heap.size, 1, none⟩ = some (.int .u64 x.q) ∧ EvRow wc ao L ∧ Below w.heap.size w wc)
  case first =>
    go_region_law
      (first
        | (refine step_append_lies _ (by rfl) _ _ _ (by rfl) w1.heap.size 33 i0 _ 5 48 Trym.underlying28 hi hz0 hzz1 hzz2 rfl (by omega) (.slice (some ⟨g, 0, none⟩) L.length cap) L.length (flatE L) (by rfl) (((own0.alloc _).alloc _).drew) ⟨w3.heap.size + 1, 0, none⟩ 1 1 x.cells (by rfl) (by rfl) (news2 w3 _ x 33) (cells_oneE x) (by omega) (by unfold maxLen; omega) (by omega) (by simp; omega) (w3.heap.size + 2) (by simp) ?_; intro g2 cap2 w4 hown4 hgrow hat hlt4; have qf4 : w4.frozen? ⟨B, 0, none⟩ = false := (hgrow.frozen_far ⟨B, 0, none⟩ (by simp; omega) hneB).trans (by simp [go_sem, hs3, qf3]); have q4 : w4.cell? ⟨B, 0, none⟩ = some (.slice (some ⟨g, 0, none⟩) L.length cap) := (hgrow.cell_far ⟨B, 0, none⟩ (by simp; omega) hneB).trans (by simp [go_sem, hs3, q3]); have u40 : w4.cell? ⟨w.heap.size, 0, none⟩ = some (.int .i64 x.t) := (hgrow.cell_far ⟨w.heap.size, 0, none⟩ (by simp; omega) hneX).trans (by simp [go_sem, hX3, u0]); have u41 : w4.cell? ⟨w.heap.size, 1, none⟩ = some (.int .u64 x.q) := (hgrow.cell_far ⟨w.heap.size, 1, none⟩ (by simp; omega) hneX).trans (by simp [go_sem, hX3, u1]))
        | (go_simp; go_at_call 8; refine (new8 _ _ _).mono ?_; rintro e w' ⟨rfl, rfl⟩))
    all_goals
      go_wp2_with fail
      go_meet
      exact ⟨g2, cap2, pushed (.slice (some ⟨g, 0, none⟩) L.length cap) rfl hown4 hgrow hat ⟨hg.1, hg.2⟩ hs3 hz1 (Nat.le_refl _) qf3 q3 u0 u1 hr hB3⟩
  case rest =>
    obtain ⟨g2, cap2, hst, ux0, ux1, hrc, hBc⟩ := hcut
    have hq := hst.2.1
    clear hrc own0 q3 qf3 hs3 u0 u1 hr3 hB3 hi hz0 hzz1 hzz2 hneB hneX hX3
    go_wp2_with fail
    have hel : ∀ j u, x.cells[j]? = some u → (flatE (L ++ [x]))[L.length * 5 + j]? = some u := fun j u hu => flatE_get (by simp) hu
    refine (pop9 w1.heap.size g2 B (L.length + 1) cap2 L.length (flatE (L ++ [x])) x wc (by omega) (by omega) hst hel).mono ?_
    rintro e w5 ⟨rfl, hst5, hb5⟩
    have hv0 := (hb5.cell (p := ⟨w.heap.size, 0, none⟩) hz1).trans ux0
    have hv1 := (hb5.cell (p := ⟨w.heap.size, 1, none⟩) hz1).trans ux1
    have hB5 : Below w.heap.size w w5 := hBc.trans (hb5.mono (by omega))
    have hX5 : w.heap.size < w5.heap.size := by have := hst5.1.lt; omega
    have hq5 := hst5.2.1
    have hlB5 := hst5.2.2.2.2.2
    clear hel hst hq hb5 hBc ux0 ux1
    go_wp2_with fail
    refine (is10b x.t x.q _).mono ?_
    rintro e w6 ⟨rfl, hb6⟩
    have hb56 : Below w5.heap.size w5 w6 := ((Below.refl _ _).alloc (Nat.le_refl _) _).trans (hb6.mono (by simp))
    have hst6 := hst5.below hb56
    have hB6 := hB5.trans (hb56.mono hB5.size)
    have hq6 := hst6.2.1
    have hr6 := hr.below (Nat.le_refl _) hB6
    clear hb6 hb56 hst5 hB5 hv0 hv1 hX5 hq5 hlB5
    go_wp2_with fail
    go_loopw [10] (fun i wr => ∃ k : Nat, k ≤ L.length ∧ i = .int .i64 k ∧ Below w6.heap.size w6 wr) (fun i _ => L.length - (intOf i).toNat)
    case atStart => exact ⟨0, Nat.zero_le _, rfl, Below.refl _ _⟩
    case round =>
      obtain ⟨k, hk, rfl, hnx⟩ := hrel
      have hstr := hst6.below hnx
      have hBr := hB6.trans (hnx.mono hB6.size)
      have hqr := hstr.2.1
      clear hst6 hq6 hr6
      by_cases hlt : k < L.length
      · have hs : L[k]? = some L[k] := by simp [hlt]
        obtain ⟨s, hs'⟩ : ∃ s, s = L[k] := ⟨_, rfl⟩
        rw [← hs'] at hs
        obtain ⟨b, off, rfl, hbl, c0, c1⟩ := (hr.below (Nat.le_refl _) hBr).at2 hs
        have hel : ∀ j u, s.cells[j]? = some u → (set5 (flatE (L ++ [x])) (L.length * 5) ⟨0, 0⟩)[k * 5 + j]? = some u := fun j u hu => by
          have hj := (List.getElem?_eq_some_iff.1 hu).1
          have hj5 : j < 5 := by simpa [Ev.cells] using hj
          rw [set5_other (by omega)]
          exact flatE_get (by rw [List.getElem?_append_left hlt]; exact hs) hu
        obtain ⟨d0, d1, d2, d3, d4⟩ := hstr.facts (by omega) hel
        have hi0 : (0 : Int) ≤ (k : Int) := Int.natCast_nonneg _
        have hi1 : (k : Int) < (L.length : Int) := by omega
        have hgl := hstr.1.lt.2
        have hBl := hstr.2.2.2.2.2
        clear hs hs' hel hstr hr
        go_wp2_with fail
        go_region_held3 (fun w' => w'.cell? ⟨B, 0, none⟩ = some (.slice (some ⟨g2, 0, none⟩) L.length cap2) ∧ w'.cell? ⟨g2, k * 5, none⟩ = some (.int .i64 s.t) ∧ w'.cell? ⟨g2, k * 5 + 1, none⟩ = some (.int .u64 s.q) ∧ w'.cell? ⟨g2, k * 5 + 2, none⟩ = some .nilFunc ∧ w'.cell? ⟨g2, k * 5 + 3, none⟩ = some (.pointer none) ∧ w'.cell? ⟨g2, k * 5 + 4, none⟩ = some .nilIface ∧
            w'.cell? ⟨b, off + k * 2, none⟩ = some (.int .i64 s.t) ∧ w'.cell? ⟨b, off + k * 2 + 1, none⟩ = some (.int .u64 s.q))
          (go_keep)
          (first | (go_at_call 10; refine (is10 s.t s.q _).mono ?_; rintro e w' ⟨rfl, n, rfl⟩))
        go_wp2
        go_roundw
        case rel =>
          refine ⟨k + 1, by omega, by go_num, ?_⟩
          have hsz := hnx.size
          repeat (first | exact hnx | refine below_drewN ?_ _ | refine Below.drew ?_ | refine Below.alloc ?_ (by first | omega | (simp; omega)) _)
        case measure => simp [intOf]; omega
      · have hel : ∀ j u, (⟨0, 0⟩ : Ev).cells[j]? = some u → (set5 (flatE (L ++ [x])) (L.length * 5) ⟨0, 0⟩)[L.length * 5 + j]? = some u := set5_same (by rw [flatE_length]; simp; omega)
        obtain ⟨d0, d1, d2, d3, d4⟩ := hstr.facts (s := ⟨0, 0⟩) (k := L.length) (by omega) hel
        have hi1 : (L.length : Int) < (L.length : Int) + 1 := by omega
        clear hel hstr hr
        go_wp2_with fail
        refine (is10b 0 0 _).mono ?_
        rintro e w7 ⟨rfl, hb7⟩
        go_wp2
        go_ret
        exact ⟨rfl, hBr.trans (hb7.mono hBr.size)⟩
end Go.Proofs.Qxb6605918aMods
