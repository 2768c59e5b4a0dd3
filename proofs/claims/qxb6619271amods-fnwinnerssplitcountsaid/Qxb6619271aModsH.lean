/-
  CONTRACT: zzb1Build (8), its walk.
-/
import Derived.Test.Qxb6619271aModsG
namespace Go.Proofs.Qxb6619271aMods
open Go.RowKit

/-- What a store of element k wants of the row: its seven cells are there, and may be written. -/
theorem OwnAt.cells {w : World} {B g n : Nat} {xs : List Value} (h : OwnAt w B g n xs) (j : Nat) (hj : j < n * 7) : ∃ v, w.cell? ⟨g, j, none⟩ = some v := by
  rw [World.ownsRow.cellAt h j hj]
  have hl := h.1
  exact ⟨xs[j]'(by rw [hl]; exact hj), by simp [hl, hj]⟩

theorem OwnAt.free {w : World} {B g n : Nat} {xs : List Value} (h : OwnAt w B g n xs) (j : Nat) : w.frozen? ⟨g, j, none⟩ = false := World.ownsRow.frozenAt h j

set_option maxHeartbeats 1000000 in
theorem build8 (L : List Sk) (ao : Option Addr) (c : Nat) (w : World) (hm : L.length ≤ 1048576) (hr : SkRow w ao L) :
    Calls Trym.prog 8 #[.slice ao L.length c] w fun e w' => ∃ g, e = .returned (.slice (some ⟨g, 0, none⟩) L.length L.length) ∧ OwnAt w' w.heap.size g L.length (flat L) ∧ Below w.heap.size w w' := by
  obtain ⟨i0, hi, hz0, hz1, hz2⟩ := info_parts Trym.info31
  go_enter Trym.func8, Trym.ntmps8
  go_wp2_with (at_make; refine wpList_make_full _ rfl _ _ 26 rfl w.heap.size 31 i0 _ 7 Trym.underlying26 hi hz0 hz1 .i64 .i64 _ _ L.length rfl rfl rfl rfl (by rw [hz2]; omega) (by unfold maxLen; omega) (Nat.le_refl _) ?_; intro w1 hown1 hgrow1)
  have hbel1 : Below w.heap.size w w1 := (Below.refl _ _).grown hgrow1 (Nat.le_refl _) (fun q hq => by simp at hq)
  have hown : OwnAt w1 w.heap.size w.heap.size L.length _ := hown1
  clear hown1 hgrow1 hz0 hz1 hz2 hi
  go_loopw [4] (fun i wr => ∃ (k : Nat) (xs : List Value), k ≤ L.length ∧ i = .int .i64 k ∧ OwnAt wr w.heap.size w.heap.size L.length xs ∧ Hid (xs.take (k * 7) = flat (L.take k)) ∧ Below w.heap.size w wr) (fun i _ => L.length - (intOf i).toNat)
  case atStart => exact ⟨0, _, Nat.zero_le _, rfl, hown, rfl, hbel1⟩
  case round =>
    clear hown hbel1
    obtain ⟨k, xs, hk, rfl, hown, hx, hnx⟩ := hrel
    by_cases hlt : k < L.length
    · have hs : L[k]? = some L[k] := by simp [hlt]
      obtain ⟨b, off, rfl, hbl, c0, c1, c2, c3, c4, c5, c6⟩ := (hr.below hnx).at7 hs
      obtain ⟨s, hs'⟩ : ∃ s, s = L[k] := ⟨_, rfl⟩
      rw [← hs'] at c0 c1 c2 c3 c4 c5 c6 hs
      have HS : Hid (L[k]? = some s) := hs
      have hsz := hnx.size
      clear hs hs' hr
      go_wp2_with (go_at_call 16; refine (make16 s _).mono ?_; rintro e w2 ⟨rfl, hb2⟩; have hown2 := hown.below hb2; obtain ⟨v0, d0⟩ := hown2.cells (k * 7) (by omega); obtain ⟨v1, d1⟩ := hown2.cells (k * 7 + 1) (by omega); obtain ⟨v2, d2⟩ := hown2.cells (k * 7 + 2) (by omega); obtain ⟨v3, d3⟩ := hown2.cells (k * 7 + 3) (by omega); obtain ⟨v4, d4⟩ := hown2.cells (k * 7 + 4) (by omega); obtain ⟨v5, d5⟩ := hown2.cells (k * 7 + 5) (by omega); obtain ⟨v6, d6⟩ := hown2.cells (k * 7 + 6) (by omega); have hfr := hown2.free)
      have hx' : Hid ((set7 xs (k * 7) s).take ((k + 1) * 7) = flat (L.take (k + 1))) := set7_take hx.out (by rw [hown.1]; omega) HS.out
      have hp := hown2.put (k * 7) s
      have hbp : Below w.heap.size w (put7 w2 w.heap.size (k * 7) s) := below_put (hnx.trans (hb2.mono hsz)) (Nat.le_refl _) _ _
      go_roundw
      case rel => exact ⟨k + 1, set7 xs (k * 7) s, by omega, by go_num, hp, hx', hbp⟩
      case measure => simp [intOf]; omega
    · go_wp2
      go_ret
      have : k = L.length := by omega
      subst this
      have h7 : xs = flat L := by
        have e := hx.out
        rwa [List.take_of_length_le (by rw [hown.1]; exact Nat.le_refl _), List.take_of_length_le (Nat.le_refl _)] at e
      rw [h7] at hown
      exact ⟨_, rfl, hown, hnx⟩

end Go.Proofs.Qxb6619271aMods
