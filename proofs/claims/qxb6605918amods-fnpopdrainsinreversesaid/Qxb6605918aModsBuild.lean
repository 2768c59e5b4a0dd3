/-
  CONTRACT: buildEvents (7): its round's append draws its order and holds a call: go_region_held3.
-/
import Derived.Test.Qxb6605918aModsPop
import Derived.Deep.RegionHeld3
import Derived.Deep.AppendLies
namespace Go.Proofs.Qxb6605918aMods
open Go.RowKit

/-- A row of events told by time and number (two cells each). -/
def EvRow (w : World) (ao : Option Addr) (L : List Ev) : Prop :=
  L = [] ∨ ∃ b off, ao = some ⟨b, off, none⟩ ∧ b < w.heap.size ∧ ∀ k s, L[k]? = some s → w.cell? ⟨b, off + k * 2, none⟩ = some (.int .i64 s.t) ∧ w.cell? ⟨b, off + k * 2 + 1, none⟩ = some (.int .u64 s.q)

theorem EvRow.below {w w' : World} {ao : Option Addr} {L : List Ev} (h : EvRow w ao L) {B : Nat} (hB : w.heap.size ≤ B) (hb : Below B w w') : EvRow w' ao L := by
  rcases h with rfl | ⟨b, off, rfl, hlt, hc⟩
  · exact .inl rfl
  · exact .inr ⟨b, off, rfl, Nat.lt_of_lt_of_le hlt hb.size, fun k s hk => ⟨(hb.cell (p := ⟨b, off + k * 2, none⟩) (by show b < B; omega)).trans (hc k s hk).1, (hb.cell (p := ⟨b, off + k * 2 + 1, none⟩) (by show b < B; omega)).trans (hc k s hk).2⟩⟩

theorem EvRow.at2 {w : World} {ao : Option Addr} {L : List Ev} (h : EvRow w ao L) {k : Nat} {s : Ev} (hk : L[k]? = some s) :
    ∃ b off, ao = some ⟨b, off, none⟩ ∧ b < w.heap.size ∧ w.cell? ⟨b, off + k * 2, none⟩ = some (.int .i64 s.t) ∧ w.cell? ⟨b, off + k * 2 + 1, none⟩ = some (.int .u64 s.q) := by
  rcases h with rfl | ⟨b, off, rfl, hlt, hc⟩
  · simp at hk
  · exact ⟨b, off, rfl, hlt, hc k s hk⟩

def flatE (L : List Ev) : List Value := L.flatMap Ev.cells

theorem flatE_snoc (L : List Ev) (s : Ev) : flatE (L ++ [s]) = flatE L ++ s.cells := by simp [flatE]

theorem take_snoc {L : List Ev} {k : Nat} {s : Ev} (h : L[k]? = some s) : L.take (k + 1) = L.take k ++ [s] := by
  simp [List.take_add_one, h]

theorem cells_oneE (s : Ev) : ∀ u ∈ s.cells, u.oneCell' = true := by
  intro u hu
  simp [Ev.cells] at hu
  rcases hu with rfl | rfl | rfl | rfl | rfl <;> rfl

theorem new_cells (w : World) (n : Nat) (cs : Array Value) (l : List Value) (t : TypeId) (hn : n = w.heap.size) (h : cs.toList = l) : ∀ j u, l[j]? = some u → (w.alloc (.cells cs t)).cell? ((⟨n, 0, none⟩ : Addr).add j) = some u := by
  intro j u hu
  subst h
  rw [Addr.add_lit, World.cell?_alloc_at _ _ _ _ hn]
  simpa using hu

/-- The cells of the one-element slice that is appended, behind a draw too. -/
theorem news2 (w : World) (X : Obj) (s : Ev) (t : TypeId) : ∀ j u, s.cells[j]? = some u → (((w.alloc X).alloc (.cells #[.int .i64 s.t, .int .u64 s.q, .nilFunc, .pointer none, .nilIface] t)).drew).cell? ((⟨w.heap.size + 1, 0, none⟩ : Addr).add j) = some u :=
  fun j u hu => new_cells (w.alloc X) (w.heap.size + 1) _ _ t (by simp) rfl j u hu

set_option maxRecDepth 100000 in
set_option maxHeartbeats 3200000 in
theorem build7 (L : List Ev) (ao : Option Addr) (c : Nat) (w : World) (hL : L.length ≤ 1048576) (hr : EvRow w ao L) :
    Calls Trym.prog 7 #[.slice ao L.length c] w fun e w' => ∃ g cap, e = .returned (.slice (some ⟨g, 0, none⟩) L.length cap) ∧ OwnE w' w.heap.size g L.length cap (flatE L) ∧ Below w.heap.size w w' := by
  obtain ⟨i0, hi, hz0, hz1, hz2⟩ := info_parts Trym.info33
  go_enter Trym.func7, Trym.ntmps7
  go_wp2_with (at_make; refine wpList_make_own _ rfl _ _ 28 rfl w.heap.size 33 i0 _ 5 Trym.underlying28 hi hz0 hz1 .i64 .i64 _ (L.length + 1) rfl rfl (by omega) (by rw [hz2]; omega) (by unfold maxLen; omega) (Nat.le_refl _) ?_; intro w1 hown1 hgrow1)
  have hbel1 : Below w.heap.size w w1 := (Below.refl _ _).grown hgrow1 (Nat.le_refl _) (fun q hq => by simp at hq)
  clear hgrow1
  go_loopw [3, 4] (fun v i wr => ∃ (k g cap : Nat), k ≤ L.length ∧ i = .int .i64 k ∧ v = .slice (some ⟨g, 0, none⟩) k cap ∧ OwnE wr w.heap.size g k cap (flatE (L.take k)) ∧ Below w.heap.size w wr) (fun _ i _ => L.length - (intOf i).toNat)
  case atStart => exact ⟨0, w.heap.size, L.length + 1, Nat.zero_le _, rfl, rfl, hown1, hbel1⟩
  case round =>
    clear hown1 hbel1
    obtain ⟨k, g, cap, hk, rfl, rfl, hown, hnx⟩ := hrel
    by_cases hlt : k < L.length
    · have hs : L[k]? = some L[k] := by simp [hlt]
      obtain ⟨b, off, rfl, hbl, c0, c1⟩ := (hr.below (Nat.le_refl _) hnx).at2 hs
      obtain ⟨s, hs'⟩ : ∃ s, s = L[k] := ⟨_, rfl⟩
      rw [← hs'] at c0 c1 hs
      have HS : Hid (L[k]? = some s) := hs
      have hbw : b < w.heap.size := by
        rcases hr with h | ⟨b', off', e, hlt', _⟩
        · subst h; simp at hlt
        · simp only [Option.some.injEq, Addr.mk.injEq] at e; rw [e.1]; exact hlt'
      have hg := hown.lt
      have hown0 : wr.ownsRow w.heap.size 33 5 (.slice (some ⟨g, 0, none⟩) k cap) k (flatE (L.take k)) := hown
      have hi0 : (0 : Int) ≤ (k : Int) := Int.natCast_nonneg _
      have hi1 : (k : Int) < (L.length : Int) := by omega
      have hsz := hnx.size
      clear hs hs' hr hown
      have hne : (some b : Option Nat) ≠ some g := by simp; omega
      go_wp2_with fail
      go_region_held3 (fun w' => w'.cell? ⟨b, off + k * 2, none⟩ = some (.int .i64 s.t) ∧ w'.cell? ⟨b, off + k * 2 + 1, none⟩ = some (.int .u64 s.q))
        (first
          | go_keep
          | (go_split_ands
             refine ⟨?_, ?_⟩
             · (rw [hgrow.cell_far _ (by simp; omega) hne]; assumption)
             · (rw [hgrow.cell_far _ (by simp; omega) hne]; assumption)))
        (first
          | (go_at_call 8; refine (new8 _ _ _).mono ?_; rintro e w' ⟨rfl, rfl⟩)
          | (refine step_append_lies _ (by rfl) _ _ _ (by rfl) w.heap.size 33 i0 _ 5 48 Trym.underlying28 hi hz0 hz1 hz2 rfl (by omega) (.slice (some ⟨g, 0, none⟩) k cap) k (flatE (L.take k)) (by rfl) (((hown0.alloc _).alloc _).drew) ⟨wr.heap.size + 1, 0, none⟩ 1 1 s.cells (by rfl) (by rfl) (news2 wr _ s 33) (cells_oneE s) (by omega) (by unfold maxLen; omega) (by omega) (by simp; omega) (wr.heap.size + 2) (by simp) ?_; intro g2 cap2 w2 hown2 hgrow hat hlt2))
      have hbel : Below w.heap.size w w2 := (((hnx.alloc hsz _).alloc (by simp; omega) _).drew).grown hgrow (by simp; omega) (fun q hq => by simp [Value.ownBlock] at hq; omega)
      rw [← flatE_snoc, ← take_snoc HS.out] at hown2
      clear hgrow hown0 hat hlt2
      go_wp2
      go_roundw
      case rel => exact ⟨k + 1, g2, cap2, by omega, by go_num, rfl, hown2, hbel⟩
      case measure => simp [intOf]; omega
    · go_wp2
      go_ret
      have : k = L.length := by omega
      subst this
      rw [List.take_of_length_le (Nat.le_refl _)] at hown
      exact ⟨_, _, rfl, hown, hnx⟩
end Go.Proofs.Qxb6605918aMods
