/-
  THE WALK of FnPopDrainsInReverse (4).
-/
import Derived.Test.Qxb6605918aModsUndo
namespace Go.Proofs.Qxb6605918aMods
open Go.RowKit

set_option maxHeartbeats 1000000 in
theorem bytes11 (ao : Option Addr) (n c : Nat) (w : World) (hn : n ≤ 9223372036854775807) :
    Calls Trym.prog 11 #[.slice ao n c] w fun e w' => ∃ b, e = .returned (.bool b) ∧ w' = w := by
  go_enter Trym.func11, Trym.ntmps11
  go_wp2
  all_goals (go_ret; exact ⟨_, rfl, rfl⟩)

/-- Element i of a row of events is s. -/
def El (xs : List Value) (i : Nat) (s : Ev) : Prop := ∀ j u, s.cells[j]? = some u → xs[i * 5 + j]? = some u

theorem El.of_flat {L : List Ev} {i : Nat} {s : Ev} (h : L[i]? = some s) : El (flatE L) i s := fun _ _ hu => flatE_get h hu

theorem El.set_other {xs : List Value} {i k : Nat} {s z : Ev} (h : El xs i s) (hik : i ≠ k) : El (set5 xs (k * 5) z) i s := fun j u hu => by
  have hj := (List.getElem?_eq_some_iff.1 hu).1
  have hj5 : j < 5 := by simpa [Ev.cells] using hj
  rw [set5_other (by omega)]
  exact h j u hu

theorem El.set_same {xs : List Value} {k N : Nat} {z : Ev} (hl : xs.length = N * 5) (hk : k < N) : El (set5 xs (k * 5) z) k z := set5_same (by omega)

/-- The first m events are still there; the others have been cleared. -/
def Half (L : List Ev) (xs : List Value) (m : Nat) : Prop := (∀ i s, i < m → L[i]? = some s → El xs i s) ∧ ∀ i, m ≤ i → i < L.length → El xs i ⟨0, 0⟩

theorem Half.start (L : List Ev) : Half L (flatE L) L.length := ⟨fun _ _ _ h => El.of_flat h, fun i h1 h2 => by omega⟩

theorem Half.next {L : List Ev} {xs : List Value} {m : Nat} (h : Half L xs (m + 1)) (hl : xs.length = L.length * 5) (hm : m < L.length) : Half L (set5 xs (m * 5) ⟨0, 0⟩) m := by
  refine ⟨fun i s h1 h2 => (h.1 i s (by omega) h2).set_other (by omega), fun i h1 h2 => ?_⟩
  by_cases e : i = m
  · subst e; exact El.set_same hl h2
  · exact (h.2 i (by omega) h2).set_other e

set_option maxRecDepth 100000 in
set_option maxHeartbeats 4000000 in
theorem drain_walk (L : List Ev) (ao : Option Addr) (c : Nat) (w : World) (hm : L.length ≤ 9223372036854775807) (hr : EvRow w ao L) :
    Calls Trym.prog 4 #[.slice ao L.length c] w fun e w' => e = .returned (.bool true) ∧ Below w.heap.size w w' := by
  go_enter Trym.func4, Trym.ntmps4
  go_wp2_with fail
  refine (bytes11 ao L.length c _ hm).mono ?_
  rintro e w1 ⟨b, rfl, hw1⟩
  rw [hw1]
  clear hw1 w1
  cases b
  · go_wp2
    go_ret
    exact ⟨rfl, Below.refl _ _⟩
  by_cases hL : L.length ≤ 65536
  case neg =>
    go_wp2
    go_ret
    exact ⟨rfl, Below.refl _ _⟩
  go_wp2_with fail
  refine (build7 L ao c w (by omega) hr).mono ?_
  rintro e w2 ⟨g, cap, rfl, hown, hb2⟩
  have hb3 : Below w2.heap.size w2 (w2.alloc (.cells #[.slice (some ⟨g, 0, none⟩) L.length cap] 28)) := (Below.refl _ _).alloc (Nat.le_refl _) _
  have q3 : (w2.alloc (.cells #[.slice (some ⟨g, 0, none⟩) L.length cap] 28)).cell? ⟨w2.heap.size, 0, none⟩ = some (.slice (some ⟨g, 0, none⟩) L.length cap) := by rw [World.cell?_alloc_at _ _ _ _ rfl]; rfl
  have qf3 : (w2.alloc (.cells #[.slice (some ⟨g, 0, none⟩) L.length cap] 28)).frozen? ⟨w2.heap.size, 0, none⟩ = false := frozen_of_row _ _ _ _ _ (heap_alloc_new w2 _)
  have hs3 : w2.heap.size < (w2.alloc (.cells #[.slice (some ⟨g, 0, none⟩) L.length cap] 28)).heap.size := by simp
  have hg := hown.lt
  have hz2 := hb2.size
  have own3 : OwnE _ w.heap.size g L.length cap (flatE L) := hown.of_block (hb3.block g hg.2)
  have hst3 : St _ w.heap.size g w2.heap.size L.length cap L.length (flatE L) := ⟨own3, q3, qf3, by omega, hz2, hs3⟩
  have hB3 : Below w.heap.size w _ := hb2.trans (hb3.mono hz2)
  clear q3 qf3 hs3 own3 hown hb2 hb3 hg
  go_wp2_with fail
  generalize (w2.alloc (.cells #[.slice (some ⟨g, 0, none⟩) L.length cap] 28)) = w3 at hst3 hB3 ⊢
  generalize w2.heap.size = B at hst3 hz2 ⊢
  go_loopw [6] (fun i wr => ∃ (m : Nat) (z : Int) (xs : List Value), m ≤ L.length ∧ i = .int .i64 z ∧ Hid (z = (m : Int) - 1) ∧ St wr w.heap.size g B L.length cap m xs ∧ Half L xs m ∧ Below w.heap.size w wr) (fun i _ => (intOf i + 1).toNat)
  case atStart => exact ⟨L.length, _, _, Nat.le_refl _, rfl, rfl, hst3, Half.start L, hB3⟩
  case round =>
    clear hst3 hB3
    obtain ⟨m, z, xs, hml, rfl, hz, hst, hh, hnx⟩ := hrel
    match m with
    | 0 =>
      obtain rfl : z = -1 := by have := hz.out; omega
      clear hz
      go_wp2_with fail
      go_loopw [9] (fun i wx => ∃ k : Nat, k ≤ L.length ∧ i = .int .i64 k ∧ Below wr.heap.size wr wx) (fun i _ => L.length - (intOf i).toNat)
      case atStart => exact ⟨0, Nat.zero_le _, rfl, Below.refl _ _⟩
      case round =>
        obtain ⟨k, hk, rfl, hkx⟩ := hrel
        have hstx := hst.below hkx
        have hBx := hnx.trans (hkx.mono hnx.size)
        by_cases hlt : k < L.length
        · obtain ⟨d0, d1, d2, d3, d4⟩ := hstx.facts (s := ⟨0, 0⟩) (k := k) hlt (hh.2 k (Nat.zero_le _) hlt)
          have hi1 : (k : Int) < (L.length : Int) := by omega
          have hsz := hkx.size
          clear hst hstx hh hnx
          go_wp2_with (go_at_call 10; refine (is10b 0 0 _).mono ?_; rintro e w7 ⟨rfl, hb7⟩)
          go_roundw
          case rel => exact ⟨k + 1, by omega, by go_num, hkx.trans (hb7.mono hsz)⟩
          case measure => simp [intOf]; omega
        · go_wp2
          go_ret
          exact ⟨rfl, hBx⟩
    | m + 1 =>
      obtain rfl : z = (m : Int) := by have := hz.out; omega
      clear hz
      have hs : L[m]? = some L[m] := by simp [show m < L.length by omega]
      obtain ⟨s, hs'⟩ : ∃ s, s = L[m] := ⟨_, rfl⟩
      rw [← hs'] at hs
      go_wp2_with fail
      refine (pop9 w.heap.size g B L.length cap m xs s wr (by omega) (by omega) hst (hh.1 m s (by omega) hs)).mono ?_
      rintro e w5 ⟨rfl, hst5, hb5⟩
      have hh5 := hh.next hst.1.1 (by omega)
      have hB5 : Below w.heap.size w w5 := hnx.trans hb5
      clear hst hh hnx hb5
      obtain ⟨b, off, rfl, hbl, c0, c1⟩ := (hr.below (Nat.le_refl _) hB5).at2 hs
      have hq5 := hst5.2.1
      have hBl := hst5.2.2.2.2.2
      have hi0 : (0 : Int) ≤ (m : Int) := Int.natCast_nonneg _
      have hi1 : (m : Int) < (L.length : Int) := by omega
      clear hs hs'
      have hb6 : Below w5.heap.size w5 (w5.alloc (.cells #[.int .i64 s.t, .int .u64 s.q, .nilFunc, .pointer none, .nilIface] 33)) := (Below.refl _ _).alloc (Nat.le_refl _) _
      have hst6 := hst5.below hb6
      have hB6 := hB5.trans (hb6.mono hB5.size)
      have e0 := (hb6.cell (p := ⟨b, off + m * 2, none⟩) hbl).trans c0
      have e1 := (hb6.cell (p := ⟨b, off + m * 2 + 1, none⟩) hbl).trans c1
      have p0 : (w5.alloc (.cells #[.int .i64 s.t, .int .u64 s.q, .nilFunc, .pointer none, .nilIface] 33)).cell? ⟨w5.heap.size, 0, none⟩ = some (.int .i64 s.t) := by rw [World.cell?_alloc_at _ _ _ _ rfl]; rfl
      have p1 : (w5.alloc (.cells #[.int .i64 s.t, .int .u64 s.q, .nilFunc, .pointer none, .nilIface] 33)).cell? ⟨w5.heap.size, 1, none⟩ = some (.int .u64 s.q) := by rw [World.cell?_alloc_at _ _ _ _ rfl]; rfl
      have p2 : (w5.alloc (.cells #[.int .i64 s.t, .int .u64 s.q, .nilFunc, .pointer none, .nilIface] 33)).cell? ⟨w5.heap.size, 2, none⟩ = some .nilFunc := by rw [World.cell?_alloc_at _ _ _ _ rfl]; rfl
      have p3 : (w5.alloc (.cells #[.int .i64 s.t, .int .u64 s.q, .nilFunc, .pointer none, .nilIface] 33)).cell? ⟨w5.heap.size, 3, none⟩ = some (.pointer none) := by rw [World.cell?_alloc_at _ _ _ _ rfl]; rfl
      have p4 : (w5.alloc (.cells #[.int .i64 s.t, .int .u64 s.q, .nilFunc, .pointer none, .nilIface] 33)).cell? ⟨w5.heap.size, 4, none⟩ = some .nilIface := by rw [World.cell?_alloc_at _ _ _ _ rfl]; rfl
      have hsG : w5.heap.size < (w5.alloc (.cells #[.int .i64 s.t, .int .u64 s.q, .nilFunc, .pointer none, .nilIface] 33)).heap.size := by simp
      have hq6 := hst6.2.1
      have hBl6 := hst6.2.2.2.2.2
      have hbl6 : b < (w5.alloc (.cells #[.int .i64 s.t, .int .u64 s.q, .nilFunc, .pointer none, .nilIface] 33)).heap.size := by omega
      clear hst5 hB5 hb6 c0 c1 hq5 hBl hbl
      go_wp2_with fail
      generalize (w5.alloc (.cells #[.int .i64 s.t, .int .u64 s.q, .nilFunc, .pointer none, .nilIface] 33)) = w6 at hst6 hB6 e0 e1 p0 p1 p2 p3 p4 hsG hq6 hBl6 hbl6 ⊢
      generalize w5.heap.size = G at p0 p1 p2 p3 p4 hsG ⊢
      go_region_held3 (fun w' => w'.cell? ⟨B, 0, none⟩ = some (.slice (some ⟨g, 0, none⟩) m cap) ∧ w'.cell? ⟨G, 0, none⟩ = some (.int .i64 s.t) ∧ w'.cell? ⟨G, 1, none⟩ = some (.int .u64 s.q) ∧ w'.cell? ⟨G, 2, none⟩ = some .nilFunc ∧ w'.cell? ⟨G, 3, none⟩ = some (.pointer none) ∧ w'.cell? ⟨G, 4, none⟩ = some .nilIface ∧
          w'.cell? ⟨b, off + m * 2, none⟩ = some (.int .i64 s.t) ∧ w'.cell? ⟨b, off + m * 2 + 1, none⟩ = some (.int .u64 s.q))
        (go_keep)
        (first | (go_at_call 10; refine (is10 s.t s.q _).mono ?_; rintro e w' ⟨rfl, n, rfl⟩))
      go_wp2
      go_roundw
      case rel =>
        have hX : ∀ W, Below w6.heap.size w6 W → ∃ (m' : Nat) (z : Int) (xs : List Value), m' ≤ L.length ∧ Value.int .i64 ((m : Int) - 1) = .int .i64 z ∧ Hid (z = (m' : Int) - 1) ∧ St W w.heap.size g B L.length cap m' xs ∧ Half L xs m' ∧ Below w.heap.size w W := fun W h =>
          ⟨m, (m : Int) - 1, _, by omega, rfl, rfl, hst6.below h, hh5, hB6.trans (h.mono hB6.size)⟩
        refine hX _ ?_
        repeat (first | exact Below.refl _ _ | refine below_drewN ?_ _ | refine Below.drew ?_ | refine Below.alloc ?_ (by first | omega | (simp; done) | (simp; omega)) _)
      case measure => simp [intOf]
end Go.Proofs.Qxb6605918aMods
