/-
  CONTRACTS: (*events).Pop (18), ZZpop (9): the last event is taken off a row of the call's own; its slot is cleared.
-/
import Derived.Test.Qxb6605918aModsEv
namespace Go.Proofs.Qxb6605918aMods
open Go.RowKit

/-- Five stores of one event's cells. -/
def put5 (w : World) (g o : Nat) (s : Ev) : World :=
  ((((w.setCell ⟨g, o, none⟩ (.int .i64 s.t)).setCell ⟨g, o + 1, none⟩ (.int .u64 s.q)).setCell ⟨g, o + 2, none⟩ .nilFunc).setCell ⟨g, o + 3, none⟩ (.pointer none)).setCell ⟨g, o + 4, none⟩ .nilIface

def set5 (xs : List Value) (o : Nat) (s : Ev) : List Value :=
  ((((xs.set o (.int .i64 s.t)).set (o + 1) (.int .u64 s.q)).set (o + 2) .nilFunc).set (o + 3) (.pointer none)).set (o + 4) .nilIface

/-- A row of N events of the call's own, at the head of block g. -/
def OwnE (w : World) (base g N cap : Nat) (xs : List Value) : Prop := w.ownsRow base 33 5 (.slice (some ⟨g, 0, none⟩) N cap) N xs

theorem OwnE.put {w : World} {base g N cap : Nat} {xs : List Value} (h : OwnE w base g N cap xs) (o : Nat) (s : Ev) : OwnE (put5 w g o s) base g N cap (set5 xs o s) :=
  (World.ownsRow.stored (World.ownsRow.stored (World.ownsRow.stored (World.ownsRow.stored (World.ownsRow.stored h o _).1 (o + 1) _).1 (o + 2) _).1 (o + 3) _).1 (o + 4) _).1

theorem OwnE.of_block {w w' : World} {base g N cap : Nat} {xs : List Value} (h : OwnE w base g N cap xs) (hb : w'.heap[g]? = w.heap[g]?) : OwnE w' base g N cap xs := by
  obtain ⟨h1, h2⟩ := h
  refine ⟨h1, ?_⟩
  rcases h2 with ⟨h2, _⟩ | ⟨g', cap', cur, hv, hg, hh, r⟩
  · simp at h2
  · simp only [Value.slice.injEq, Option.some.injEq, Addr.mk.injEq, and_true, true_and] at hv
    obtain ⟨rfl, rfl⟩ := hv
    exact .inr ⟨g, cap, cur, rfl, hg, by rw [hb]; exact hh, r⟩

theorem OwnE.lt {w : World} {base g N cap : Nat} {xs : List Value} (h : OwnE w base g N cap xs) : base ≤ g ∧ g < w.heap.size := World.ownsRow.lt h g rfl

theorem put5_block (w : World) (g o : Nat) (s : Ev) (b : Nat) (h : b ≠ g) : (put5 w g o s).heap[b]? = w.heap[b]? := by
  unfold put5
  rw [Below.heap_setCell _ _ _ _ h, Below.heap_setCell _ _ _ _ h, Below.heap_setCell _ _ _ _ h, Below.heap_setCell _ _ _ _ h, Below.heap_setCell _ _ _ _ h]

theorem put5_size (w : World) (g o : Nat) (s : Ev) : (put5 w g o s).heap.size = w.heap.size := by simp [put5, World.setCell]

/-- The queue's state: the row of N events lies in block g; the queue's own header lies in block B and says k of them. -/
def St (w : World) (base g B N cap k : Nat) (xs : List Value) : Prop :=
  OwnE w base g N cap xs ∧ w.cell? ⟨B, 0, none⟩ = some (.slice (some ⟨g, 0, none⟩) k cap) ∧ w.frozen? ⟨B, 0, none⟩ = false ∧ g ≠ B ∧ base ≤ B ∧ B < w.heap.size

theorem St.of_blocks {w w' : World} {base g B N cap k : Nat} {xs : List Value} (h : St w base g B N cap k xs) (hg : w'.heap[g]? = w.heap[g]?) (hB : w'.heap[B]? = w.heap[B]?) (hs : w.heap.size ≤ w'.heap.size) : St w' base g B N cap k xs := by
  obtain ⟨h1, h2, h3, h4, h6, h5⟩ := h
  exact ⟨h1.of_block hg, (World.cell?_of_block (w := w) (a := ⟨B, 0, none⟩) hB).trans h2, (World.frozen?_of_block (w := w) (a := ⟨B, 0, none⟩) hB).trans h3, h4, h6, Nat.lt_of_lt_of_le h5 hs⟩

theorem St.below {w w' : World} {base g B N cap k : Nat} {xs : List Value} (h : St w base g B N cap k xs) (hb : Below w.heap.size w w') : St w' base g B N cap k xs :=
  h.of_blocks (hb.block g h.1.lt.2) (hb.block B h.2.2.2.2.2) hb.size

/-- What Pop does to the state. -/
theorem St.popped {w : World} {base g B N cap k : Nat} {xs : List Value} (h : St w base g B N cap (k + 1) xs) (o : Nat) (s : Ev) (O : Obj) :
    St (((put5 w g o s).setCell ⟨B, 0, none⟩ (.slice (some ⟨g, 0, none⟩) k cap)).alloc O) base g B N cap k (set5 xs o s) := by
  obtain ⟨h1, h2, h3, h4, h6, h5⟩ := h
  have hg : g < w.heap.size := h1.lt.2
  have hBb : (put5 w g o s).heap[B]? = w.heap[B]? := put5_block w g o s B (fun e => h4 e.symm)
  have hBc := (World.cell?_of_block (w := w) (a := ⟨B, 0, none⟩) hBb).trans h2
  have hBf := (World.frozen?_of_block (w := w) (a := ⟨B, 0, none⟩) hBb).trans h3
  have hBs : B < ((put5 w g o s).setCell ⟨B, 0, none⟩ (.slice (some ⟨g, 0, none⟩) k cap)).heap.size := by simp [World.setCell, put5_size]; exact h5
  refine ⟨?_, ?_, ?_, h4, h6, ?_⟩
  · refine (h1.put o s).of_block ?_
    rw [Below.heap_alloc _ _ _ (by simp [World.setCell, put5_size]; exact hg), Below.heap_setCell _ _ _ _ h4]
  · rw [World.cell?_of_block (w := (put5 w g o s).setCell ⟨B, 0, none⟩ (.slice (some ⟨g, 0, none⟩) k cap)) (a := ⟨B, 0, none⟩) (Below.heap_alloc _ _ _ hBs)]
    simp [go_sem, hBc]
  · rw [World.frozen?_of_block (w := (put5 w g o s).setCell ⟨B, 0, none⟩ (.slice (some ⟨g, 0, none⟩) k cap)) (a := ⟨B, 0, none⟩) (Below.heap_alloc _ _ _ hBs)]
    simp [go_sem, hBf]
  · rw [World.size_alloc]; omega

theorem popped_other (w : World) (g B o : Nat) (s : Ev) (v : Value) (O : Obj) (b : Nat) (h1 : b ≠ g) (h2 : b ≠ B) (h3 : b < w.heap.size) : (((put5 w g o s).setCell ⟨B, 0, none⟩ v).alloc O).heap[b]? = w.heap[b]? := by
  rw [Below.heap_alloc _ _ _ (by simp [World.setCell, put5_size]; exact h3), Below.heap_setCell _ _ _ _ h2, put5_block _ _ _ _ _ h1]

theorem popped_size (w : World) (g B o : Nat) (s : Ev) (v : Value) (O : Obj) : (((put5 w g o s).setCell ⟨B, 0, none⟩ v).alloc O).heap.size = w.heap.size + 1 := by
  rw [World.size_alloc]; simp [World.setCell, put5_size]

set_option maxHeartbeats 1000000 in
theorem pop18 (g B k cap : Nat) (s : Ev) (w : World) (hk : k ≤ 1048576) (hkc : k + 1 ≤ cap) (hgB : g ≠ B) (hg : g < w.heap.size) (hB : B < w.heap.size)
    (hq : w.cell? ⟨B, 0, none⟩ = some (.slice (some ⟨g, 0, none⟩) (k + 1) cap)) (hqf : w.frozen? ⟨B, 0, none⟩ = false) (hfr : ∀ j, w.frozen? ⟨g, j, none⟩ = false)
    (d0 : w.cell? ⟨g, k * 5, none⟩ = some (.int .i64 s.t)) (d1 : w.cell? ⟨g, k * 5 + 1, none⟩ = some (.int .u64 s.q)) (d2 : w.cell? ⟨g, k * 5 + 2, none⟩ = some .nilFunc) (d3 : w.cell? ⟨g, k * 5 + 3, none⟩ = some (.pointer none)) (d4 : w.cell? ⟨g, k * 5 + 4, none⟩ = some .nilIface) :
    Calls Trym.prog 18 #[.pointer (some ⟨B, 0, none⟩)] w fun e w' => e = .returned (.iface 33 (.agg #[.int .i64 s.t, .int .u64 s.q, .nilFunc, .pointer none, .nilIface])) ∧
      w' = ((put5 w g (k * 5) ⟨0, 0⟩).setCell ⟨B, 0, none⟩ (.slice (some ⟨g, 0, none⟩) k cap)).alloc (.cells #[.int .i64 s.t, .int .u64 s.q, .nilFunc, .pointer none, .nilIface] 33) := by
  have hgB' : ¬ B = g := fun e => hgB e.symm
  have hgB2 : ¬ g = B := hgB
  go_enter Trym.func18, Trym.ntmps18
  go_wp2
  go_ret
  exact ⟨rfl, rfl⟩

theorem ta33 (t q : Int) (w : World) : (Instr.typeAssert (.iface 33 (.agg #[.int .i64 t, .int .u64 q, .nilFunc, .pointer none, .nilIface])) 20 33 true).run Trym.prog w = .ok (.tuple #[.agg #[.int .i64 t, .int .u64 q, .nilFunc, .pointer none, .nilIface], .bool true]) w := by kernel_rfl

attribute [local go_sem] ta33

/-- What is known of the state, in the walk's own spelling. -/
theorem St.facts {w : World} {base g B N cap k j : Nat} {xs : List Value} {s : Ev} (h : St w base g B N cap j xs) (hk : k < N) (hel : ∀ j u, s.cells[j]? = some u → xs[k * 5 + j]? = some u) :
    w.cell? ⟨g, k * 5, none⟩ = some (.int .i64 s.t) ∧ w.cell? ⟨g, k * 5 + 1, none⟩ = some (.int .u64 s.q) ∧ w.cell? ⟨g, k * 5 + 2, none⟩ = some .nilFunc ∧ w.cell? ⟨g, k * 5 + 3, none⟩ = some (.pointer none) ∧ w.cell? ⟨g, k * 5 + 4, none⟩ = some .nilIface := by
  have hc : ∀ j u, s.cells[j]? = some u → j < 5 → w.cell? ⟨g, k * 5 + j, none⟩ = some u := fun j u hu hj => (World.ownsRow.cellAt h.1 (k * 5 + j) (by omega)).trans (hel j u hu)
  exact ⟨hc 0 _ rfl (by omega), hc 1 _ rfl (by omega), hc 2 _ rfl (by omega), hc 3 _ rfl (by omega), hc 4 _ rfl (by omega)⟩

/-- What Pop leaves alone. -/
def Pops (W w1 : World) (g B : Nat) : Prop :=
  w1.os = W.os ∧ w1.tape = W.tape ∧ w1.output = W.output ∧ w1.heap.size = W.heap.size + 1 ∧ ∀ b, b ≠ g → b ≠ B → b < W.heap.size → w1.heap[b]? = W.heap[b]?

theorem below_put5 {B : Nat} {a w : World} (h : Below B a w) {g : Nat} (hg : B ≤ g) (o : Nat) (s : Ev) : Below B a (put5 w g o s) :=
  ((((h.setCell (p := ⟨g, o, none⟩) hg _).setCell (p := ⟨g, o + 1, none⟩) hg _).setCell (p := ⟨g, o + 2, none⟩) hg _).setCell (p := ⟨g, o + 3, none⟩) hg _).setCell (p := ⟨g, o + 4, none⟩) hg _

theorem popped_pops (w : World) (g B o : Nat) (s : Ev) (v : Value) (O : Obj) : Pops w (((put5 w g o s).setCell ⟨B, 0, none⟩ v).alloc O) g B := by
  have hb : Below 0 w (((put5 w g o s).setCell ⟨B, 0, none⟩ v).alloc O) := ((below_put5 (Below.refl 0 w) (Nat.zero_le g) o s).setCell (p := ⟨B, 0, none⟩) (Nat.zero_le _) v).alloc (Nat.zero_le _) O
  exact ⟨hb.os, hb.tape, hb.output, popped_size w g B o s v O, popped_other w g B o s v O⟩

theorem Pops.below {W w1 : World} {g B base : Nat} (h : Pops W w1 g B) (hg : base ≤ g) (hB : base ≤ B) (hs : base ≤ W.heap.size) : Below base W w1 :=
  ⟨h.1, h.2.1, h.2.2.1, by rw [h.2.2.2.1]; omega, fun k hk => h.2.2.2.2 k (by omega) (by omega) (by omega)⟩

theorem OwnE.cap_le {w : World} {base g N cap : Nat} {xs : List Value} (h : OwnE w base g N cap xs) : N ≤ cap := by
  rcases h.2 with ⟨h, _⟩ | ⟨g', cap', cur, h, _, _, hc, _⟩
  · simp at h
  · simp only [Value.slice.injEq] at h; omega

theorem pop18s (base g B N cap k : Nat) (xs : List Value) (s : Ev) (w : World) (hk : k < N) (hN : N ≤ 1048576) (hst : St w base g B N cap (k + 1) xs) (hel : ∀ j u, s.cells[j]? = some u → xs[k * 5 + j]? = some u) :
    Calls Trym.prog 18 #[.pointer (some ⟨B, 0, none⟩)] w fun e w' => e = .returned (.iface 33 (.agg #[.int .i64 s.t, .int .u64 s.q, .nilFunc, .pointer none, .nilIface])) ∧ St w' base g B N cap k (set5 xs (k * 5) ⟨0, 0⟩) ∧ Pops w w' g B := by
  have hNc := hst.1.cap_le
  obtain ⟨d0, d1, d2, d3, d4⟩ := hst.facts hk hel
  have hS := hst.popped (k * 5) ⟨0, 0⟩ (.cells #[.int .i64 s.t, .int .u64 s.q, .nilFunc, .pointer none, .nilIface] 33)
  have hP := popped_pops w g B (k * 5) ⟨0, 0⟩ (.slice (some ⟨g, 0, none⟩) k cap) (.cells #[.int .i64 s.t, .int .u64 s.q, .nilFunc, .pointer none, .nilIface] 33)
  have h18 := pop18 g B k cap s w (by omega) (by omega) hst.2.2.2.1 hst.1.lt.2 hst.2.2.2.2.2 hst.2.1 hst.2.2.1 (World.ownsRow.frozenAt hst.1) d0 d1 d2 d3 d4
  refine h18.mono ?_
  rintro e w' ⟨he, hw⟩
  rw [hw]
  exact ⟨he, hS, hP⟩

theorem zero_block (w : World) : (w.alloc (.cells #[.int .i64 0, .int .u64 0, .nilFunc, .pointer none, .nilIface] 33)).heap[w.heap.size]? = some (.cells #[.int .i64 0, .int .u64 0, .nilFunc, .pointer none, .nilIface] 33) := heap_alloc_new w _

set_option maxHeartbeats 1000000 in
theorem pop9 (base g B N cap k : Nat) (xs : List Value) (s : Ev) (w : World) (hk : k < N) (hN : N ≤ 1048576) (hst : St w base g B N cap (k + 1) xs) (hel : ∀ j u, s.cells[j]? = some u → xs[k * 5 + j]? = some u) :
    Calls Trym.prog 9 #[.pointer (some ⟨B, 0, none⟩)] w fun e w' => e = .returned (.tuple #[.agg #[.int .i64 s.t, .int .u64 s.q, .nilFunc, .pointer none, .nilIface], .bool true]) ∧ St w' base g B N cap k (set5 xs (k * 5) ⟨0, 0⟩) ∧ Below base w w' := by
  have hst1 := hst.below ((Below.refl _ _).alloc (Nat.le_refl _) (.cells #[.int .i64 0, .int .u64 0, .nilFunc, .pointer none, .nilIface] 33))
  obtain ⟨hgB, hbB, hB⟩ := hst.2.2.2
  obtain ⟨hbg, hg⟩ := hst.1.lt
  clear hst
  go_enter Trym.func9, Trym.ntmps9
  go_wp2_with fail
  refine (pop18s base g B N cap k xs s _ hk hN hst1 hel).mono ?_
  rintro e w1 ⟨rfl, hs1, hp⟩
  have hb1 : w1.heap[w.heap.size]? = some (.cells #[.int .i64 0, .int .u64 0, .nilFunc, .pointer none, .nilIface] 33) := (hp.2.2.2.2 w.heap.size (by omega) (by omega) (by simp)).trans (zero_block w)
  have hsz : w.heap.size < w1.heap.size := by rw [hp.2.2.2.1, World.size_alloc]; omega
  have r0 : w1.cell? ⟨w.heap.size, 0, none⟩ = some (.int .i64 0) := by rw [cell_of_row w1 _ _ _ _ (0, 0) hb1]; rfl
  have r1 : w1.cell? ⟨w.heap.size, 1, none⟩ = some (.int .u64 0) := by rw [cell_of_row w1 _ _ _ _ (0, 0) hb1]; rfl
  have r2 : w1.cell? ⟨w.heap.size, 2, none⟩ = some .nilFunc := by rw [cell_of_row w1 _ _ _ _ (0, 0) hb1]; rfl
  have r3 : w1.cell? ⟨w.heap.size, 3, none⟩ = some (.pointer none) := by rw [cell_of_row w1 _ _ _ _ (0, 0) hb1]; rfl
  have r4 : w1.cell? ⟨w.heap.size, 4, none⟩ = some .nilIface := by rw [cell_of_row w1 _ _ _ _ (0, 0) hb1]; rfl
  have rf : ∀ j, w1.frozen? ⟨w.heap.size, j, none⟩ = false := fun j => frozen_of_row w1 _ j _ _ hb1
  clear hb1 hst1
  go_wp2_with fail
  have hfin : ∀ b, b ≠ w.heap.size → b < w1.heap.size → ((put5 w1 w.heap.size 0 s).alloc (.cells #[.int .i64 s.t, .int .u64 s.q, .nilFunc, .pointer none, .nilIface] 33)).heap[b]? = w1.heap[b]? := by
    intro b h1 h2
    rw [Below.heap_alloc _ _ _ (by rw [put5_size]; exact h2), put5_block _ _ _ _ _ h1]
  have hsz2 : ((put5 w1 w.heap.size 0 s).alloc (.cells #[.int .i64 s.t, .int .u64 s.q, .nilFunc, .pointer none, .nilIface] 33)).heap.size = w1.heap.size + 1 := by rw [World.size_alloc, put5_size]
  have hS2 := hs1.of_blocks (hfin g (by omega) (by omega)) (hfin B (by omega) (by omega)) (by rw [hsz2]; omega)
  have hbel : Below base w w1 := ((Below.refl _ _).alloc (by omega) _).trans (hp.below hbg hbB (by rw [World.size_alloc]; omega))
  have hbel2 := (below_put5 hbel (g := w.heap.size) (by omega) 0 s).alloc (by rw [put5_size]; omega) (.cells #[.int .i64 s.t, .int .u64 s.q, .nilFunc, .pointer none, .nilIface] 33)
  refine bodyPost_ret (v := .tuple #[.agg #[.int .i64 s.t, .int .u64 s.q, .nilFunc, .pointer none, .nilIface], .bool true]) (by simp [results, Trym.results9, go_sem, r0, r1, r2, r3, r4, hsz]) rfl ⟨rfl, hS2, hbel2⟩

end Go.Proofs.Qxb6605918aMods
