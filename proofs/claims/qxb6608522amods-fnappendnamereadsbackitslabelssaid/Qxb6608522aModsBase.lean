/-
  THE PLAIN DATA of the two laws over appendName: rows of bytes, rows of strings; and zzCopyBytes (6).
-/
import Derived.Test.Qxb6608522aModsRows
import Derived.WalkKit
import Derived.WalkSpells
import Derived.WalkSmall
import Derived.Deep.QuietTactic
import Derived.BigQuiet
import Derived.Lib.AppendStr
import Derived.Laws.CopyOwn
namespace Go.Proofs.Qxb6608522aMods
open Go.RowKit

/-- Bytes as cells. -/
def cellsB (Z : List Int) : List Value := Z.map (Value.int .u8)

theorem cellsB_length (Z : List Int) : (cellsB Z).length = Z.length := by simp [cellsB]
theorem cellsB_app (A B : List Int) : cellsB (A ++ B) = cellsB A ++ cellsB B := by simp [cellsB]

theorem cellsB_one (Z : List Int) : ∀ u ∈ cellsB Z, u.oneCell' = true := by
  intro u hu
  simp only [cellsB, List.mem_map] at hu
  obtain ⟨b, _, rfl⟩ := hu
  rfl

/-- A row of bytes that is read: it lies below block B. -/
def BRow (w : World) (B : Nat) (ao : Option Addr) (Z : List Int) : Prop :=
  Z = [] ∨ ∃ b off, ao = some ⟨b, off, none⟩ ∧ b < B ∧ b < w.heap.size ∧ ∀ k z, Z[k]? = some z → w.cell? ⟨b, off + k, none⟩ = some (.int .u8 z)

/-- A row of strings that is read: it lies below block B. -/
def SRow (w : World) (B : Nat) (ao : Option Addr) (L : List ByteArray) : Prop :=
  L = [] ∨ ∃ b off, ao = some ⟨b, off, none⟩ ∧ b < B ∧ b < w.heap.size ∧ ∀ k s, L[k]? = some s → w.cell? ⟨b, off + k, none⟩ = some (.string s)

theorem BRow.below {w w' : World} {B : Nat} {ao : Option Addr} {Z : List Int} (h : BRow w B ao Z) (hb : Below B w w') : BRow w' B ao Z := by
  rcases h with rfl | ⟨b, off, rfl, hlt, hs, hc⟩
  · exact .inl rfl
  · exact .inr ⟨b, off, rfl, hlt, Nat.lt_of_lt_of_le hs hb.size, fun k z hk => (hb.cell (p := ⟨b, off + k, none⟩) hlt).trans (hc k z hk)⟩

theorem SRow.below {w w' : World} {B : Nat} {ao : Option Addr} {L : List ByteArray} (h : SRow w B ao L) (hb : Below B w w') : SRow w' B ao L := by
  rcases h with rfl | ⟨b, off, rfl, hlt, hs, hc⟩
  · exact .inl rfl
  · exact .inr ⟨b, off, rfl, hlt, Nat.lt_of_lt_of_le hs hb.size, fun k z hk => (hb.cell (p := ⟨b, off + k, none⟩) hlt).trans (hc k z hk)⟩

theorem BRow.mono {w : World} {B B' : Nat} {ao : Option Addr} {Z : List Int} (h : BRow w B ao Z) (hB : B ≤ B') : BRow w B' ao Z := by
  rcases h with rfl | ⟨b, off, rfl, hlt, hs, hc⟩
  · exact .inl rfl
  · exact .inr ⟨b, off, rfl, by omega, hs, hc⟩

theorem SRow.mono {w : World} {B B' : Nat} {ao : Option Addr} {L : List ByteArray} (h : SRow w B ao L) (hB : B ≤ B') : SRow w B' ao L := by
  rcases h with rfl | ⟨b, off, rfl, hlt, hs, hc⟩
  · exact .inl rfl
  · exact .inr ⟨b, off, rfl, by omega, hs, hc⟩

theorem BRow.at1 {w : World} {B : Nat} {ao : Option Addr} {Z : List Int} (h : BRow w B ao Z) {k : Nat} {z : Int} (hk : Z[k]? = some z) :
    ∃ b off, ao = some ⟨b, off, none⟩ ∧ b < B ∧ b < w.heap.size ∧ w.cell? ⟨b, off + k, none⟩ = some (.int .u8 z) := by
  rcases h with rfl | ⟨b, off, rfl, hlt, hs, hc⟩
  · simp at hk
  · exact ⟨b, off, rfl, hlt, hs, hc k z hk⟩

theorem SRow.at1 {w : World} {B : Nat} {ao : Option Addr} {L : List ByteArray} (h : SRow w B ao L) {k : Nat} {s : ByteArray} (hk : L[k]? = some s) :
    ∃ b off, ao = some ⟨b, off, none⟩ ∧ b < B ∧ b < w.heap.size ∧ w.cell? ⟨b, off + k, none⟩ = some (.string s) := by
  rcases h with rfl | ⟨b, off, rfl, hlt, hs, hc⟩
  · simp at hk
  · exact ⟨b, off, rfl, hlt, hs, hc k s hk⟩

/-- What the call owns, as a row that is read. -/
theorem row_of_own {w : World} {base B n : Nat} {v : Value} {Z : List Int} (h : w.ownsRow base 5 1 v n (cellsB Z)) (hB : w.heap.size ≤ B) : ∃ a c, v = .slice a n c ∧ n = Z.length ∧ BRow w B a Z ∧ (a = none → n = 0) := by
  have hl := h.1
  rw [cellsB_length, Nat.mul_one] at hl
  have h' := h
  rcases h.2 with ⟨rfl, rfl⟩ | ⟨g, cap, cur, rfl, hg, hh, hc, _⟩
  · exact ⟨_, _, rfl, hl.symm, .inl (List.eq_nil_of_length_eq_zero hl), fun _ => rfl⟩
  · have hlt := (h.lt g rfl).2
    refine ⟨_, _, rfl, hl.symm, .inr ⟨g, 0, rfl, by omega, hlt, fun k z hk => ?_⟩, fun e => by simp at e⟩
    have hkl := (List.getElem?_eq_some_iff.1 hk).1
    rw [World.ownsRow.cellAt h' _ (by omega), Nat.zero_add, cellsB, List.getElem?_map, hk]
    rfl

theorem Trym.info5 : (Trym.prog.info? 5).map (fun i => (i.zero, i.size, i.bytes)) = some (some (.int .u8 0), 1, 1) := by kernel_rfl
theorem Trym.info9 : (Trym.prog.info? 9).map (fun i => (i.zero, i.size, i.bytes)) = some (some (.string ⟨#[]⟩), 1, 16) := by kernel_rfl

theorem set_take {xs : List Value} {Z : List Int} {k : Nat} {z : Int} (h : xs.take k = cellsB (Z.take k)) (hk : k < xs.length) (hz : Z[k]? = some z) : (xs.set k (.int .u8 z)).take (k + 1) = cellsB (Z.take (k + 1)) := by
  rw [List.take_add_one, List.take_set_of_le (Nat.le_refl _), h, List.take_add_one, hz]
  simp [cellsB, hk]

set_option maxHeartbeats 1000000 in
theorem copy6 (Z : List Int) (ao : Option Addr) (n c B : Nat) (w : World) (hn : Hid (n = Z.length)) (hm : n ≤ 1048576) (hao : ao = none → n = 0) (hr : BRow w B ao Z) (hB : B ≤ w.heap.size) :
    Calls Trym.prog 6 #[.slice ao n c] w fun e w' => ∃ v, e = .returned v ∧ w'.ownsRow w.heap.size 5 1 v n (cellsB Z) ∧ Below w.heap.size w w' := by
  have he := fun wx a => Lib.run_eql_slice_nil (P := Trym.prog) wx 22 5 a n c 0 0 Trym.underlying22
  obtain ⟨i0, hi, hz0, hz1, hz2⟩ := info_parts Trym.info5
  cases ao with
  | none =>
    have h0 := hao rfl
    subst h0
    have hZ : Z = [] := List.eq_nil_of_length_eq_zero hn.out.symm
    subst hZ
    clear hr hn hao
    go_enter Trym.func6, Trym.ntmps6
    go_wp2
    go_ret
    exact ⟨_, rfl, World.ownsRow_nil _ _ _ _, Below.refl _ _⟩
  | some a =>
    clear hao
    go_enter Trym.func6, Trym.ntmps6
    go_wp2_with (at_make; refine wpList_make_full _ rfl _ _ 22 rfl w.heap.size 5 i0 _ 1 Trym.underlying22 hi hz0 hz1 .i64 .i64 _ _ n rfl rfl rfl rfl (by rw [hz2]; omega) (by unfold maxLen; omega) (Nat.le_refl _) ?_; intro w1 hown1 hgrow1)
    have hbel1 : Below w.heap.size w w1 := (Below.refl _ _).grown hgrow1 (Nat.le_refl _) (fun q hq => by simp at hq)
    clear hgrow1 hi hz0 hz1 hz2 he
    go_loopw [4] (fun i wr => ∃ (k : Nat) (xs : List Value), k ≤ n ∧ i = .int .i64 k ∧ wr.ownsRow w.heap.size 5 1 (.slice (some ⟨w.heap.size, 0, none⟩) n n) n xs ∧ Hid (xs.take k = cellsB (Z.take k)) ∧ Below w.heap.size w wr) (fun i _ => n - (intOf i).toNat)
    case atStart => exact ⟨0, _, Nat.zero_le _, rfl, hown1, rfl, hbel1⟩
    case round =>
      clear hown1 hbel1
      obtain ⟨k, xs, hk, rfl, hown, hx, hnx⟩ := hrel
      by_cases hlt : k < n
      · have hs : Z[k]? = some (Z[k]'(by rw [← hn.out]; exact hlt)) := by simp
        obtain ⟨z, hz⟩ : ∃ z, z = Z[k]'(by rw [← hn.out]; exact hlt) := ⟨_, rfl⟩
        rw [← hz] at hs
        obtain ⟨b, off, ha, hbl, hbs, c0⟩ := (hr.below (hnx.mono hB)).at1 hs
        simp only [Option.some.injEq] at ha
        subst ha
        have HS : Hid (Z[k]? = some z) := hs
        have hfr := World.ownsRow.frozenAt hown k
        obtain ⟨v0, d0⟩ : ∃ v0, wr.cell? ⟨w.heap.size, k, none⟩ = some v0 := ⟨xs[k]'(by rw [hown.1]; omega), by rw [World.ownsRow.cellAt hown k (by omega)]; simp⟩
        have hki : (k : Int) < (n : Int) := by omega
        clear hs hz hr
        go_wp2
        have hx' : Hid ((xs.set k (.int .u8 z)).take (k + 1) = cellsB (Z.take (k + 1))) := set_take hx.out (by rw [hown.1]; omega) HS.out
        have hown' := (World.ownsRow.stored hown k (.int .u8 z)).1
        have hb' := hnx.setCell (p := ⟨w.heap.size, k, none⟩) (Nat.le_refl _) (.int .u8 z)
        go_roundw
        case rel => exact ⟨k + 1, _, by omega, by go_num, hown', hx', hb'⟩
        case measure => simp [intOf]; omega
      · go_wp2
        go_ret
        have hkn : k = n := by omega
        have h7 : xs = cellsB Z := by
          have e := hx.out
          rwa [List.take_of_length_le (by rw [hown.1]; omega), List.take_of_length_le (by rw [← hn.out]; omega)] at e
        rw [h7] at hown
        exact ⟨_, rfl, hown, hnx⟩

theorem copy6r (Z : List Int) (ao : Option Addr) (n c B : Nat) (w : World) (hn : Hid (n = Z.length)) (hm : n ≤ 1048576) (hao : ao = none → n = 0) (hr : BRow w B ao Z) (hB : B ≤ w.heap.size) :
    Calls Trym.prog 6 #[.slice ao n c] w fun e w' => ∃ a c', e = .returned (.slice a n c') ∧ w'.ownsRow w.heap.size 5 1 (.slice a n c') n (cellsB Z) ∧ BRow w' w'.heap.size a Z ∧ (a = none → n = 0) ∧ Below w.heap.size w w' := by
  refine (copy6 Z ao n c B w hn hm hao hr hB).mono ?_
  rintro e w' ⟨v, rfl, hown, hb⟩
  obtain ⟨a, c', rfl, _, hr', ha⟩ := row_of_own hown (Nat.le_refl _)
  exact ⟨a, c', rfl, hown, hr', ha, hb⟩

end Go.Proofs.Qxb6608522aMods
