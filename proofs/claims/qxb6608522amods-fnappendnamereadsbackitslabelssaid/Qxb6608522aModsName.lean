/-
  CONTRACTS: appendName (9), ZZappendName (7), onto nil or onto a row of the call's own.
-/
import Derived.Test.Qxb6608522aModsBase
namespace Go.Proofs.Qxb6608522aMods
open Go.RowKit

/-- A string's bytes. -/
def sB (s : ByteArray) : List Int := s.data.toList.map fun b => (b.toNat : Int)

theorem strCells_eq (s : ByteArray) : Lib.strCells s = cellsB (sB s) := by simp [Lib.strCells, cellsB, sB]

theorem sB_length (s : ByteArray) : (sB s).length = s.size := by simp [sB]

/-- The byte that is laid ahead of a label. -/
def lenB (s : ByteArray) : Int := (s.size : Int) % 256

/-- The labels, each behind its length. -/
def nameB (L : List ByteArray) : List Int := L.flatMap fun s => lenB s :: sB s

theorem nameB_snoc {L : List ByteArray} {k : Nat} {s : ByteArray} (h : L[k]? = some s) : nameB (L.take (k + 1)) = nameB (L.take k) ++ [lenB s] ++ sB s := by
  rw [List.take_add_one, h]
  simp [nameB]

/-- How long. -/
def lenN (L : List ByteArray) : Nat := (nameB L).length

theorem lenN_snoc {L : List ByteArray} {k : Nat} {s : ByteArray} (h : L[k]? = some s) : lenN (L.take (k + 1)) = lenN (L.take k) + 1 + s.size := by
  rw [lenN, nameB_snoc h, List.length_append, List.length_append, sB_length]
  rfl

theorem lenN_take_le (L : List ByteArray) (k : Nat) : lenN (L.take k) ≤ lenN L := by
  have e : nameB L = nameB (L.take k) ++ nameB (L.drop k) := by
    rw [nameB, nameB, nameB, ← List.flatMap_append, List.take_append_drop]
  rw [lenN, lenN, e, List.length_append]
  omega

set_option maxHeartbeats 2000000 in
theorem name9 (Z : List Int) (L : List ByteArray) (v : Value) (ao : Option Addr) (n c m base : Nat) (w : World) (hn : Hid (n = L.length)) (hnm : n ≤ 1048576) (hbd : m + lenN L ≤ 4194304)
    (hown : w.ownsRow base 5 1 v m (cellsB Z)) (hr : SRow w base ao L) (hB : base ≤ w.heap.size) :
    Calls Trym.prog 9 #[v, .slice ao n c] w fun e w' => ∃ v', e = .returned v' ∧ w'.ownsRow base 5 1 v' (m + lenN L + 1) (cellsB (Z ++ nameB L ++ [0])) ∧ Below base w w' := by
  obtain ⟨i0, hi, hz0, hz1, hz2⟩ := info_parts Trym.info5
  go_enter Trym.func9, Trym.ntmps9
  go_wp2
  go_loopw [0, 9] (fun v i wr => ∃ (k : Nat), k ≤ n ∧ i = .int .i64 k ∧ wr.ownsRow base 5 1 v (m + lenN (L.take k)) (cellsB (Z ++ nameB (L.take k))) ∧ Below base w wr) (fun _ i _ => n - (intOf i).toNat)
  case atStart => exact ⟨0, Nat.zero_le _, rfl, by simpa [lenN, nameB] using hown, Below.refl _ _⟩
  case round =>
    clear hown
    obtain ⟨k, hk, rfl, hown, hnx⟩ := hrel
    have hle := lenN_take_le L k
    by_cases hlt : k < n
    · have hs : L[k]? = some (L[k]'(by rw [← hn.out]; exact hlt)) := by simp
      obtain ⟨s, hs'⟩ : ∃ s, s = L[k]'(by rw [← hn.out]; exact hlt) := ⟨_, rfl⟩
      rw [← hs'] at hs
      obtain ⟨b, off, rfl, hbl, hbs, c0⟩ := (hr.below hnx).at1 hs
      have HS : Hid (L[k]? = some s) := hs
      have hls := lenN_snoc hs
      have hle2 := lenN_take_le L (k + 1)
      have hsz : s.size ≤ 4194304 := by omega
      have hbd2 : m + lenN (L.take k) + 1 + s.size ≤ 4194304 := by omega
      have HL : Hid (lenN (L.take (k + 1)) = lenN (L.take k) + 1 + s.size) := hls
      have hki : (k : Int) < (n : Int) := by omega
      have hsize := hnx.size
      clear hs hs' hr hls hle2
      go_wp2_with (at_builtin; refine wpList_append_own _ rfl (.tmp 13) (.tmp 17) 22 rfl base 5 i0 (.int .u8 0) 1 1 Trym.underlying22 hi hz0 hz1 hz2 rfl (by decide) _ _ _ rfl (hown.alloc _) ⟨wr.heap.size, 0, none⟩ 1 1 [.int .u8 ((s.size : Int) % 256)] rfl rfl ?c1 ?c2 ?c3 ?c4 ?c5 ?_)
      case c1 => exact cell_one_new _ _ _
      case c2 => intro u hu; simp at hu; subst hu; rfl
      case c3 => unfold maxLen; omega
      case c4 => omega
      case c5 => simp; omega
      intro v1 w1 hown1 hgrow1 _
      have hb1 : Below base w w1 := (hnx.alloc (by omega) _).grown hgrow1 (by simp; omega) (fun q hq => (hown.lt q hq).1)
      have hs1 := hgrow1.size
      clear hown hgrow1
      go_wp2_with (at_builtin; refine Lib.wpList_append_own_string _ rfl (.tmp 19) (.tmp 20) 22 9 rfl base 5 i0 Trym.underlying22 Trym.underlying9 hi hz0 hz1 hz2 _ _ _ rfl hown1 s rfl ?d1 ?d2 ?d3 ?_)
      case d1 => unfold maxLen; omega
      case d2 => omega
      case d3 => simp at hs1; omega
      intro v2 w2 hown2 hgrow2 _
      have hb2 : Below base w w2 := hb1.grown hgrow2 (by simp at hs1; omega) (fun q hq => (hown1.lt q hq).1)
      have hown3 : w2.ownsRow base 5 1 v2 (m + lenN (L.take (k + 1))) (cellsB (Z ++ nameB (L.take (k + 1)))) := by
        rw [HL.out, nameB_snoc HS.out, ← List.append_assoc, ← List.append_assoc, cellsB_app, cellsB_app (Z ++ nameB (L.take k)), ← strCells_eq, show m + (lenN (L.take k) + 1 + s.size) = m + lenN (L.take k) + 1 + s.size by omega, List.append_assoc]
        exact hown2
      clear hown1 hown2 hgrow2 hb1
      go_wp2
      go_roundw
      case rel => exact ⟨k + 1, by omega, by go_num, hown3, hb2⟩
      case measure => simp [intOf]; omega
    · have hkn : k = n := by omega
      have eL : L.take k = L := List.take_of_length_le (by rw [← hn.out]; omega)
      rw [eL] at hown
      have hsize := hnx.size
      clear eL hle
      go_wp2_with (at_builtin; refine wpList_append_own _ rfl (.tmp 23) (.tmp 24) 22 rfl base 5 i0 (.int .u8 0) 1 1 Trym.underlying22 hi hz0 hz1 hz2 rfl (by decide) _ _ _ rfl (hown.alloc _) ⟨wr.heap.size, 0, none⟩ 1 1 [.int .u8 0] rfl rfl ?e1 ?e2 ?e3 ?e4 ?e5 ?_)
      case e1 => exact cell_one_new _ _ _
      case e2 => intro u hu; simp at hu; subst hu; rfl
      case e3 => unfold maxLen; omega
      case e4 => omega
      case e5 => simp; omega
      intro v1 w1 hown1 hgrow1 _
      have hb1 : Below base w w1 := (hnx.alloc (by omega) _).grown hgrow1 (by simp; omega) (fun q hq => (hown.lt q hq).1)
      have hown3 : w1.ownsRow base 5 1 v1 (m + lenN L + 1) (cellsB (Z ++ nameB L ++ [0])) := by
        rw [cellsB_app]
        exact hown1
      clear hown hown1 hgrow1
      go_wp2
      go_ret
      exact ⟨_, rfl, hown3, hb1⟩

theorem name7 (Z : List Int) (L : List ByteArray) (v : Value) (ao : Option Addr) (n c m N base : Nat) (w : World) (hn : Hid (n = L.length)) (hnm : n ≤ 1048576) (hN : Hid (lenN L = N)) (hbd : m + N ≤ 4194304)
    (hown : w.ownsRow base 5 1 v m (cellsB Z)) (hr : SRow w base ao L) (hB : base ≤ w.heap.size) :
    Calls Trym.prog 7 #[v, .slice ao n c] w fun e w' => ∃ a c', e = .returned (.slice a (m + N + 1) c') ∧ BRow w' w'.heap.size a (Z ++ nameB L ++ [0]) ∧ Below base w w' := by
  have hN' := hN.out
  subst hN'
  go_enter Trym.func7, Trym.ntmps7
  go_wp2_with fail
  refine (name9 Z L v ao n c m base w hn hnm hbd hown hr hB).mono ?_
  rintro e w' ⟨v', rfl, h1, h2⟩
  obtain ⟨a, c', rfl, hl, hr', ha⟩ := row_of_own h1 (Nat.le_refl _)
  clear hl ha h1
  go_wp2
  go_ret
  exact ⟨_, _, rfl, hr', h2⟩

end Go.Proofs.Qxb6608522aMods
