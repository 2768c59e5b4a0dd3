/-
  CONTRACT: level.Winners (9): of a row of skills that is read it makes a row of its own that holds those not marked Shadowed, in order.
-/
import Derived.Test.Qxb6619271aModsB
namespace Go.Proofs.Qxb6619271aMods
open Go.RowKit

def SkRow (w : World) (ao : Option Addr) (L : List Sk) : Prop :=
  L = [] ∨ ∃ b off, ao = some ⟨b, off, none⟩ ∧ b < w.heap.size ∧ ∀ k s, L[k]? = some s → ∀ j u, s.cells[j]? = some u → w.cell? ⟨b, off + k * 7 + j, none⟩ = some u

def unsh (L : List Sk) : List Sk := L.filter fun s => !s.sh

def flat (L : List Sk) : List Value := L.flatMap Sk.cells

theorem unsh_take_le (L : List Sk) (k : Nat) : (unsh (L.take k)).length ≤ k :=
  Nat.le_trans (List.length_filter_le _ _) (List.length_take_le _ _)

theorem unsh_keep {L : List Sk} {k : Nat} {s : Sk} (h : L[k]? = some s) (hs : s.sh = false) : unsh (L.take (k + 1)) = unsh (L.take k) ++ [s] := by
  simp [unsh, List.take_add_one, h, hs]

theorem unsh_drop {L : List Sk} {k : Nat} {s : Sk} (h : L[k]? = some s) (hs : s.sh = true) : unsh (L.take (k + 1)) = unsh (L.take k) := by
  simp [unsh, List.take_add_one, h, hs]

theorem flat_snoc (L : List Sk) (s : Sk) : flat (L ++ [s]) = flat L ++ s.cells := by simp [flat]

theorem cells7 {w : World} {b o : Nat} {s : Sk} (h : ∀ j u, s.cells[j]? = some u → w.cell? ⟨b, o + j, none⟩ = some u) :
    w.cell? ⟨b, o, none⟩ = some (.int .i64 s.lv) ∧ w.cell? ⟨b, o + 1, none⟩ = some (.string s.nm) ∧ w.cell? ⟨b, o + 2, none⟩ = some (.string s.ds) ∧ w.cell? ⟨b, o + 3, none⟩ = some (.string s.fl) ∧
    w.cell? ⟨b, o + 4, none⟩ = some (.bool s.sh) ∧ w.cell? ⟨b, o + 5, none⟩ = some (.string s.sd) ∧ w.cell? ⟨b, o + 6, none⟩ = some (.string s.fo) :=
  ⟨h 0 _ rfl, h 1 _ rfl, h 2 _ rfl, h 3 _ rfl, h 4 _ rfl, h 5 _ rfl, h 6 _ rfl⟩

theorem cells_one (s : Sk) : ∀ u ∈ s.cells, u.oneCell' = true := by
  intro u hu
  simp [Sk.cells] at hu
  rcases hu with rfl | rfl | rfl | rfl | rfl | rfl | rfl <;> rfl

theorem new_cells (w : World) (n : Nat) (cs : Array Value) (l : List Value) (t : TypeId) (hn : n = w.heap.size) (h : cs.toList = l) : ∀ j u, l[j]? = some u → (w.alloc (.cells cs t)).cell? ((⟨n, 0, none⟩ : Addr).add j) = some u := by
  intro j u hu
  subst h
  rw [Addr.add_lit, World.cell?_alloc_at _ _ _ _ hn]
  simpa using hu

theorem Trym.info31 : (Trym.prog.info? 31).map (fun i => (i.zero, i.size, i.bytes)) = some (some (.agg #[.int .i64 0, .string ⟨#[]⟩, .string ⟨#[]⟩, .string ⟨#[]⟩, .bool false, .string ⟨#[]⟩, .string ⟨#[]⟩]), 7, 96) := by kernel_rfl

set_option maxHeartbeats 1000000 in
theorem win_any (L : List Sk) (ao : Option Addr) (c : Nat) (w : World) (hL : L.length ≤ 1048576) (hr : SkRow w ao L) :
    Calls Trym.prog 9 #[.slice ao L.length c] w fun e w' => ∃ v, e = .returned v ∧ w'.ownsRow w.heap.size 31 7 v (unsh L).length (flat (unsh L)) ∧ Below w.heap.size w w' := by
  obtain ⟨i0, hi, hz0, hz1, hz2⟩ := info_parts Trym.info31
  go_enter Trym.func9, Trym.ntmps9
  go_wp2
  go_loopw [3, 8] (fun v i wr => ∃ k : Nat, k ≤ L.length ∧ i = .int .i64 k ∧ wr.ownsRow w.heap.size 31 7 v (unsh (L.take k)).length (flat (unsh (L.take k))) ∧ Below w.heap.size w wr) (fun _ i _ => L.length - (intOf i).toNat)
  case atStart => exact ⟨0, Nat.zero_le _, rfl, World.ownsRow_nil _ _ _ _, Below.refl _ _⟩
  case round =>
    obtain ⟨k, hk, rfl, hown, hnx⟩ := hrel
    by_cases hlt : k < L.length
    · rcases hr with rfl | ⟨b, off, rfl, hb, hcl⟩
      · simp at hlt
      obtain ⟨s, hs⟩ : ∃ s, L[k]? = some s := ⟨L[k], by simp [hlt]⟩
      have hcl' : ∀ j u, s.cells[j]? = some u → wr.cell? ⟨b, off + k * 7 + j, none⟩ = some u := fun j u hu => (hnx.cell hb).trans (hcl k s hs j u hu)
      obtain ⟨c0, c1, c2, c3, c4, c5, c6⟩ := cells7 hcl'
      have HS : Hid (L[k]? = some s) := hs
      have hsz := hnx.size
      have hle := unsh_take_le L k
      clear hs hcl hcl'
      cases hsh : s.sh
      · rw [hsh] at c4
        have hcs : s.cells = [.int .i64 s.lv, .string s.nm, .string s.ds, .string s.fl, .bool false, .string s.sd, .string s.fo] := by simp [Sk.cells, hsh]
        have HT : Hid (s.sh = false) := hsh
        have HC : Hid (s.cells = [.int .i64 s.lv, .string s.nm, .string s.ds, .string s.fl, .bool false, .string s.sd, .string s.fo]) := hcs
        clear hsh hcs
        go_wp2_with (at_builtin; refine wpList_append_own _ rfl _ _ 26 rfl w.heap.size 31 i0 _ 7 96 Trym.underlying26 hi hz0 hz1 hz2 rfl (by decide) _ _ _ rfl ((hown.alloc _).alloc _) ⟨wr.heap.size + 1, 0, none⟩ 1 1 s.cells rfl rfl ?c1 ?c2 ?c3 ?c4 ?c5 ?_)
        case c1 => intro j u hu; rw [HC.out] at hu; exact new_cells _ _ _ _ _ (by simp) rfl j u hu
        case c2 => exact cells_one s
        case c3 => unfold maxLen; omega
        case c4 => omega
        case c5 => simp; omega
        intro v' w1 hown' hgrow _
        have hbel : Below w.heap.size w w1 := ((hnx.alloc hsz _).alloc (by simp; omega) _).grown hgrow (by simp; omega) (fun q hq => ((hown.lt q hq).1))
        rw [← flat_snoc, ← unsh_keep HS.out HT.out] at hown'
        clear hown hgrow
        go_wp2
        go_roundw
        case rel => exact ⟨k + 1, by omega, by go_num, by rw [unsh_keep HS.out HT.out] at hown' ⊢; simpa using hown', hbel⟩
        case measure => simp [intOf]; omega
      · rw [hsh] at c4
        have HT : Hid (s.sh = true) := hsh
        clear hsh
        go_wp2
        go_roundw
        case rel => exact ⟨k + 1, by omega, by go_num, by rw [unsh_drop HS.out HT.out]; exact hown.alloc _, hnx.alloc hsz _⟩
        case measure => simp [intOf]; omega
    · go_wp2
      go_ret
      rw [List.take_of_length_le (by omega)] at hown
      exact ⟨_, rfl, hown, hnx⟩
end Go.Proofs.Qxb6619271aMods
