/-
  CONTRACTS for FnWinnersInsert: zzBytes_FnWinnersInsert (14), zzb1Same (17) at two rows of the same skills.
-/
import Derived.Test.Qxb6619271aModsI
import Derived.WalkSmall
namespace Go.Proofs.Qxb6619271aMods
open Go.RowKit

set_option maxRecDepth 100000 in
set_option maxHeartbeats 4000000 in
theorem bytes14 (L : List Sk) (ao : Option Addr) (c : Nat) (k0 : Int) (x : Sk) (w : World) (hm : L.length ≤ 9223372036854775807) (hr : SkRow w ao L) :
    Calls Trym.prog 14 #[.slice ao L.length c, .int .i64 k0, .agg #[.int .i64 x.lv, .string x.nm, .string x.ds, .string x.fl, .bool x.sh, .string x.sd, .string x.fo]] w fun e w' => OkB L.length e ∧ Below w.heap.size w w' := by
  have hbel : ∀ o, Below w.heap.size w (w.alloc o) := fun o => (Below.refl _ _).alloc (Nat.le_refl _) o
  by_cases hL : L.length ≤ 1048576
  · go_enter Trym.func14, Trym.ntmps14
    go_wp2
    go_loop [7, 8] (fun z i => ∃ (k : Nat) (q : Int), k ≤ L.length ∧ i = .int .i64 k ∧ z = .int .i64 q) (fun _ i => L.length - (intOf i).toNat)
    case atStart => exact ⟨0, _, Nat.zero_le _, rfl, rfl⟩
    case round =>
      obtain ⟨k, q, hk, rfl, rfl⟩ := hrel
      by_cases hlt : k < L.length
      · obtain ⟨b, off, rfl, hbl, c0, c1, c2, c3, c4, c5, c6⟩ := hr.at7 (k := k) (s := L[k]) (by simp [hlt])
        obtain ⟨s, hs⟩ : ∃ s, s = L[k] := ⟨_, rfl⟩
        rw [← hs] at c0 c1 c2 c3 c4 c5 c6
        clear hs hr
        go_wp2
        all_goals first
          | (go_ret; exact ⟨⟨_, rfl, fun _ => hL⟩, hbel _⟩)
          | (go_round; (case rel => exact ⟨k + 1, _, by omega, by go_num, rfl⟩); (case measure => simp [intOf]; omega))
      · go_wp2
        all_goals (go_ret; exact ⟨⟨_, rfl, fun _ => hL⟩, hbel _⟩)
  · go_enter Trym.func14, Trym.ntmps14
    go_wp2
    go_ret
    exact ⟨⟨false, rfl, fun h => by simp at h⟩, hbel _⟩

/-- The check on lengths answers a total and a Bool; where it says yes there are at most 4096 elements. -/
def OkFit (n : Nat) (e : Ending) : Prop := ∃ t b, e = .returned (.tuple #[.int .i64 t, .bool b]) ∧ (b = true → n ≤ 4096)

set_option maxHeartbeats 1000000 in
theorem fit7b (L : List Sk) (ao : Option Addr) (c : Nat) (t0 : Int) (w : World) (hm : L.length ≤ 9223372036854775807) (hr : SkRow w ao L) :
    Calls Trym.prog 7 #[.int .i64 t0, .slice ao L.length c] w fun e w' => OkFit L.length e ∧ Below w.heap.size w w' := by
  by_cases hL : L.length ≤ 4096
  · refine (fit7 L ao c t0 w hm hr).mono ?_
    rintro e w' ⟨t, b, rfl, hb⟩
    exact ⟨⟨t, b, rfl, fun _ => hL⟩, hb⟩
  · go_enter Trym.func7, Trym.ntmps7
    go_wp2
    go_ret2
    exact ⟨⟨_, false, rfl, fun h => by simp at h⟩, Below.refl _ _⟩

set_option maxHeartbeats 1000000 in
theorem same17 (L : List Sk) (a b : Option Addr) (n c c' : Nat) (w : World) (hn : Hid (n = L.length)) (hL : n ≤ 1048577) (ha : SkRow w a L) (hb : SkRow w b L) :
    Calls Trym.prog 17 #[.slice a n c, .slice b n c'] w fun e w' => e = .returned (.bool true) ∧ Below w.heap.size w w' := by
  go_enter Trym.func17, Trym.ntmps17
  go_wp2
  go_loopw [5] (fun i wr => ∃ j : Nat, j ≤ n ∧ i = .int .i64 j ∧ Below w.heap.size w wr) (fun i _ => n - (intOf i).toNat)
  case atStart => exact ⟨0, Nat.zero_le _, rfl, Below.refl _ _⟩
  case round =>
    obtain ⟨j, hj, rfl, hnx⟩ := hrel
    by_cases hlt : j < n
    · have hs : L[j]? = some (L[j]'(by rw [← hn.out]; exact hlt)) := by simp
      obtain ⟨s, hs'⟩ : ∃ s, s = L[j]'(by rw [← hn.out]; exact hlt) := ⟨_, rfl⟩
      rw [← hs'] at hs
      obtain ⟨b1, o1, rfl, hbl1, p0, p1, p2, p3, p4, p5, p6⟩ := (ha.below hnx).at7 hs
      obtain ⟨b2, o2, rfl, hbl2, q0, q1, q2, q3, q4, q5, q6⟩ := (hb.below hnx).at7 hs
      have hjn : (j : Int) < (n : Int) := by omega
      clear hs hs' ha hb
      go_wp2_with fail
      go_quiet (fail)
      go_wp2
      go_roundw
      case rel => exact ⟨j + 1, by omega, by go_num, below_drewN hnx _⟩
      case measure => simp [intOf]; omega
    · go_wp2
      go_ret
      exact ⟨rfl, hnx⟩

end Go.Proofs.Qxb6619271aMods
