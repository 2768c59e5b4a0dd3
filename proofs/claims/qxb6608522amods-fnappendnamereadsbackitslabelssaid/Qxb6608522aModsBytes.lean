/-
  CONTRACTS: zzBytes_FnAppendNameCutAtAnyLabel (5), zzBytes_FnAppendNameReadsBackItsLabels (8): they answer some Bool and turn nothing.
-/
import Derived.Test.Qxb6608522aModsName
namespace Go.Proofs.Qxb6608522aMods
open Go.RowKit

/-- It answers some Bool; where it says yes every label has at most 1<<20 bytes. -/
def AnyB (L : List ByteArray) (e : Ending) : Prop := ∃ b, e = .returned (.bool b) ∧ (b = true → ∀ s ∈ L, s.size ≤ 1048576)

/-- The first k labels have at most 1<<20 bytes each. -/
def Small (L : List ByteArray) (k : Nat) : Prop := ∀ s ∈ L.take k, s.size ≤ 1048576

theorem Small.next {L : List ByteArray} {k : Nat} {s : ByteArray} (h : Small L k) (hk : L[k]? = some s) (hs : s.size ≤ 1048576) : Small L (k + 1) := by
  intro t ht
  rw [List.take_add_one, hk] at ht
  rcases List.mem_append.1 ht with h1 | h1
  · exact h t h1
  · simp at h1; subst h1; exact hs

theorem Small.all {L : List ByteArray} {k : Nat} (h : Small L k) (hk : L.length ≤ k) : ∀ s ∈ L, s.size ≤ 1048576 := by
  intro s hs
  exact h s (by rw [List.take_of_length_le hk]; exact hs)

set_option maxHeartbeats 2000000 in
theorem bytes5 (L : List ByteArray) (ao lo : Option Addr) (nb cb n c B : Nat) (k0 : Int) (w : World) (hn : Hid (n = L.length)) (hnb : nb ≤ 9223372036854775807) (hm : n ≤ 9223372036854775807) (hr : SRow w B lo L) :
    Calls Trym.prog 5 #[.slice ao nb cb, .slice lo n c, .int .i64 k0] w fun e w' => AnyB L e ∧ w' = w := by
  by_cases h1 : nb ≤ 1048576
  · by_cases h2 : n ≤ 1048576
    · by_cases h3 : nb + n ≤ 1048576
      · go_enter Trym.func5, Trym.ntmps5
        go_wp2
        go_loop [7, 8] (fun z i => ∃ (k : Nat) (q : Int), k ≤ n ∧ i = .int .i64 k ∧ z = .int .i64 q ∧ Small L k) (fun _ i => n - (intOf i).toNat)
        case atStart => exact ⟨0, _, Nat.zero_le _, rfl, rfl, fun s hs => by simp at hs⟩
        case round =>
          obtain ⟨k, q, hk, rfl, rfl, hsm⟩ := hrel
          by_cases hlt : k < n
          · have hs : L[k]? = some (L[k]'(by rw [← hn.out]; exact hlt)) := by simp
            obtain ⟨s, hs'⟩ : ∃ s, s = L[k]'(by rw [← hn.out]; exact hlt) := ⟨_, rfl⟩
            rw [← hs'] at hs
            obtain ⟨b, off, rfl, hbl, hbs, c0⟩ := hr.at1 hs
            have hki : (k : Int) < (n : Int) := by omega
            have HS : Hid (L[k]? = some s) := hs
            clear hs hs' hr
            go_wp2
            all_goals first
              | (go_ret; exact ⟨⟨false, rfl, fun h => by simp at h⟩, rfl⟩)
              | (go_round; (case rel => exact ⟨k + 1, _, by omega, by go_num, rfl, hsm.next HS.out (by omega)⟩); (case measure => simp [intOf]; omega))
          · go_wp2
            go_ret
            exact ⟨⟨true, rfl, fun _ => hsm.all (by rw [← hn.out]; omega)⟩, rfl⟩
      · go_enter Trym.func5, Trym.ntmps5
        go_wp2
        go_ret
        exact ⟨⟨false, rfl, fun h => by simp at h⟩, rfl⟩
    · go_enter Trym.func5, Trym.ntmps5
      go_wp2
      go_ret
      exact ⟨⟨false, rfl, fun h => by simp at h⟩, rfl⟩
  · go_enter Trym.func5, Trym.ntmps5
    go_wp2
    go_ret
    exact ⟨⟨false, rfl, fun h => by simp at h⟩, rfl⟩

set_option maxHeartbeats 2000000 in
theorem bytes8 (L : List ByteArray) (ao lo : Option Addr) (nb cb n c B : Nat) (w : World) (hn : Hid (n = L.length)) (hnb : nb ≤ 9223372036854775807) (hm : n ≤ 9223372036854775807) (hr : SRow w B lo L) :
    Calls Trym.prog 8 #[.slice ao nb cb, .slice lo n c] w fun e w' => AnyB L e ∧ w' = w := by
  by_cases h1 : nb ≤ 1048576
  · by_cases h2 : n ≤ 1048576
    · by_cases h3 : nb + n ≤ 1048576
      · go_enter Trym.func8, Trym.ntmps8
        go_wp2
        go_loop [5, 6] (fun z i => ∃ (k : Nat) (q : Int), k ≤ n ∧ i = .int .i64 k ∧ z = .int .i64 q ∧ Small L k) (fun _ i => n - (intOf i).toNat)
        case atStart => exact ⟨0, _, Nat.zero_le _, rfl, rfl, fun s hs => by simp at hs⟩
        case round =>
          obtain ⟨k, q, hk, rfl, rfl, hsm⟩ := hrel
          by_cases hlt : k < n
          · have hs : L[k]? = some (L[k]'(by rw [← hn.out]; exact hlt)) := by simp
            obtain ⟨s, hs'⟩ : ∃ s, s = L[k]'(by rw [← hn.out]; exact hlt) := ⟨_, rfl⟩
            rw [← hs'] at hs
            obtain ⟨b, off, rfl, hbl, hbs, c0⟩ := hr.at1 hs
            have hki : (k : Int) < (n : Int) := by omega
            have HS : Hid (L[k]? = some s) := hs
            clear hs hs' hr
            go_wp2
            all_goals first
              | (go_ret; exact ⟨⟨false, rfl, fun h => by simp at h⟩, rfl⟩)
              | (go_round; (case rel => exact ⟨k + 1, _, by omega, by go_num, rfl, hsm.next HS.out (by omega)⟩); (case measure => simp [intOf]; omega))
          · go_wp2
            go_ret
            exact ⟨⟨true, rfl, fun _ => hsm.all (by rw [← hn.out]; omega)⟩, rfl⟩
      · go_enter Trym.func8, Trym.ntmps8
        go_wp2
        go_ret
        exact ⟨⟨false, rfl, fun h => by simp at h⟩, rfl⟩
    · go_enter Trym.func8, Trym.ntmps8
      go_wp2
      go_ret
      exact ⟨⟨false, rfl, fun h => by simp at h⟩, rfl⟩
  · go_enter Trym.func8, Trym.ntmps8
    go_wp2
    go_ret
    exact ⟨⟨false, rfl, fun h => by simp at h⟩, rfl⟩

end Go.Proofs.Qxb6608522aMods
