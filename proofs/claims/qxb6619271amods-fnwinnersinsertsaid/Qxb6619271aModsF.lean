/-
  CONTRACTS: zzBytes_FnWinnersSplitCount (6), zzb1SkillsFit (7), zzb1Unshadowed (10), zzb1Make (16), ZZMakeSkill (20).
-/
import Derived.Test.Qxb6619271aModsA
import Derived.Test.Qxb6619271aModsC
namespace Go.Proofs.Qxb6619271aMods
open Go.RowKit

theorem SkRow.below {w w' : World} {ao : Option Addr} {L : List Sk} (h : SkRow w ao L) (hb : Below w.heap.size w w') : SkRow w' ao L := by
  rcases h with rfl | ⟨b, off, rfl, hlt, hc⟩
  · exact .inl rfl
  · exact .inr ⟨b, off, rfl, Nat.lt_of_lt_of_le hlt hb.size, fun k s hk j u hu => (hb.cell (p := ⟨b, off + k * 7 + j, none⟩) hlt).trans (hc k s hk j u hu)⟩

/-- Element k of a row: its seven cells. -/
theorem SkRow.at7 {w : World} {ao : Option Addr} {L : List Sk} (h : SkRow w ao L) {k : Nat} {s : Sk} (hk : L[k]? = some s) :
    ∃ b off, ao = some ⟨b, off, none⟩ ∧ b < w.heap.size ∧ w.cell? ⟨b, off + k * 7, none⟩ = some (.int .i64 s.lv) ∧ w.cell? ⟨b, off + k * 7 + 1, none⟩ = some (.string s.nm) ∧ w.cell? ⟨b, off + k * 7 + 2, none⟩ = some (.string s.ds) ∧ w.cell? ⟨b, off + k * 7 + 3, none⟩ = some (.string s.fl) ∧
    w.cell? ⟨b, off + k * 7 + 4, none⟩ = some (.bool s.sh) ∧ w.cell? ⟨b, off + k * 7 + 5, none⟩ = some (.string s.sd) ∧ w.cell? ⟨b, off + k * 7 + 6, none⟩ = some (.string s.fo) := by
  rcases h with rfl | ⟨b, off, rfl, hlt, hc⟩
  · simp at hk
  · exact ⟨b, off, rfl, hlt, cells7 (hc k s hk)⟩

/-- The check on lengths answers some Bool; where it says yes there are at most 1<<20 elements. -/
def OkB (n : Nat) (e : Ending) : Prop := ∃ b, e = .returned (.bool b) ∧ (b = true → n ≤ 1048576)

set_option maxRecDepth 100000 in
set_option maxHeartbeats 4000000 in
theorem bytes6 (L : List Sk) (ao : Option Addr) (c : Nat) (k0 : Int) (w : World) (hm : L.length ≤ 9223372036854775807) (hr : SkRow w ao L) :
    Calls Trym.prog 6 #[.slice ao L.length c, .int .i64 k0] w fun e w' => OkB L.length e ∧ w' = w := by
  by_cases hL : L.length ≤ 1048576
  · go_enter Trym.func6, Trym.ntmps6
    go_wp2
    go_loop [5, 6] (fun z i => ∃ (k : Nat) (q : Int), k ≤ L.length ∧ i = .int .i64 k ∧ z = .int .i64 q) (fun _ i => L.length - (intOf i).toNat)
    case atStart => exact ⟨0, _, Nat.zero_le _, rfl, rfl⟩
    case round =>
      obtain ⟨k, q, hk, rfl, rfl⟩ := hrel
      by_cases hlt : k < L.length
      · obtain ⟨b, off, rfl, hbl, c0, c1, c2, c3, c4, c5, c6⟩ := hr.at7 (k := k) (s := L[k]) (by simp [hlt])
        obtain ⟨s, hs⟩ : ∃ s, s = L[k] := ⟨_, rfl⟩
        rw [← hs] at c0 c1 c2 c3 c4 c5 c6
        clear hs hr
        go_wp2
        all_goals first
          | (go_ret; exact ⟨⟨_, rfl, fun _ => hL⟩, rfl⟩)
          | (go_round; (case rel => exact ⟨k + 1, _, by omega, by go_num, rfl⟩); (case measure => simp [intOf]; omega))
      · go_wp2
        go_ret
        exact ⟨⟨_, rfl, fun _ => hL⟩, rfl⟩
  · go_enter Trym.func6, Trym.ntmps6
    go_wp2
    go_ret
    exact ⟨⟨false, rfl, fun h => by simp at h⟩, rfl⟩

set_option maxHeartbeats 1000000 in
theorem fit7 (L : List Sk) (ao : Option Addr) (c : Nat) (t0 : Int) (w : World) (hm : L.length ≤ 9223372036854775807) (hr : SkRow w ao L) :
    Calls Trym.prog 7 #[.int .i64 t0, .slice ao L.length c] w fun e w' => ∃ t b, e = .returned (.tuple #[.int .i64 t, .bool b]) ∧ Below w.heap.size w w' := by
  by_cases hL : L.length ≤ 4096
  · go_enter Trym.func7, Trym.ntmps7
    go_wp2
    go_loopw [6, 7] (fun z i wr => ∃ (k : Nat) (q : Int), k ≤ L.length ∧ i = .int .i64 k ∧ z = .int .i64 q ∧ Below w.heap.size w wr) (fun _ i _ => L.length - (intOf i).toNat)
    case atStart => exact ⟨0, _, Nat.zero_le _, rfl, rfl, Below.refl _ _⟩
    case round =>
      obtain ⟨k, q, hk, rfl, rfl, hnx⟩ := hrel
      by_cases hlt : k < L.length
      · obtain ⟨b, off, rfl, hbl, c0, c1, c2, c3, c4, c5, c6⟩ := (hr.below hnx).at7 (k := k) (s := L[k]) (by simp [hlt])
        obtain ⟨s, hs⟩ : ∃ s, s = L[k] := ⟨_, rfl⟩
        rw [← hs] at c0 c1 c2 c3 c4 c5 c6
        have hsz := hnx.size
        clear hs hr
        go_wp2_with (go_at_call 15; refine (addSkill_any _ s _).mono ?_; rintro e w1 ⟨t, bb, rfl, hb1⟩; cases bb)
        · go_ret2
          exact ⟨_, _, rfl, hnx.trans (hb1.mono hsz)⟩
        · go_roundw
          case rel => exact ⟨k + 1, _, by omega, by go_num, rfl, hnx.trans (hb1.mono hsz)⟩
          case measure => simp [intOf]; omega
      · go_wp2
        go_ret2
        exact ⟨_, _, rfl, hnx⟩
  · go_enter Trym.func7, Trym.ntmps7
    go_wp2
    go_ret2
    exact ⟨_, _, rfl, Below.refl _ _⟩

set_option maxHeartbeats 1000000 in
theorem unsh10 (L : List Sk) (ao : Option Addr) (c n : Nat) (h : Nat) (w : World) (hh : h ≤ L.length) (hn : n = L.length) (hm : L.length ≤ 1048576) (hr : SkRow w ao L) :
    Calls Trym.prog 10 #[.slice ao n c, .int .i64 0, .int .i64 h] w fun e w' => e = .returned (.int .i64 (unsh (L.take h)).length) ∧ w' = w := by
  subst hn
  go_enter Trym.func10, Trym.ntmps10
  go_wp2
  go_loop [7, 8] (fun z i => ∃ (k : Nat), k ≤ h ∧ i = .int .i64 k ∧ z = .int .i64 (unsh (L.take k)).length) (fun _ i => h - (intOf i).toNat)
  case atStart => exact ⟨0, Nat.zero_le _, rfl, rfl⟩
  case round =>
    obtain ⟨k, hk, rfl, rfl⟩ := hrel
    have hle := unsh_take_le L k
    by_cases hlt : k < h
    · have hs : L[k]? = some L[k] := by simp [show k < L.length by omega]
      obtain ⟨b, off, rfl, hbl, c0, c1, c2, c3, c4, c5, c6⟩ := hr.at7 hs
      obtain ⟨s, hs'⟩ : ∃ s, s = L[k] := ⟨_, rfl⟩
      rw [← hs'] at c0 c1 c2 c3 c4 c5 c6 hs
      have HS : Hid (L[k]? = some s) := hs
      have hkl : (k : Int) < (L.length : Int) := by omega
      clear hs hs' hr c0 c1 c2 c3 c5 c6
      cases hsh : s.sh
      · rw [hsh] at c4
        have e := unsh_keep HS.out hsh
        have HE : Hid (unsh (L.take (k + 1)) = unsh (L.take k) ++ [s]) := e
        clear e hsh
        go_wp2
        go_round
        case rel => exact ⟨k + 1, by omega, by go_num, by rw [HE.out]; simp⟩
        case measure => simp [intOf]; omega
      · rw [hsh] at c4
        have e := unsh_drop HS.out hsh
        have HE : Hid (unsh (L.take (k + 1)) = unsh (L.take k)) := e
        clear e hsh
        go_wp2
        go_round
        case rel => exact ⟨k + 1, by omega, by go_num, by rw [HE.out]⟩
        case measure => simp [intOf]; omega
    · go_wp2
      go_ret
      have : k = h := by omega
      subst this
      exact ⟨rfl, rfl⟩

set_option maxHeartbeats 1000000 in
theorem make20 (s : Sk) (w : World) :
    Calls Trym.prog 20 #[.int .i64 s.lv, .string s.nm, .string s.ds, .string s.fl, .bool s.sh, .string s.sd, .string s.fo] w
      fun e w' => e = .returned (.agg #[.int .i64 s.lv, .string s.nm, .string s.ds, .string s.fl, .bool s.sh, .string s.sd, .string s.fo]) ∧ Below w.heap.size w w' := by
  go_enter Trym.func20, Trym.ntmps20
  go_wp2
  refine bodyPost_ret (v := .agg #[.int .i64 s.lv, .string s.nm, .string s.ds, .string s.fl, .bool s.sh, .string s.sd, .string s.fo]) (by simp [results, Trym.results20, go_sem]) rfl ⟨rfl, ?_⟩
  exact (Below.refl _ _).alloc (Nat.le_refl _) _

set_option maxHeartbeats 1000000 in
theorem make16 (s : Sk) (w : World) :
    Calls Trym.prog 16 #[.agg #[.int .i64 s.lv, .string s.nm, .string s.ds, .string s.fl, .bool s.sh, .string s.sd, .string s.fo]] w
      fun e w' => e = .returned (.agg #[.int .i64 s.lv, .string s.nm, .string s.ds, .string s.fl, .bool s.sh, .string s.sd, .string s.fo]) ∧ Below w.heap.size w w' := by
  go_enter Trym.func16, Trym.ntmps16
  go_wp2_with (go_at_call 20; refine (make20 s _).mono ?_; rintro e w1 ⟨rfl, hb⟩; obtain ⟨hc, hf⟩ := bcell hb; have hz : w.heap.size + 1 < w1.heap.size := by (have := hb.size; simp at this; omega))
  refine bodyPost_ret (v := .agg #[.int .i64 s.lv, .string s.nm, .string s.ds, .string s.fl, .bool s.sh, .string s.sd, .string s.fo]) (by simp [results, Trym.results16, go_sem, hc]) rfl ⟨rfl, ?_⟩
  repeat (refine Below.setCell ?_ (by simp) _)
  refine Below.trans ?_ (hb.mono (by simp; omega))
  exact ((Below.refl _ _).alloc (Nat.le_refl _) _).alloc (by simp) _

end Go.Proofs.Qxb6619271aMods
