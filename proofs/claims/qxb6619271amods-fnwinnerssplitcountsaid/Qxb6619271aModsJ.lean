/-
  THE WALK of FnWinnersSplitCount (3).
-/
import Derived.Test.Qxb6619271aModsI
import Derived.WalkSmall
namespace Go.Proofs.Qxb6619271aMods
open Go.RowKit

set_option maxHeartbeats 4000000 in
theorem split_walk (L : List Sk) (ao : Option Addr) (c : Nat) (k0 : Int) (w : World) (hm : L.length ≤ 9223372036854775807) (hr : SkRow w ao L) :
    Calls Trym.prog 3 #[.slice ao L.length c, .int .i64 k0] w fun e w' => e = .returned (.bool true) ∧ Below w.heap.size w w' := by
  go_enter Trym.func3, Trym.ntmps3
  go_wp2_with fail
  refine (bytes6 L ao c k0 w hm hr).mono ?_
  rintro e w' ⟨⟨b, rfl, hb⟩, rfl⟩
  cases b
  · clear hb
    go_wp2
    go_ret
    exact ⟨rfl, Below.refl _ _⟩
  have hL := hb rfl
  clear hb
  go_wp2_with fail
  refine (fit7 L ao c 0 _ hm hr).mono ?_
  rintro e w1 ⟨t, b, rfl, hb1⟩
  cases b
  · go_wp2
    go_ret
    exact ⟨rfl, hb1⟩
  by_cases hk0 : k0 < 0
  · go_wp2
    go_ret
    exact ⟨rfl, hb1⟩
  by_cases hk1 : (L.length : Int) < k0
  · go_wp2
    go_ret
    exact ⟨rfl, hb1⟩
  obtain ⟨k, rfl⟩ : ∃ k : Nat, k0 = k := ⟨k0.toNat, by omega⟩
  have hkn : k ≤ L.length := by omega
  clear hk0 hk1
  go_wp2_with fail
  refine (build8 L ao c w1 hL (hr.below hb1)).mono ?_
  rintro e w2 ⟨g, rfl, hown, hb2⟩
  obtain ⟨A, eA⟩ : ∃ A, Hid (unsh (L.take k) = A) := ⟨_, rfl⟩
  obtain ⟨B, eB⟩ : ∃ B, Hid (unsh (L.drop k) = B) := ⟨_, rfl⟩
  have eW : Hid (unsh L = A ++ B) := by
    have e := unsh_split L k
    rw [eA.out, eB.out] at e
    exact e
  obtain ⟨nA, hA⟩ : ∃ m, Hid (A.length = m) := ⟨_, rfl⟩
  obtain ⟨nB, hB⟩ : ∃ m, Hid (B.length = m) := ⟨_, rfl⟩
  have lA : Hid ((unsh (L.take k)).length = nA) := by rw [eA.out]; exact hA
  have lB : Hid ((unsh (L.drop k)).length = nB) := by rw [eB.out]; exact hB
  have lW : Hid ((unsh L).length = nA + nB) := by rw [eW.out, List.length_append, hA.out, hB.out]; rfl
  have hnA : nA ≤ L.length := by have := unsh_take_le L k; have := lA.out; omega
  have hnAB : nA + nB ≤ L.length := by
    have e := unsh_take_le L L.length
    rw [List.take_of_length_le (Nat.le_refl _), lW.out] at e
    exact e
  go_wp2_with fail
  refine (win9 L _ _ _ (nA + nB) w2 rfl lW hL hown.row).mono ?_
  rintro e w3 ⟨aw, cw, rfl, hrw, hb3⟩
  rw [eW.out] at hrw
  go_wp2_with fail
  refine (win9 (L.take k) _ _ _ nA w3 (by show _ = _; simp; omega) lA (by omega) ((hown.row.below hb3).take k)).mono ?_
  rintro e w4 ⟨aa, ca, rfl, hra, hb4⟩
  rw [eA.out] at hra
  have hsk := (hown.row.below hb3).below hb4
  have hbel : Below w'.heap.size w' w4 := (hb1.trans (hb2.mono hb1.size)).trans ((hb3.mono (by have := hb1.size; have := hb2.size; omega)).trans (hb4.mono (by have := hb1.size; have := hb2.size; have := hb3.size; omega)))
  have hrw4 := hrw.below hb4
  clear hown hrw hb1 hb2 hb3 hb4
  by_cases hkl : k = L.length
  case' pos =>
    subst hkl
    go_wp2_with fail
    refine (win9 (L.drop L.length) _ _ _ nB w4 (by show _ = _; simp) lB (by omega) (.inl (by simp))).mono ?_
  case' neg =>
    have hkl2 : ¬ L.length = k := fun h => hkl h.symm
    go_wp2_with fail
    refine (win9 (L.drop k) _ _ _ nB w4 (by show _ = _; simp) lB (by omega) (hsk.drop k _ rfl (fun _ => rfl))).mono ?_
  all_goals
    rintro e w5 ⟨ab, cb, rfl, hrb, hb5⟩
    rw [eB.out] at hrb
    have hbel5 : Below w'.heap.size w' w5 := hbel.trans (hb5.mono hbel.size)
    have hrw5 := hrw4.below hb5
    have hra5 := hra.below hb5
    clear hrw4 hra hb5 hbel hsk
    go_wp2_with fail
    go_loopw [11] (fun i wr => ∃ j : Nat, j ≤ nA ∧ i = .int .i64 j ∧ Below w5.heap.size w5 wr) (fun i _ => nA - (intOf i).toNat)
    case atStart => exact ⟨0, Nat.zero_le _, rfl, Below.refl _ _⟩
    case round =>
      obtain ⟨j, hj, rfl, hnx⟩ := hrel
      by_cases hlt : j < nA
      · have hs : A[j]? = some (A[j]'(by rw [hA.out]; exact hlt)) := by simp
        obtain ⟨s, hs'⟩ : ∃ s, s = A[j]'(by rw [hA.out]; exact hlt) := ⟨_, rfl⟩
        rw [← hs'] at hs
        have hsW : (A ++ B)[j]? = some s := by rw [List.getElem?_append_left (by rw [hA.out]; exact hlt)]; exact hs
        obtain ⟨b1, o1, rfl, hbl1, p0, p1, p2, p3, p4, p5, p6⟩ := (hrw5.below hnx).at7 hsW
        obtain ⟨b2, o2, rfl, hbl2, q0, q1, q2, q3, q4, q5, q6⟩ := (hra5.below hnx).at7 hs
        have hjA : (j : Int) < (nA : Int) := by omega
        have hjW : (j : Int) < (nA : Int) + (nB : Int) := by omega
        clear hs hs' hsW hrw5 hra5 hrb hr
        go_wp2_with fail
        go_quiet (fail)
        go_wp2
        go_roundw
        case rel => exact ⟨j + 1, by omega, by go_num, below_drewN hnx _⟩
        case measure => simp [intOf]; omega
      · go_wp2_with fail
        clear hj hlt
        go_loopw [12] (fun i wr => ∃ j : Nat, j ≤ nB ∧ i = .int .i64 j ∧ Below w5.heap.size w5 wr) (fun i _ => nB - (intOf i).toNat)
        case atStart => exact ⟨0, Nat.zero_le _, rfl, hnx⟩
        case round =>
          clear hnx
          obtain ⟨j2, hj, rfl, hnx⟩ := hrel
          by_cases hlt : j2 < nB
          · have hs : B[j2]? = some (B[j2]'(by rw [hB.out]; exact hlt)) := by simp
            obtain ⟨s, hs'⟩ : ∃ s, s = B[j2]'(by rw [hB.out]; exact hlt) := ⟨_, rfl⟩
            rw [← hs'] at hs
            have hsW : (A ++ B)[nA + j2]? = some s := by rw [List.getElem?_append_right (by rw [hA.out]; omega), hA.out, Nat.add_sub_cancel_left]; exact hs
            obtain ⟨b1, o1, rfl, hbl1, p0, p1, p2, p3, p4, p5, p6⟩ := (hrw5.below hnx).at7 hsW
            obtain ⟨b2, o2, rfl, hbl2, q0, q1, q2, q3, q4, q5, q6⟩ := (hrb.below hnx).at7 hs
            have hjA : (j2 : Int) < (nB : Int) := by omega
            have hjW : (nA : Int) + (j2 : Int) < (nA : Int) + (nB : Int) := by omega
            clear hs hs' hsW hrw5 hra5 hrb hr
            go_wp2_with fail
            go_quiet (fail)
            go_wp2
            go_roundw
            case rel => exact ⟨j2 + 1, by omega, by go_num, below_drewN hnx _⟩
            case measure => simp [intOf]; omega
          · go_wp2_with fail
            have hbr := hbel5.trans (hnx.mono hbel5.size)
            refine (count10 L ao _ c L.length (nA + nB) _ rfl (by show _ = _; rw [List.take_of_length_le (Nat.le_refl _)]; exact lW.out) (Nat.le_refl _) hL (hr.below hbr)).mono ?_
            rintro e wx ⟨rfl, rfl⟩
            go_wp2_with fail
            refine (count10 L ao _ c _ nA _ rfl lA (by omega) hL (hr.below hbr)).mono ?_
            rintro e wx ⟨rfl, rfl⟩
            have hrw6 := hrw5.below hnx
            clear hj hlt hrw5 hra5 hrb hnx hr hbel5
            go_wp2_with fail
            go_loop [13] (fun i => ∃ j : Nat, j ≤ nA + nB ∧ i = .int .i64 j) (fun i => (nA + nB) - (intOf i).toNat)
            case atStart => exact ⟨0, Nat.zero_le _, rfl⟩
            case round =>
              obtain ⟨j3, hj, rfl⟩ := hrel
              by_cases hlt : j3 < nA + nB
              · have hs : (A ++ B)[j3]? = some ((A ++ B)[j3]'(by rw [List.length_append, hA.out, hB.out]; exact hlt)) := by simp
                obtain ⟨s, hs'⟩ : ∃ s, s = (A ++ B)[j3]'(by rw [List.length_append, hA.out, hB.out]; exact hlt) := ⟨_, rfl⟩
                rw [← hs'] at hs
                obtain ⟨b1, o1, rfl, hbl1, p0, p1, p2, p3, p4, p5, p6⟩ := hrw6.at7 hs
                have hsh : s.sh = false := unsh_false (L := L) (i := j3) (by rw [eW.out]; exact hs)
                rw [hsh] at p4
                have hjW : (j3 : Int) < (nA : Int) + (nB : Int) := by omega
                clear hs hs' hrw6 hsh
                go_wp2
                go_round
                case rel => exact ⟨j3 + 1, by omega, by go_num⟩
                case measure => simp [intOf]; omega
              · go_wp2
                go_ret
                exact ⟨rfl, hbr⟩
end Go.Proofs.Qxb6619271aMods
