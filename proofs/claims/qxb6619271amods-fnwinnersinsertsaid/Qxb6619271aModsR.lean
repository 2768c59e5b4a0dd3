/-
  THE WALK of FnWinnersInsert (5).
-/
import Derived.Test.Qxb6619271aModsQ
namespace Go.Proofs.Qxb6619271aMods
open Go.RowKit

/-- A block that begins with the seven cells of one skill. -/
def Box (w : World) (B : Nat) (x : Sk) : Prop :=
  B < w.heap.size ∧ w.cell? ⟨B, 0, none⟩ = some (.int .i64 x.lv) ∧ w.cell? ⟨B, 1, none⟩ = some (.string x.nm) ∧ w.cell? ⟨B, 2, none⟩ = some (.string x.ds) ∧ w.cell? ⟨B, 3, none⟩ = some (.string x.fl) ∧
    w.cell? ⟨B, 4, none⟩ = some (.bool x.sh) ∧ w.cell? ⟨B, 5, none⟩ = some (.string x.sd) ∧ w.cell? ⟨B, 6, none⟩ = some (.string x.fo)

theorem box_new (w : World) (x : Sk) (t : TypeId) : Box (w.alloc (.cells #[.int .i64 x.lv, .string x.nm, .string x.ds, .string x.fl, .bool x.sh, .string x.sd, .string x.fo] t)) w.heap.size x := by
  refine ⟨by simp, ?_, ?_, ?_, ?_, ?_, ?_, ?_⟩ <;> rw [World.cell?_alloc_at _ _ _ _ rfl] <;> rfl

theorem Box.below {w w' : World} {B : Nat} {x : Sk} (h : Box w B x) (hb : Below w.heap.size w w') : Box w' B x := by
  obtain ⟨h0, h1, h2, h3, h4, h5, h6, h7⟩ := h
  exact ⟨Nat.lt_of_lt_of_le h0 hb.size, (hb.cell h0).trans h1, (hb.cell h0).trans h2, (hb.cell h0).trans h3, (hb.cell h0).trans h4, (hb.cell h0).trans h5, (hb.cell h0).trans h6, (hb.cell h0).trans h7⟩

/-- The cells of a row of skills, by their offset. -/
theorem SkRow.flat {w : World} {b off : Nat} {L : List Sk} (h : SkRow w (some ⟨b, off, none⟩) L) : ∀ j u, (flat L)[j]? = some u → w.cell? ((⟨b, off, none⟩ : Addr).add j) = some u := by
  intro j u hu
  have hj := (List.getElem?_eq_some_iff.1 hu).1
  rw [flat_length] at hj
  rcases h with rfl | ⟨b', off', e, hlt, hc⟩
  · simp at hj
  · simp only [Option.some.injEq, Addr.mk.injEq, and_true] at e
    obtain ⟨rfl, rfl⟩ := e
    have hq : j / 7 < L.length := by omega
    have hs : L[j / 7]? = some L[j / 7] := by simp [hq]
    have hv : (L[j / 7]).cells[j % 7]? = some ((L[j / 7]).cells[j % 7]'(by simp [Sk.cells]; omega)) := by simp
    have e1 := flat_get hs hv
    have e2 := hc (j / 7) _ hs (j % 7) _ hv
    rw [show j / 7 * 7 + j % 7 = j by omega] at e1
    rw [hu] at e1
    rw [show off + j / 7 * 7 + j % 7 = off + j by omega] at e2
    rw [Addr.add_lit, e2, e1]

theorem flat_one (L : List Sk) : ∀ u ∈ flat L, u.oneCell' = true := by
  intro u hu
  simp only [Qxb6619271aMods.flat, List.mem_flatMap] at hu
  obtain ⟨s, _, hu⟩ := hu
  exact cells_one s u hu

theorem flat_app (A B : List Sk) : flat (A ++ B) = flat A ++ flat B := by simp [Qxb6619271aMods.flat]

theorem unsh_app (A B : List Sk) : unsh (A ++ B) = unsh A ++ unsh B := by simp [unsh]

theorem unsh_unsh (L : List Sk) : unsh (unsh L) = unsh L := by simp [unsh, List.filter_filter]

set_option maxHeartbeats 8000000 in
theorem insert_walk (L : List Sk) (ao : Option Addr) (c : Nat) (k0 : Int) (x : Sk) (w : World) (hm : L.length ≤ 9223372036854775807) (hr : SkRow w ao L) :
    Calls Trym.prog 5 #[.slice ao L.length c, .int .i64 k0, .agg #[.int .i64 x.lv, .string x.nm, .string x.ds, .string x.fl, .bool x.sh, .string x.sd, .string x.fo]] w fun e w' => e = .returned (.bool true) ∧ Below w.heap.size w w' := by
  have hbx := box_new w x 43
  have hb0 : Below w.heap.size w (w.alloc (.cells #[.int .i64 x.lv, .string x.nm, .string x.ds, .string x.fl, .bool x.sh, .string x.sd, .string x.fo] 43)) := (Below.refl _ _).alloc (Nat.le_refl _) _
  have hr0 := hr.below hb0
  clear hr
  go_enter Trym.func5, Trym.ntmps5
  go_wp2_with fail
  refine (bytes14 L ao c k0 x _ hm hr0).mono ?_
  rintro e w1 ⟨⟨b, rfl, hb⟩, hb1⟩
  have hB1 : Below w.heap.size w w1 := hb0.trans (hb1.mono hb0.size)
  cases b
  · clear hb
    go_wp2
    go_ret
    exact ⟨rfl, hB1⟩
  have hL := hb rfl
  have hr1 := hr0.below hb1
  have hx1 := hbx.below hb1
  clear hb hr0 hbx hb0 hb1
  go_wp2_with fail
  refine (fit7b L ao c 0 _ hm hr1).mono ?_
  rintro e w2 ⟨⟨t, b, rfl, hb4096⟩, hb2⟩
  have hB2 : Below w.heap.size w w2 := hB1.trans (hb2.mono hB1.size)
  cases b
  · clear hb4096
    go_wp2
    go_ret
    exact ⟨rfl, hB2⟩
  have hL4 := hb4096 rfl
  clear hb4096
  have hr2 := hr1.below hb2
  have hx2 := hx1.below hb2
  clear hr1 hx1 hB1 hb2
  obtain ⟨_, y0, y1, y2, y3, y4, y5, y6⟩ := id hx2
  go_wp2_with fail
  refine (addSkill_any t x w2).mono ?_
  rintro e w3 ⟨t', b, rfl, hb3⟩
  have hB3 : Below w.heap.size w w3 := hB2.trans (hb3.mono hB2.size)
  cases b
  · go_wp2
    go_ret
    exact ⟨rfl, hB3⟩
  have hr3 := hr2.below hb3
  have hx3 := hx2.below hb3
  clear hr2 hx2 hB2 hb3 y0 y1 y2 y3 y4 y5 y6
  by_cases hk0 : k0 < 0
  · go_wp2
    go_ret
    exact ⟨rfl, hB3⟩
  by_cases hk1 : (L.length : Int) < k0
  · go_wp2
    go_ret
    exact ⟨rfl, hB3⟩
  obtain ⟨k, rfl⟩ : ∃ k : Nat, k0 = k := ⟨k0.toNat, by omega⟩
  have hkn : k ≤ L.length := by omega
  clear hk0 hk1
  go_wp2_with fail
  refine (build8 L ao c w3 hL hr3).mono ?_
  rintro e w4 ⟨g, rfl, hown, hb4⟩
  have hB4 : Below w.heap.size w w4 := hB3.trans (hb4.mono hB3.size)
  have hr4 := hr3.below hb4
  have hx4 := hx3.below hb4
  clear hr3 hx3 hB3 hb4
  obtain ⟨_, y0, y1, y2, y3, y4, y5, y6⟩ := id hx4
  go_wp2_with fail
  refine (make16 x w4).mono ?_
  rintro e w5 ⟨rfl, hb5⟩
  have hB5 : Below w.heap.size w w5 := hB4.trans (hb5.mono hB4.size)
  have hr5 := hr4.below hb5
  have hx5 := hx4.below hb5
  have hsk5 := hown.row.below hb5
  clear hr4 hx4 hB4 hb5 y0 y1 y2 y3 y4 y5 y6 hown
  obtain ⟨i0, hi, hz0, hz1, hz2⟩ := info_parts Trym.info31
  have hsx := box_new w5 x 31
  have hb6 : Below w5.heap.size w5 (w5.alloc (.cells #[.int .i64 x.lv, .string x.nm, .string x.ds, .string x.fl, .bool x.sh, .string x.sd, .string x.fo] 31)) := (Below.refl _ _).alloc (Nat.le_refl _) _
  have hr6 := hr5.below hb6
  have hx6 := hx5.below hb6
  have hsk6 := hsk5.below hb6
  have hB6 : Below w.heap.size w _ := hB5.trans (hb6.mono hB5.size)
  have hle5 := hB5.size
  clear hr5 hx5 hsk5 hB5 hb6
  go_wp2_with (at_make; refine wpList_make_own _ rfl _ _ 26 rfl (w5.heap.size + 1) 31 i0 _ 7 Trym.underlying26 hi hz0 hz1 .i64 .i64 _ (L.length + 1) rfl rfl (by omega) (by rw [hz2]; omega) (by unfold maxLen; omega) (by simp) ?_)
  intro w7 hown7 hgrow7
  have hB7 : Below (w5.heap.size + 1) _ w7 := (Below.refl _ _).grown hgrow7 (by simp) (fun q hq => by simp at hq)
  have hB7' := hB7
  rw [← World.size_alloc] at hB7'
  have hsk7 := hsk6.below hB7'
  clear hgrow7 hB7'
  go_wp2_with (at_builtin; refine wpList_append_fits _ rfl (.tmp 55) (.tmp 58) 26 rfl (w5.heap.size + 1) 31 i0 7 Trym.underlying26 hi hz1 (w5.heap.size + 1) 0 (L.length + 1) [] rfl hown7 ⟨g, 0, none⟩ k L.length (flat (L.take k)) rfl ?a1 ?a2 ?a3 (by omega) ?_)
  case a1 => rw [flat_length, List.length_take]; omega
  case a2 => exact (hsk7.take k).flat
  case a3 => exact flat_one _
  intro w8 hown8 hgrow8
  have hy : w5.heap.size + 1 < w7.heap.size := (hown7.lt _ rfl).2
  have hB8 : Below (w5.heap.size + 1) _ w8 := hB7.grown hgrow8 (by omega) (fun q hq => by simp at hq; omega)
  have hsz8 := hgrow8.size
  have hsx8 := hsx.below (hB8.mono (by simp))
  obtain ⟨_, y0, y1, y2, y3, y4, y5, y6⟩ := id hsx8
  clear hown7 hgrow8 hB7 hsk7 hsx8
  go_wp2_with (at_builtin; refine wpList_append_fits _ rfl (.tmp 60) (.tmp 62) 26 rfl (w5.heap.size + 1) 31 i0 7 Trym.underlying26 hi hz1 (w5.heap.size + 1) k (L.length + 1) (flat (L.take k)) rfl (hown8.alloc _) ⟨w8.heap.size, 0, none⟩ 1 1 x.cells rfl rfl ?a4 ?a5 (by omega) ?_)
  case a4 => exact new_cells _ _ _ _ _ rfl rfl
  case a5 => exact cells_one x
  intro w9 hown9 hgrow9
  clear y0 y1 y2 y3 y4 y5 y6
  have hB9 : Below (w5.heap.size + 1) _ w9 := (hB8.alloc (by omega) _).grown hgrow9 (by simp; omega) (fun q hq => by simp at hq; omega)
  have hsz9 : w5.heap.size + 1 ≤ w9.heap.size := by have := hgrow9.size; simp at this; omega
  clear hgrow9 hown8 hB8 hsz8 hy hB7'
  have hsk9 := hsk6.below (hB9.mono (by simp))
  obtain ⟨Y, eY⟩ : ∃ Y, Hid (L.take k ++ [x] ++ L.drop k = Y) := ⟨_, rfl⟩
  have lY : Hid (L.length + 1 = Y.length) := by show _ = _; rw [← eY.out]; simp; omega
  obtain ⟨A, eA⟩ : ∃ A, Hid (unsh (L.take k) = A) := ⟨_, rfl⟩
  obtain ⟨B, eB⟩ : ∃ B, Hid (unsh (L.drop k) = B) := ⟨_, rfl⟩
  have eW : Hid (unsh L = A ++ B) := by
    have e := unsh_split L k
    rw [eA.out, eB.out] at e
    exact e
  obtain ⟨nA, hA⟩ : ∃ m, Hid (A.length = m) := ⟨_, rfl⟩
  obtain ⟨nB, hB⟩ : ∃ m, Hid (B.length = m) := ⟨_, rfl⟩
  have lA : Hid ((unsh (L.take k)).length = nA) := by rw [eA.out]; exact hA
  have lW : Hid ((unsh L).length = nA + nB) := by rw [eW.out, List.length_append, hA.out, hB.out]; rfl
  have lAB : Hid (nA + nB = (A ++ B).length) := by show _ = _; rw [List.length_append, hA.out, hB.out]
  have eWW : Hid (unsh (A ++ B) = A ++ B) := by show _ = _; rw [← eW.out, unsh_unsh]
  have lWW : Hid ((unsh (A ++ B)).length = nA + nB) := by rw [eWW.out]; exact lAB.out.symm
  have hnAB : nA + nB ≤ L.length := by
    have e := unsh_take_le L L.length
    rw [List.take_of_length_le (Nat.le_refl _), lW.out] at e
    exact e
  by_cases hkl : k = L.length
  case' pos =>
    subst hkl
    have hown10 : w9.ownsRow (w5.heap.size + 1) 31 7 (.slice (some ⟨w5.heap.size + 1, 0, none⟩) (L.length + 1) (L.length + 1)) (L.length + 1) (flat Y) := by
      rw [← eY.out, flat_app, flat_app]
      simpa [Qxb6619271aMods.flat] using hown9
    have hB10 := hB9
    clear hown9
    go_wp2_with fail
  case' neg =>
    have hkl2 : ¬ L.length = k := fun h => hkl h.symm
    go_wp2_with (at_builtin; refine wpList_append_fits _ rfl (.tmp 64) (.tmp 67) 26 rfl (w5.heap.size + 1) 31 i0 7 Trym.underlying26 hi hz1 (w5.heap.size + 1) (k + 1) (L.length + 1) _ rfl hown9 ⟨g, k * 7, none⟩ (L.length - k) (L.length - k) (flat (L.drop k)) rfl ?a6 ?a7 ?a8 (by omega) ?_)
    case a6 => rw [flat_length, List.length_drop]
    case a7 => exact (hsk9.drop k _ rfl (fun _ => rfl)).flat
    case a8 => exact flat_one _
    intro w10 hown10 hgrow10
    rw [show k + 1 + (L.length - k) = L.length + 1 from by omega] at hown10 ⊢
    have hB10 : Below (w5.heap.size + 1) _ w10 := hB9.grown hgrow10 hsz9 (fun q hq => by simp at hq; omega)
    rw [show flat (L.take k) ++ (x.cells ++ flat (L.drop k)) = flat Y from by rw [← eY.out, flat_app, flat_app]; simp [Qxb6619271aMods.flat]] at hown10
    clear hown9 hgrow10
    go_wp2_with fail
  all_goals
    have hY10 : SkRow _ _ Y := OwnAt.row hown10
    have hsk10 := hsk6.below (hB10.mono (by simp))
    have hx10 := hx6.below (hB10.mono (by simp))
    have hsx10 := hsx.below (hB10.mono (by simp))
    have hr10 := hr6.below (hB10.mono (by simp))
    have hBb : Below w.heap.size w _ := hB6.trans (hB10.mono (by omega))
    clear hown10 hsk6 hx6 hsx hr6 hB6 hB10 hB9 hsk9 hi hz0 hz1 hz2
    refine (win9 L _ _ _ (nA + nB) _ rfl lW hL hsk10).mono ?_
    rintro e w11 ⟨aw, cw, rfl, hrw, hb11⟩
    rw [eW.out] at hrw
    have hY11 := hY10.below hb11
    have hx11 := hx10.below hb11
    have hsx11 := hsx10.below hb11
    have hr11 := hr10.below hb11
    have hB11 := hBb.trans (hb11.mono hBb.size)
    clear hsk10 hY10 hx10 hsx10 hr10 hBb hb11
    go_wp2_with fail
    cases hsh : x.sh
    case' true =>
      have eU : unsh Y = A ++ B := by rw [← eY.out, unsh_app, unsh_app, eA.out, eB.out]; simp [unsh, hsh]
      refine (win9 Y _ _ _ (nA + nB) _ lY (by show _ = _; rw [eU]; exact lAB.out.symm) (by omega) hY11).mono ?_
    case' false =>
      have eU : unsh Y = A ++ x :: B := by rw [← eY.out, unsh_app, unsh_app, eA.out, eB.out]; simp [unsh, hsh]
      refine (win9 Y _ _ _ (nA + nB + 1) _ lY (by show _ = _; rw [eU, List.length_append, List.length_cons, hA.out, hB.out]; omega) (by omega) hY11).mono ?_
    all_goals
      rintro e w12 ⟨ay, cy, rfl, hry, hb12⟩
      rw [eU] at hry
      have hrw12 := hrw.below hb12
      have hx12 := hx11.below hb12
      have hsx12 := hsx11.below hb12
      have hr12 := hr11.below hb12
      have hB12 := hB11.trans (hb12.mono hB11.size)
      clear hY11 hrw hx11 hsx11 hr11 hB11 hb12 eU
      go_wp2_with fail
      refine (win9 (A ++ B) _ _ _ (nA + nB) _ lAB lWW (by omega) hrw12).mono ?_
      rintro e w13 ⟨a3, c3, rfl, hr3, hb13⟩
      rw [eWW.out] at hr3
      have hry13 := hry.below hb13
      have hrw13 := hrw12.below hb13
      have hx13 := hx12.below hb13
      have hsx13 := hsx12.below hb13
      have hr13 := hr12.below hb13
      have hB13 := hB12.trans (hb13.mono hB12.size)
      clear hrw12 hx12 hsx12 hr12 hB12 hb13 hry
      go_wp2_with fail
      refine (same17 (A ++ B) _ _ _ _ _ _ lAB (by omega) hr3 hrw13).mono ?_
      rintro e w14 ⟨rfl, hb14⟩
      have hry14 := hry13.below hb14
      have hrw14 := hrw13.below hb14
      have hx14 := hx13.below hb14
      have hsx14 := hsx13.below hb14
      have hr14 := hr13.below hb14
      have hB14 := hB13.trans (hb14.mono hB13.size)
      clear hrw13 hx13 hsx13 hr13 hB13 hb14 hry13 hr3
      obtain ⟨_, y0, y1, y2, y3, y4, y5, y6⟩ := id hx14
      rw [hsh] at y4
      clear hx14 y0 y1 y2 y3 y5 y6
      go_wp2_with fail
    · refine (count10 L ao _ c _ nA _ rfl lA (by omega) hL hr14).mono ?_
      rintro e wx ⟨rfl, hwx⟩
      rw [hwx]
      clear hwx wx hr14
      go_wp2_with fail
      go_loopw [17] (fun i wr => ∃ j : Nat, j ≤ nA ∧ i = .int .i64 j ∧ Below w14.heap.size w14 wr) (fun i _ => nA - (intOf i).toNat)
      case atStart => exact ⟨0, Nat.zero_le _, rfl, Below.refl _ _⟩
      case round =>
        obtain ⟨j, hj, rfl, hnx⟩ := hrel
        by_cases hlt : j < nA
        · have hs : A[j]? = some (A[j]'(by rw [hA.out]; exact hlt)) := by simp
          obtain ⟨s, hs'⟩ : ∃ s, s = A[j]'(by rw [hA.out]; exact hlt) := ⟨_, rfl⟩
          rw [← hs'] at hs
          have hsW : (A ++ B)[j]? = some s := by rw [List.getElem?_append_left (by rw [hA.out]; exact hlt)]; exact hs
          have hsY : (A ++ x :: B)[j]? = some s := by rw [List.getElem?_append_left (by rw [hA.out]; exact hlt)]; exact hs
          obtain ⟨b1, o1, rfl, hbl1, p0, p1, p2, p3, p4, p5, p6⟩ := (hrw14.below hnx).at7 hsW
          obtain ⟨b2, o2, rfl, hbl2, q0, q1, q2, q3, q4, q5, q6⟩ := (hry14.below hnx).at7 hsY
          have hjA : (j : Int) < (nA : Int) := by omega
          have hjW : (j : Int) < (nA : Int) + (nB : Int) := by omega
          have hjY : (j : Int) < (nA : Int) + (nB : Int) + 1 := by omega
          clear hs hs' hsW hsY hrw14 hry14 hsx14 y4
          go_wp2_with fail
          go_quiet (fail)
          go_wp2
          go_roundw
          case rel => exact ⟨j + 1, by omega, by go_num, below_drewN hnx _⟩
          case measure => simp [intOf]; omega
        · clear hj
          have hsY : (A ++ x :: B)[nA]? = some x := by rw [List.getElem?_append_right (by rw [hA.out]; exact Nat.le_refl _), hA.out]; simp
          obtain ⟨_, y0, y1, y2, y3, y4, y5, y6⟩ := hsx14.below hnx
          obtain ⟨b2, o2, hay, hbl2, q0, q1, q2, q3, q4, q5, q6⟩ := (hry14.below hnx).at7 hsY
          rw [hay] at hry14 ⊢
          clear hay ay
          have hjY : (nA : Int) < (nA : Int) + (nB : Int) + 1 := by omega
          rw [hsh] at q4 y4
          clear hsY hsx14
          go_wp2_with fail
          go_quiet (fail)
          go_wp2_with fail
          clear y0 y1 y2 y3 y4 y5 y6 q0 q1 q2 q3 q4 q5 q6
          go_loopw [18] (fun i wr => ∃ j : Nat, j ≤ nB ∧ i = .int .i64 ((nA : Int) + (j : Int)) ∧ Below w14.heap.size w14 wr) (fun i _ => nA + nB - (intOf i).toNat)
          case atStart => exact ⟨0, Nat.zero_le _, by simp, below_drewN hnx _⟩
          case round =>
            clear hnx
            obtain ⟨m, hj, rfl, hnx⟩ := hrel
            by_cases hlt2 : m < nB
            · have hs : B[m]? = some (B[m]'(by rw [hB.out]; exact hlt2)) := by simp
              obtain ⟨s, hs'⟩ : ∃ s, s = B[m]'(by rw [hB.out]; exact hlt2) := ⟨_, rfl⟩
              rw [← hs'] at hs
              have hsW : (A ++ B)[nA + m]? = some s := by rw [List.getElem?_append_right (by rw [hA.out]; omega), hA.out, Nat.add_sub_cancel_left]; exact hs
              have hsY : (A ++ x :: B)[nA + m + 1]? = some s := by
                rw [List.getElem?_append_right (by rw [hA.out]; omega), hA.out, show nA + m + 1 - nA = m + 1 from by omega]
                simpa using hs
              obtain ⟨b1, o1, rfl, hbl1, p0, p1, p2, p3, p4, p5, p6⟩ := (hrw14.below hnx).at7 hsW
              obtain ⟨b3, o3, e3, hbl3, q0, q1, q2, q3, q4, q5, q6⟩ := (hry14.below hnx).at7 hsY
              simp only [Option.some.injEq, Addr.mk.injEq, and_true] at e3
              obtain ⟨rfl, rfl⟩ := e3
              have hjW : (nA : Int) + (m : Int) < (nA : Int) + (nB : Int) := by omega
              have hjY : (nA : Int) + (m : Int) + 1 < (nA : Int) + (nB : Int) + 1 := by omega
              clear hs hs' hsW hsY hrw14 hry14
              go_wp2_with fail
              go_quiet (fail)
              go_wp2
              go_roundw
              case rel => exact ⟨m + 1, by omega, by go_num, below_drewN hnx _⟩
              case measure => simp [intOf]; omega
            · go_wp2
              go_ret
              exact ⟨rfl, hB14.trans (hnx.mono hB14.size)⟩
    · refine (same17 (A ++ B) _ _ _ _ _ _ lAB (by omega) hry14 hrw14).mono ?_
      rintro e w15 ⟨rfl, hb15⟩
      go_wp2
      go_ret
      exact ⟨rfl, hB14.trans (hb15.mono hB14.size)⟩
end Go.Proofs.Qxb6619271aMods
