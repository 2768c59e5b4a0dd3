/-
  THE WALK of FnAppendNameReadsBackItsLabels (4).
-/
import Derived.Test.Qxb6608522aModsCut
namespace Go.Proofs.Qxb6608522aMods
open Go.RowKit

/-- The first k labels are 1 to 255 bytes long. -/
def Fits (L : List ByteArray) (k : Nat) : Prop := ∀ s ∈ L.take k, 1 ≤ s.size ∧ s.size ≤ 255

theorem Fits.next {L : List ByteArray} {k : Nat} {s : ByteArray} (h : Fits L k) (hk : L[k]? = some s) (h1 : 1 ≤ s.size) (h2 : s.size ≤ 255) : Fits L (k + 1) := by
  intro t ht
  rw [List.take_add_one, hk] at ht
  rcases List.mem_append.1 ht with h3 | h3
  · exact h t h3
  · simp at h3; subst h3; exact ⟨h1, h2⟩

theorem Fits.all {L : List ByteArray} {k : Nat} (h : Fits L k) (hk : L.length ≤ k) : ∀ s ∈ L, 1 ≤ s.size ∧ s.size ≤ 255 := by
  intro s hs
  exact h s (by rw [List.take_of_length_le hk]; exact hs)

/-- Where label k begins: its length's byte. -/
theorem name_len {L : List ByteArray} {k : Nat} {s : ByteArray} (h : L[k]? = some s) : (nameB L ++ [0])[lenN (L.take k)]? = some (lenB s) := by
  have hk := (List.getElem?_eq_some_iff.1 h).1
  have e : nameB L = nameB (L.take k) ++ (lenB s :: (sB s ++ nameB (L.drop (k + 1)))) := by
    have e1 : L = L.take k ++ (s :: L.drop (k + 1)) := by
      rw [← (List.getElem?_eq_some_iff.1 h).2, ← List.drop_eq_getElem_cons hk, List.take_append_drop]
    conv => lhs; rw [e1]
    simp [nameB]
  rw [e, List.append_assoc, List.getElem?_append_right (by rw [lenN]; exact Nat.le_refl _), lenN, Nat.sub_self]
  rfl

/-- .. and its bytes behind it. -/
theorem name_byte {L : List ByteArray} {k j : Nat} {s : ByteArray} (h : L[k]? = some s) (hj : j < s.size) : (nameB L ++ [0])[lenN (L.take k) + 1 + j]? = some ((s[j].toNat : Int)) := by
  have hk := (List.getElem?_eq_some_iff.1 h).1
  have e : nameB L = nameB (L.take k) ++ (lenB s :: (sB s ++ nameB (L.drop (k + 1)))) := by
    have e1 : L = L.take k ++ (s :: L.drop (k + 1)) := by
      rw [← (List.getElem?_eq_some_iff.1 h).2, ← List.drop_eq_getElem_cons hk, List.take_append_drop]
    conv => lhs; rw [e1]
    simp [nameB]
  rw [e, List.append_assoc, List.getElem?_append_right (by rw [lenN]; omega), show lenN (L.take k) + 1 + j - (nameB (L.take k)).length = j + 1 by rw [lenN]; omega]
  rw [List.cons_append, List.getElem?_cons_succ, List.append_assoc, List.getElem?_append_left (by rw [sB_length]; exact hj)]
  have hj' : j < s.data.size := hj
  rw [sB, List.getElem?_map, Array.getElem?_toList, Array.getElem?_eq_getElem hj']
  rfl

theorem name_end (L : List ByteArray) : (nameB L ++ [0])[lenN L]? = some 0 := by
  rw [List.getElem?_append_right (by rw [lenN]; exact Nat.le_refl _), lenN, Nat.sub_self]
  rfl

set_option maxRecDepth 100000 in
set_option maxHeartbeats 8000000 in
theorem back_walk (Z : List Int) (L : List ByteArray) (ao lo : Option Addr) (nb cb n c : Nat) (w : World) (hZ : Hid (nb = Z.length)) (hn : Hid (n = L.length)) (hnb : nb ≤ 9223372036854775807) (hm : n ≤ 9223372036854775807)
    (hao : ao = none → nb = 0) (hlo : lo = none → n = 0 ∧ c = 0) (hrb : BRow w w.heap.size ao Z) (hrl : SRow w w.heap.size lo L) :
    Calls Trym.prog 4 #[.slice ao nb cb, .slice lo n c] w fun e w' => e = .returned (.bool true) ∧ Below w.heap.size w w' := by
  have hne := fun wx a => run_neq_slice_nil_any (P := Trym.prog) wx 23 9 a n c 0 0 Trym.underlying23
  have Hao : Hid (ao = none → nb = 0) := hao
  have Hlo : Hid (lo = none → n = 0 ∧ c = 0) := hlo
  clear hao hlo
  go_enter Trym.func4, Trym.ntmps4
  go_wp2_with fail
  refine (bytes8 L ao lo nb cb n c w.heap.size w hn hnb hm hrl).mono ?_
  rintro e w1 ⟨⟨b, rfl, hsm0⟩, hw1⟩
  rw [hw1]
  clear hw1 w1
  cases b
  · clear hsm0
    go_wp2
    go_ret
    exact ⟨rfl, Below.refl _ _⟩
  have hsm : Hid (∀ s ∈ L, s.size ≤ 1048576) := hsm0 rfl
  clear hsm0
  by_cases h1 : nb ≤ 1048576
  case neg =>
    go_wp2
    go_ret
    exact ⟨rfl, Below.refl _ _⟩
  by_cases h2 : n ≤ 1048576
  case neg =>
    go_wp2
    go_ret
    exact ⟨rfl, Below.refl _ _⟩
  go_upto_if 30 with fail
  go_cut [1] (fun s1 wc => ∃ lo', s1 = .slice lo' n n ∧ Hid (lo' = none → n = 0) ∧ SRow wc wc.heap.size lo' L ∧ Below w.heap.size w wc)
  case first =>
    cases lo with
    | none =>
      obtain ⟨rfl, rfl⟩ := Hlo.out rfl
      go_wp2
      go_meet
      case rel => exact ⟨none, rfl, fun _ => trivial, hrl, Below.refl _ _⟩
    | some a =>
      clear Hlo hne
      obtain ⟨i0, hi, hz0, hz1, hz2⟩ := info_parts Trym.info9
      go_wp2_with (at_make; refine wpList_make_full _ rfl _ _ 23 rfl w.heap.size 9 i0 _ 1 Trym.underlying23 hi hz0 hz1 .i64 .i64 _ _ n rfl rfl rfl rfl (by rw [hz2]; omega) (by unfold maxLen; omega) (Nat.le_refl _) ?_)
      intro w1 hown1 hgrow1
      have hb1 : Below w.heap.size w w1 := (Below.refl _ _).grown hgrow1 (Nat.le_refl _) (fun q hq => by simp at hq)
      have hrl1 := hrl.below hb1
      obtain ⟨cur, hblk, hcs⟩ : ∃ cur : List Value, w1.heap[w.heap.size]? = some (.cells cur.toArray 9 (0, 0)) ∧ cur.length = n := by
        rcases hown1.2 with ⟨h, _⟩ | ⟨g', cap', cur, h, _, hg, _, _, hc, _⟩
        · simp at h
        · simp only [Value.slice.injEq, Option.some.injEq, Addr.mk.injEq, and_true, true_and] at h
          obtain ⟨rfl, rfl⟩ := h
          exact ⟨cur.toList, by simpa using hg, by simpa using hc⟩
      have hlt1 := (hown1.lt _ rfl).2
      have HB : Hid (w1.heap[w.heap.size]? = some (.cells cur.toArray 9 (0, 0))) := hblk
      have HC : Hid (cur.length = n) := hcs
      clear hown1 hgrow1 hblk hcs hrl
      go_upto_region 7 with fail
      go_wp2_with (refine wpList_copy_splice rfl (.tmp 34) (.tmp 35) 23 23 rfl 9 Trym.underlying23 (by rw [hi]; simp [hz1]) (some ⟨w.heap.size, 0, none⟩) (some a) n n n c rfl rfl w.heap.size 0 cur 9 HB.out (L.map Value.string) ?k1 ?k2 ?k3 (strings_one L) w.heap.size w hb1 (Nat.le_refl _) ?_)
      case k1 => exact hn.out.symm
      case k2 => exact fun _ => srow_cells hrl1
      case k3 => have e1 := hn.out; have e2 := HC.out; simp; omega
      intro w2 hblk2 hb2
      go_wp2
      go_meet
      case rel =>
        have hcur : splice cur 0 (L.map Value.string) = L.map Value.string := by
          rw [splice, List.take_zero, List.nil_append, List.drop_eq_nil_of_le (by rw [HC.out, List.length_map, ← hn.out]; omega), List.append_nil]
        have hblk3 := hblk2.out
        rw [hcur] at hblk3
        exact ⟨some ⟨w.heap.size, 0, none⟩, rfl, fun h => by simp at h, srow_of_block hblk3 (lt_of_block hblk3), hb2⟩
  case rest =>
    obtain ⟨lo', rfl, hlo', hrl', hBc⟩ := hcut
    have hrb' := hrb.below hBc
    clear hrb hrl hne Hlo
    by_cases h3 : nb + 16 * n ≤ 1048576
    case neg =>
      go_wp2
      go_ret
      exact ⟨rfl, hBc⟩
    go_wp2
    go_loop [6, 7] (fun t i => ∃ (k q : Nat), k ≤ n ∧ i = .int .i64 k ∧ Hid (q = sumS (L.take k)) ∧ t = .int .i64 ((nb : Int) + 16 * (n : Int) + (q : Int)) ∧ nb + 16 * n + q ≤ 1048576) (fun _ i => n - (intOf i).toNat)
    case atStart => exact ⟨0, 0, Nat.zero_le _, rfl, rfl, by simp, by omega⟩
    case round =>
      obtain ⟨k, q, hk, rfl, hq, rfl, hle⟩ := hrel
      by_cases hlt : k < n
      · have hs : L[k]? = some (L[k]'(by rw [← hn.out]; exact hlt)) := by simp
        obtain ⟨s, hs'⟩ : ∃ s, s = L[k]'(by rw [← hn.out]; exact hlt) := ⟨_, rfl⟩
        rw [← hs'] at hs
        obtain ⟨b, off, rfl, hbl, hbs, c0⟩ := hrl'.at1 hs
        have hss : s.size ≤ 1048576 := hsm.out s (List.mem_of_getElem? hs)
        have hki : (k : Int) < (n : Int) := by omega
        have HQ : Hid (sumS (L.take (k + 1)) = sumS (L.take k) + s.size) := sumS_snoc hs
        clear hs hs' hrl' hrb'
        by_cases h4 : nb + 16 * n + q + s.size ≤ 1048576
        · go_wp2
          go_round
          case rel => exact ⟨k + 1, q + s.size, by omega, by go_num, by show _ = _; rw [HQ.out, hq.out], by go_num, by omega⟩
          case measure => simp [intOf]; omega
        · go_wp2
          go_ret
          exact ⟨rfl, hBc⟩
      · have hkn : k = n := by omega
        subst hkn
        have hN : lenN L ≤ 1048576 := by
          have e1 := lenN_sum L
          have e2 := hq.out
          rw [List.take_of_length_le (by rw [← hn.out]; exact Nat.le_refl _)] at e2
          have e3 := hn.out
          omega
        clear hq hlt hk hsm
        go_wp2_with fail
        go_loop [8] (fun i => ∃ (m : Nat), m ≤ k ∧ i = .int .i64 m ∧ Fits L m) (fun i => k - (intOf i).toNat)
        case atStart => exact ⟨0, Nat.zero_le _, rfl, fun s hs => by simp at hs⟩
        case round =>
          obtain ⟨m, hmk, rfl, hft⟩ := hrel
          by_cases hlt : m < k
          · have hs : L[m]? = some (L[m]'(by rw [← hn.out]; exact hlt)) := by simp
            obtain ⟨s, hs'⟩ : ∃ s, s = L[m]'(by rw [← hn.out]; exact hlt) := ⟨_, rfl⟩
            rw [← hs'] at hs
            obtain ⟨b, off, rfl, hbl, hbs, c1⟩ := hrl'.at1 hs
            have hki : (m : Int) < (k : Int) := by omega
            have HS : Hid (L[m]? = some s) := hs
            clear hs hs' hrl' hrb'
            by_cases hs1 : s.size < 1
            · go_wp2
              go_ret
              exact ⟨rfl, hBc⟩
            · by_cases hs2 : 255 < s.size
              · go_wp2
                go_ret
                exact ⟨rfl, hBc⟩
              · go_wp2
                go_round
                case rel => exact ⟨m + 1, by omega, by go_num, hft.next HS.out (by omega) (by omega)⟩
                case measure => simp [intOf]; omega
          · have hfit : Hid (∀ s ∈ L, 1 ≤ s.size ∧ s.size ≤ 255) := hft.all (by rw [← hn.out]; omega)
            obtain ⟨N, hNN⟩ : ∃ m, Hid (lenN L = m) := ⟨_, rfl⟩
            have hNb : N ≤ 1048576 := by rw [← hNN.out]; exact hN
            clear hft hN
            go_wp2_with fail
            clear hlt hmk
            refine (copy6r Z ao nb cb w.heap.size wc hZ h1 Hao.out hrb' hBc.size).mono ?_
            rintro e w2 ⟨a0, c0, rfl, hown2, hrb2, ha0, hb2⟩
            have hrl2 := (hrl'.below hb2).mono hb2.size
            have Ha0 : Hid (a0 = none → nb = 0) := ha0
            have hB2 := hBc.trans (hb2.mono hBc.size)
            clear hown2 ha0 hb2 hrb' hrl' Hao hBc
            go_wp2_with fail
            refine (copy6r Z a0 nb c0 w2.heap.size w2 hZ h1 Ha0.out hrb2 (Nat.le_refl _)).mono ?_
            rintro e w3 ⟨a1, c1, rfl, hown3, hx, hx2, hb3⟩
            clear hx hx2
            go_wp2_with fail
            refine (name7 Z L _ lo' k k nb N w2.heap.size w3 hn (by omega) hNN (by omega) hown3 (hrl2.below hb3) hb3.size).mono ?_
            rintro e w4 ⟨ac, cc, rfl, hro, hb4⟩
            have hb24 : Below w2.heap.size w2 w4 := hb3.trans hb4
            have hB4 := hB2.trans (hb24.mono hB2.size)
            have hrb4 := (hrb2.below hb24).mono hb24.size
            have hrl4 := (hrl2.below hb24).mono hb24.size
            clear hown3 hb3 hb4 hrb2 hrl2 hB2 hb24
            go_wp2_with fail
            refine (name7 [] L _ lo' k k 0 N w4.heap.size w4 hn (by omega) hNN (by omega) (World.ownsRow_nil _ _ _ _) hrl4 (Nat.le_refl _)).mono ?_
            rintro e w5 ⟨al, cl, rfl, hra, hb5⟩
            rw [List.nil_append] at hra
            obtain ⟨A, eA⟩ : ∃ A : List Int, Hid (nameB L ++ [0] = A) := ⟨nameB L ++ [0], rfl⟩
            have lA : Hid (A.length = N + 1) := by show _ = _; rw [← eA.out, List.length_append, ← hNN.out]; rfl
            rw [List.append_assoc, eA.out] at hro
            rw [eA.out] at hra
            have hro5 := (hro.below hb5).mono hb5.size
            have hrb5 := (hrb4.below hb5).mono hb5.size
            have hrs5 := (hrl4.below hb5).mono hb5.size
            have hB5 := hB4.trans (hb5.mono hB4.size)
            clear hro hrb4 hrl4 hB4 hb5
            have g3 : ((nb : Int) + (N : Int) + 1 != (nb : Int) + ((N : Int) + 1)) = false := by simp; omega
            go_wp2_with fail
            clear g3
            go_loopw [11] (fun i wr => ∃ m : Nat, m ≤ nb ∧ i = .int .i64 m ∧ Below w5.heap.size w5 wr) (fun i _ => nb - (intOf i).toNat)
            case atStart => exact ⟨0, Nat.zero_le _, rfl, Below.refl _ _⟩
            case round =>
              obtain ⟨m, hmn, rfl, hnx⟩ := hrel
              by_cases hlt : m < nb
              · have hs : Z[m]? = some (Z[m]'(by rw [← hZ.out]; exact hlt)) := by simp
                obtain ⟨z, hz⟩ : ∃ z, z = Z[m]'(by rw [← hZ.out]; exact hlt) := ⟨_, rfl⟩
                rw [← hz] at hs
                have hsO : (Z ++ A)[m]? = some z := by rw [List.getElem?_append_left (by rw [← hZ.out]; exact hlt)]; exact hs
                obtain ⟨b3, o3, rfl, _, _, p3⟩ := (hrb5.below hnx).at1 hs
                obtain ⟨b4, o4, rfl, _, _, p4⟩ := (hro5.below hnx).at1 hsO
                have i1 : (m : Int) < (nb : Int) := by omega
                have i2 : (m : Int) < (nb : Int) + (N : Int) + 1 := by omega
                clear hs hz hsO hra hro5 hrb5 hrs5
                go_wp2_with fail
                go_quiet (fail)
                go_wp2
                go_roundw
                case rel => exact ⟨m + 1, by omega, by go_num, below_drewN hnx _⟩
                case measure => simp [intOf]; omega
              · go_wp2_with fail
                clear hlt hmn
                go_loopw [12] (fun i wr => ∃ m : Nat, m ≤ N + 1 ∧ i = .int .i64 m ∧ Below w5.heap.size w5 wr) (fun i _ => N + 1 - (intOf i).toNat)
                case atStart => exact ⟨0, Nat.zero_le _, rfl, hnx⟩
                case round =>
                  clear hnx
                  obtain ⟨m, hmn, rfl, hnx⟩ := hrel
                  by_cases hlt : m < N + 1
                  · have hs : A[m]? = some (A[m]'(by rw [lA.out]; exact hlt)) := by simp
                    obtain ⟨z, hz⟩ : ∃ z, z = A[m]'(by rw [lA.out]; exact hlt) := ⟨_, rfl⟩
                    rw [← hz] at hs
                    have hsO : (Z ++ A)[nb + m]? = some z := by rw [List.getElem?_append_right (by rw [← hZ.out]; omega), ← hZ.out, Nat.add_sub_cancel_left]; exact hs
                    obtain ⟨b3, o3, rfl, _, _, p3⟩ := (hra.below hnx).at1 hs
                    obtain ⟨b4, o4, rfl, _, _, p4⟩ := (hro5.below hnx).at1 hsO
                    have i1 : (m : Int) < (N : Int) + 1 := by omega
                    have i2 : (nb : Int) + (m : Int) < (nb : Int) + (N : Int) + 1 := by omega
                    clear hs hz hsO hra hro5 hrb5 hrs5
                    go_wp2_with fail
                    go_quiet (fail)
                    go_wp2
                    go_roundw
                    case rel => exact ⟨m + 1, by omega, by go_num, below_drewN hnx _⟩
                    case measure => simp [intOf]; omega
                  · go_wp2_with fail
                    clear hlt hmn hro5 hrb5
                    go_loopw [13, 14] (fun t i wr => ∃ (m p : Nat), m ≤ k ∧ i = .int .i64 m ∧ t = .int .i64 p ∧ Hid (p = lenN (L.take m)) ∧ p ≤ N ∧ Below w5.heap.size w5 wr) (fun _ i _ => k - (intOf i).toNat)
                    case atStart => exact ⟨0, 0, Nat.zero_le _, rfl, rfl, rfl, Nat.zero_le _, hnx⟩
                    case round =>
                      clear hnx
                      obtain ⟨m, p, hmk, rfl, rfl, hp, hpN, hnx⟩ := hrel
                      by_cases hlt : m < k
                      · have hs : L[m]? = some (L[m]'(by rw [← hn.out]; exact hlt)) := by simp
                        obtain ⟨s, hs'⟩ : ∃ s, s = L[m]'(by rw [← hn.out]; exact hlt) := ⟨_, rfl⟩
                        rw [← hs'] at hs
                        obtain ⟨hs1, hs2⟩ := hfit.out s (List.mem_of_getElem? hs)
                        have hsA : A[p]? = some (s.size : Int) := by
                          rw [← eA.out, hp.out, name_len hs]
                          simp [lenB]
                          omega
                        have hby : Hid (∀ (i : Nat) (h : i < s.size), A[p + 1 + i]? = some ((s[i].toNat : Int))) := fun i h => by
                          rw [← eA.out, hp.out]
                          exact name_byte hs h
                        have e1 := lenN_snoc hs
                        have e2 := lenN_take_le L (m + 1)
                        have e3 := hNN.out
                        have e4 := hp.out
                        have hp3 : p + 1 + s.size ≤ N := by omega
                        have HP : Hid (p + 1 + s.size = lenN (L.take (m + 1))) := by show _ = _; omega
                        have HS : Hid (L[m]? = some s) := hs
                        have hrs := hrs5.below hnx
                        have hrA := hra.below hnx
                        obtain ⟨b3, o3, rfl, _, _, p3⟩ := hrs.at1 hs
                        obtain ⟨b4, o4, rfl, _, _, p4⟩ := hrA.at1 hsA
                        have i1 : (m : Int) < (k : Int) := by omega
                        have i2 : (p : Int) < (N : Int) + 1 := by omega
                        clear hs hs' hsA e1 e2 e3 e4 hp
                        go_wp2_with fail
                        clear p3 p4 i1 i2 hrs hrA
                        go_loopw [16] (fun i wr => ∃ (j : Nat), j ≤ s.size ∧ i = .int .i64 j ∧ Below w5.heap.size w5 wr) (fun i _ => s.size - (intOf i).toNat)
                        case atStart => exact ⟨0, Nat.zero_le _, rfl, hnx⟩
                        case round =>
                          clear hnx
                          obtain ⟨j, hjs, rfl, hnx⟩ := hrel
                          by_cases hlj : j < s.size
                          · obtain ⟨b5, o5, e5, _, _, p3⟩ := (hrs5.below hnx).at1 HS.out
                            obtain ⟨b6, o6, e6, _, _, p4⟩ := (hra.below hnx).at1 (hby.out j hlj)
                            simp only [Option.some.injEq, Addr.mk.injEq, and_true] at e5 e6
                            obtain ⟨rfl, rfl⟩ := e5
                            obtain ⟨rfl, rfl⟩ := e6
                            have i1 : (m : Int) < (k : Int) := by omega
                            have i2 : (p : Int) + 1 + (j : Int) < (N : Int) + 1 := by omega
                            have i3 : (j : Int) < (s.size : Int) := by omega
                            clear hrs5 hra
                            go_wp2_with fail
                            go_quiet (fail)
                            go_wp2
                            go_roundw
                            case rel => exact ⟨j + 1, by omega, by go_num, below_drewN hnx _⟩
                            case measure => simp [intOf]; omega
                          · go_wp2
                            go_roundw
                            case rel => exact ⟨m + 1, p + 1 + s.size, by omega, by go_num, by go_num, HP, by omega, hnx⟩
                            case measure => simp [intOf]; omega
                      · have hpe : p = N := by
                          have e2 := hp.out
                          rw [List.take_of_length_le (by rw [← hn.out]; omega)] at e2
                          rw [e2]; exact hNN.out
                        subst hpe
                        have hsA : A[p]? = some 0 := by
                          rw [← eA.out, ← hNN.out]
                          exact name_end L
                        obtain ⟨b4, o4, rfl, _, _, p4⟩ := (hra.below hnx).at1 hsA
                        have i2 : (p : Int) < (p : Int) + 1 := by omega
                        clear hsA hra hrs5 hp
                        go_wp2
                        go_ret
                        exact ⟨rfl, hB5.trans (hnx.mono hB5.size)⟩
end Go.Proofs.Qxb6608522aMods
