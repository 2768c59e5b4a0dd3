/-
  Rows of strings, cut; THE WALK of FnAppendNameCutAtAnyLabel (3).
-/
import Derived.Test.Qxb6608522aModsBytes
import Derived.Deep.DeepCutAuto
import Derived.Deep.RegionWith
namespace Go.Proofs.Qxb6608522aMods
open Go.RowKit

/-- A block of strings that is known whole is a row of strings. -/
theorem srow_of_block {w : World} {g : Nat} {L : List ByteArray} (h : w.heap[g]? = some (.cells (L.map Value.string).toArray 9 (0, 0))) (hg : g < w.heap.size) : SRow w w.heap.size (some ⟨g, 0, none⟩) L := by
  refine .inr ⟨g, 0, rfl, hg, hg, fun k s hk => ?_⟩
  rw [cell_of_row w g _ _ _ (0, 0) h, Nat.zero_add]
  simp [hk]

/-- What a copy of the labels reads. -/
theorem srow_cells {w : World} {B : Nat} {a : Addr} {L : List ByteArray} (h : SRow w B (some a) L) : ∀ j s, L[j]? = some s → w.cell? (a.add j) = some (.string s) := by
  intro j s hs
  obtain ⟨b, off, e, _, _, hc⟩ := h.at1 hs
  simp only [Option.some.injEq] at e
  subst e
  rw [Addr.add_lit]
  exact hc

/-- The part ahead of a cut. -/
theorem SRow.take {w : World} {B : Nat} {ao : Option Addr} {L : List ByteArray} (h : SRow w B ao L) (k : Nat) : SRow w B ao (L.take k) := by
  rcases h with rfl | ⟨b, off, rfl, hlt, hs, hc⟩
  · exact .inl (by simp)
  · refine .inr ⟨b, off, rfl, hlt, hs, fun i s hi => hc i s ?_⟩
    rw [List.getElem?_take] at hi
    split at hi
    · exact hi
    · simp at hi

/-- The part behind a cut: at the capacity's end Go keeps the array's own address, and nothing is read. -/
theorem SRow.drop {w : World} {B : Nat} {ao : Option Addr} {L : List ByteArray} (h : SRow w B ao L) (k n : Nat) (hn : n = L.length) : SRow w B (if n = k then ao else ao.map (fun x => x.add k)) (L.drop k) := by
  split
  · next e => exact .inl (List.drop_eq_nil_of_le (by omega))
  · rcases h with rfl | ⟨b, off, rfl, hlt, hs, hc⟩
    · exact .inl (by simp)
    · refine .inr ⟨b, off + k, by simp [Addr.add_lit], hlt, hs, fun i s hi => ?_⟩
      rw [List.getElem?_drop] at hi
      have := hc (k + i) s hi
      rwa [← Nat.add_assoc] at this

/-- The bytes of all labels together. -/
def sumS (L : List ByteArray) : Nat := (L.map ByteArray.size).sum

theorem sumS_snoc {L : List ByteArray} {k : Nat} {s : ByteArray} (h : L[k]? = some s) : sumS (L.take (k + 1)) = sumS (L.take k) + s.size := by
  rw [List.take_add_one, h]
  simp [sumS]

theorem lenN_sum (L : List ByteArray) : lenN L = L.length + sumS L := by
  induction L with
  | nil => rfl
  | cons s L ih =>
    have e : nameB (s :: L) = (lenB s :: sB s) ++ nameB L := by simp [nameB]
    have e2 : sumS (s :: L) = s.size + sumS L := by simp [sumS]
    rw [lenN, e, List.length_append, e2]
    have : (nameB L).length = L.length + sumS L := ih
    rw [this]
    simp [sB_length]
    omega

theorem strings_one (L : List ByteArray) : ∀ v ∈ L.map Value.string, v.oneCell' = true := by
  intro v hv
  obtain ⟨s, _, rfl⟩ := List.mem_map.1 hv
  rfl

set_option maxRecDepth 100000 in
set_option maxHeartbeats 8000000 in
theorem cut_walk (Z : List Int) (L : List ByteArray) (ao lo : Option Addr) (nb cb n c : Nat) (k0 : Int) (w : World) (hZ : Hid (nb = Z.length)) (hn : Hid (n = L.length)) (hnb : nb ≤ 9223372036854775807) (hm : n ≤ 9223372036854775807)
    (hao : ao = none → nb = 0) (hlo : lo = none → n = 0 ∧ c = 0) (hrb : BRow w w.heap.size ao Z) (hrl : SRow w w.heap.size lo L) :
    Calls Trym.prog 3 #[.slice ao nb cb, .slice lo n c, .int .i64 k0] w fun e w' => e = .returned (.bool true) ∧ Below w.heap.size w w' := by
  have hne := fun wx a => run_neq_slice_nil_any (P := Trym.prog) wx 23 9 a n c 0 0 Trym.underlying23
  have Hao : Hid (ao = none → nb = 0) := hao
  have Hlo : Hid (lo = none → n = 0 ∧ c = 0) := hlo
  clear hao hlo
  go_enter Trym.func3, Trym.ntmps3
  go_wp2_with fail
  refine (bytes5 L ao lo nb cb n c w.heap.size k0 w hn hnb hm hrl).mono ?_
  rintro e w1 ⟨⟨b, rfl, hsm0⟩, hw1⟩
  rw [hw1]
  clear hw1 w1
  cases b
  · clear hsm0
    go_wp2
    go_ret
    exact ⟨rfl, Below.refl _ _⟩
  have hsm : Hid (∀ s ∈ L, s.size ≤ 1048576) := hsm0 rfl
  clear hsm0
  by_cases h1 : nb ≤ 1048576
  case neg =>
    go_wp2
    go_ret
    exact ⟨rfl, Below.refl _ _⟩
  by_cases h2 : n ≤ 1048576
  case neg =>
    go_wp2
    go_ret
    exact ⟨rfl, Below.refl _ _⟩
  go_upto_if 32 with fail
  go_cut [1] (fun s1 wc => ∃ lo', s1 = .slice lo' n n ∧ Hid (lo' = none → n = 0) ∧ SRow wc wc.heap.size lo' L ∧ Below w.heap.size w wc)
  case first =>
    cases lo with
    | none =>
      obtain ⟨rfl, rfl⟩ := Hlo.out rfl
      go_wp2
      go_meet
      case rel => exact ⟨none, rfl, fun _ => trivial, hrl, Below.refl _ _⟩
    | some a =>
      clear Hlo hne
      obtain ⟨i0, hi, hz0, hz1, hz2⟩ := info_parts Trym.info9
      go_wp2_with (at_make; refine wpList_make_full _ rfl _ _ 23 rfl w.heap.size 9 i0 _ 1 Trym.underlying23 hi hz0 hz1 .i64 .i64 _ _ n rfl rfl rfl rfl (by rw [hz2]; omega) (by unfold maxLen; omega) (Nat.le_refl _) ?_)
      intro w1 hown1 hgrow1
      have hb1 : Below w.heap.size w w1 := (Below.refl _ _).grown hgrow1 (Nat.le_refl _) (fun q hq => by simp at hq)
      have hrl1 := hrl.below hb1
      obtain ⟨cur, hblk, hcs⟩ : ∃ cur : List Value, w1.heap[w.heap.size]? = some (.cells cur.toArray 9 (0, 0)) ∧ cur.length = n := by
        rcases hown1.2 with ⟨h, _⟩ | ⟨g', cap', cur, h, _, hg, _, _, hc, _⟩
        · simp at h
        · simp only [Value.slice.injEq, Option.some.injEq, Addr.mk.injEq, and_true, true_and] at h
          obtain ⟨rfl, rfl⟩ := h
          exact ⟨cur.toList, by simpa using hg, by simpa using hc⟩
      have hlt1 := (hown1.lt _ rfl).2
      have HB : Hid (w1.heap[w.heap.size]? = some (.cells cur.toArray 9 (0, 0))) := hblk
      have HC : Hid (cur.length = n) := hcs
      clear hown1 hgrow1 hblk hcs hrl
      go_upto_region 7 with fail
      go_wp2_with (refine wpList_copy_splice rfl (.tmp 36) (.tmp 37) 23 23 rfl 9 Trym.underlying23 (by rw [hi]; simp [hz1]) (some ⟨w.heap.size, 0, none⟩) (some a) n n n c rfl rfl w.heap.size 0 cur 9 HB.out (L.map Value.string) ?k1 ?k2 ?k3 (strings_one L) w.heap.size w hb1 (Nat.le_refl _) ?_)
      case k1 => exact hn.out.symm
      case k2 => exact fun _ => srow_cells hrl1
      case k3 => have e1 := hn.out; have e2 := HC.out; simp; omega
      intro w2 hblk2 hb2
      go_wp2
      go_meet
      case rel =>
        have hcur : splice cur 0 (L.map Value.string) = L.map Value.string := by
          rw [splice, List.take_zero, List.nil_append, List.drop_eq_nil_of_le (by rw [HC.out, List.length_map, ← hn.out]; omega), List.append_nil]
        have hblk3 := hblk2.out
        rw [hcur] at hblk3
        exact ⟨some ⟨w.heap.size, 0, none⟩, rfl, fun h => by simp at h, srow_of_block hblk3 (lt_of_block hblk3), hb2⟩
  case rest =>
    obtain ⟨lo', rfl, hlo', hrl', hBc⟩ := hcut
    have hrb' := hrb.below hBc
    clear hrb hrl hne Hlo
    by_cases h3 : nb + 16 * n ≤ 1048576
    case neg =>
      go_wp2
      go_ret
      exact ⟨rfl, hBc⟩
    go_wp2
    go_loop [8, 9] (fun t i => ∃ (k q : Nat), k ≤ n ∧ i = .int .i64 k ∧ Hid (q = sumS (L.take k)) ∧ t = .int .i64 ((nb : Int) + 16 * (n : Int) + (q : Int)) ∧ nb + 16 * n + q ≤ 1048576) (fun _ i => n - (intOf i).toNat)
    case atStart => exact ⟨0, 0, Nat.zero_le _, rfl, rfl, by simp, by omega⟩
    case round =>
      obtain ⟨k, q, hk, rfl, hq, rfl, hle⟩ := hrel
      by_cases hlt : k < n
      · have hs : L[k]? = some (L[k]'(by rw [← hn.out]; exact hlt)) := by simp
        obtain ⟨s, hs'⟩ : ∃ s, s = L[k]'(by rw [← hn.out]; exact hlt) := ⟨_, rfl⟩
        rw [← hs'] at hs
        obtain ⟨b, off, rfl, hbl, hbs, c0⟩ := hrl'.at1 hs
        have hss : s.size ≤ 1048576 := hsm.out s (List.mem_of_getElem? hs)
        have hki : (k : Int) < (n : Int) := by omega
        have HQ : Hid (sumS (L.take (k + 1)) = sumS (L.take k) + s.size) := sumS_snoc hs
        clear hs hs' hrl' hrb'
        by_cases h4 : nb + 16 * n + q + s.size ≤ 1048576
        · go_wp2
          go_round
          case rel => exact ⟨k + 1, q + s.size, by omega, by go_num, by show _ = _; rw [HQ.out, hq.out], by go_num, by omega⟩
          case measure => simp [intOf]; omega
        · go_wp2
          go_ret
          exact ⟨rfl, hBc⟩
      · have hkn : k = n := by omega
        subst hkn
        have hN : lenN L ≤ 1048576 := by
          have e1 := lenN_sum L
          have e2 := hq.out
          rw [List.take_of_length_le (by rw [← hn.out]; exact Nat.le_refl _)] at e2
          have e3 := hn.out
          omega
        clear hq hlt hk hsm
        by_cases hk0 : k0 < 0
        · go_wp2
          go_ret
          exact ⟨rfl, hBc⟩
        by_cases hk1 : (k : Int) < k0
        · go_wp2
          go_ret
          exact ⟨rfl, hBc⟩
        obtain ⟨j, rfl⟩ : ∃ j : Nat, k0 = j := ⟨k0.toNat, by omega⟩
        have hjn : j ≤ k := by omega
        clear hk0 hk1
        obtain ⟨nT, hT⟩ : ∃ m, Hid (lenN (L.take j) = m) := ⟨_, rfl⟩
        obtain ⟨nD, hD⟩ : ∃ m, Hid (lenN (L.drop j) = m) := ⟨_, rfl⟩
        have hTD : Hid (lenN L = nT + nD) := by
          have e : nameB L = nameB (L.take j) ++ nameB (L.drop j) := by rw [nameB, nameB, nameB, ← List.flatMap_append, List.take_append_drop]
          show _ = _
          rw [← hT.out, ← hD.out, lenN, lenN, lenN, e, List.length_append]
        have hND : nT + nD ≤ 1048576 := by rw [← hTD.out]; exact hN
        clear hN
        go_wp2_with fail
        refine (copy6r Z ao nb cb w.heap.size wc hZ h1 Hao.out hrb' hBc.size).mono ?_
        rintro e w2 ⟨a0, c0, rfl, hown2, hrb2, ha0, hb2⟩
        have hrl2 := (hrl'.below hb2).mono hb2.size
        have Ha0 : Hid (a0 = none → nb = 0) := ha0
        have hB2 := hBc.trans (hb2.mono hBc.size)
        clear hown2 ha0 hb2 hrb' hrl' Hao hBc
        go_wp2_with fail
        go_loop [10, 11] (fun t i => ∃ (m q : Nat), m ≤ k ∧ i = .int .i64 m ∧ Hid (q = lenN (L.take m)) ∧ t = .int .i64 ((nb : Int) + (q : Int) + 1) ∧ q ≤ 1048576) (fun _ i => k - (intOf i).toNat)
        case atStart => exact ⟨0, 0, Nat.zero_le _, rfl, rfl, by simp, by omega⟩
        case round =>
          obtain ⟨m, p, hmk, rfl, hp, rfl, hp2⟩ := hrel
          by_cases hlt : m < k
          · have hs : L[m]? = some (L[m]'(by rw [← hn.out]; exact hlt)) := by simp
            obtain ⟨s, hs'⟩ : ∃ s, s = L[m]'(by rw [← hn.out]; exact hlt) := ⟨_, rfl⟩
            rw [← hs'] at hs
            obtain ⟨b, off, rfl, hbl, hbs, c1⟩ := hrl2.at1 hs
            have hki : (m : Int) < (k : Int) := by omega
            have e1 := lenN_snoc hs
            have e2 := lenN_take_le L (m + 1)
            have e3 := hTD.out
            have e4 := hp.out
            have hp3 : p + 1 + s.size ≤ 1048576 := by omega
            have HP : Hid (p + 1 + s.size = lenN (L.take (m + 1))) := by show _ = _; omega
            clear hs hs' hrl2 hrb2 e1 e2 e3 e4
            go_wp2
            go_round
            case rel => exact ⟨m + 1, p + 1 + s.size, by omega, by go_num, HP, by go_num, by omega⟩
            case measure => simp [intOf]; omega
          · have hmk' : m = k := by omega
            have hpe : p = nT + nD := by
              have e2 := hp.out
              rw [List.take_of_length_le (by rw [← hn.out]; omega)] at e2
              rw [e2]; exact hTD.out
            subst hpe
            clear hp hmk hlt hp2
            go_wp2_with fail
            clear hmk'
            refine (copy6r Z a0 nb c0 w2.heap.size w2 hZ h1 Ha0.out hrb2 (Nat.le_refl _)).mono ?_
            rintro e w3 ⟨a1, c1, rfl, hown3, hx, hx2, hb3⟩
            clear hx hx2
            go_wp2_with fail
            refine (name7 Z L _ lo' k k nb (nT + nD) w2.heap.size w3 hn (by omega) hTD (by omega) hown3 (hrl2.below hb3) hb3.size).mono ?_
            rintro e w4 ⟨ac, cc, rfl, hro, hb4⟩
            have hb24 : Below w2.heap.size w2 w4 := hb3.trans hb4
            have hB4 := hB2.trans (hb24.mono hB2.size)
            have hrb4 := (hrb2.below hb24).mono hb24.size
            have hrl4 := (hrl2.below hb24).mono hb24.size
            clear hown3 hb3 hb4 hrb2 hrl2 hB2 hb24
            go_upto_region 27 with fail
            go_cut [13] (fun s13 wc => ∃ al cl, s13 = .slice al (nb + nT + 1) cl ∧ BRow wc wc.heap.size al (Z ++ nameB (L.take j) ++ [0]) ∧ Below w4.heap.size w4 wc)
            case first =>
              have hrb5 : BRow w4.drew w4.heap.size a0 Z := hrb4.below ((Below.refl _ _).drew)
              have hjl : Hid (j = (L.take j).length) := by show _ = _; rw [List.length_take, ← hn.out]; omega
              have hrt : SRow w4.drew w4.heap.size lo' (L.take j) := (hrl4.below ((Below.refl _ _).drew)).take j
              go_region_with (first
                | (go_at_call 6; refine (copy6r Z a0 nb c0 w4.heap.size w4.drew hZ h1 Ha0.out hrb5 (Nat.le_refl _)).mono ?_; rintro e w5 ⟨a5, c5, rfl, hown5, hx, hx2, hb5⟩; clear hx hx2)
                | (go_at_call 7; refine (name7 Z (L.take j) _ lo' j k nb nT w4.heap.size w5 hjl (by omega) hT (by omega) hown5 (hrt.below hb5) hb5.size).mono ?_; rintro e w6 ⟨al, cl, rfl, hrl6, hb6⟩))
              all_goals
                go_wp2_with fail
                go_meet
                case rel => exact ⟨al, cl, rfl, hrl6, ((Below.refl _ _).drew).trans (hb5.trans hb6)⟩
            case rest =>
              obtain ⟨al, cl, rfl, hrl6, hb46⟩ := hcut
              obtain ⟨P, eP⟩ : ∃ P : List Int, Hid (Z ++ nameB (L.take j) = P) := ⟨Z ++ nameB (L.take j), rfl⟩
              obtain ⟨R, eR⟩ : ∃ R : List Int, Hid (nameB (L.drop j) ++ [0] = R) := ⟨nameB (L.drop j) ++ [0], rfl⟩
              have eO : Hid (Z ++ nameB L ++ [0] = P ++ R) := by
                have e : nameB L = nameB (L.take j) ++ nameB (L.drop j) := by rw [nameB, nameB, nameB, ← List.flatMap_append, List.take_append_drop]
                show _ = _
                rw [← eP.out, ← eR.out, e]
                simp
              have lP : Hid (P.length = nb + nT) := by show _ = _; rw [← eP.out, List.length_append, ← hZ.out, ← hT.out]; rfl
              have lR : Hid (R.length = nD + 1) := by show _ = _; rw [← eR.out, List.length_append, ← hD.out]; rfl
              have hR0 : Hid (R[nD]? = some 0) := by show _ = _; rw [← eR.out, List.getElem?_append_right (by rw [← hD.out]; exact Nat.le_refl _), ← hD.out]; simp [lenN]
              have hZP : Hid (∀ (i : Nat) (z : Int), Z[i]? = some z → P[i]? = some z) := by
                intro i z hz
                rw [← eP.out, List.getElem?_append_left (List.getElem?_eq_some_iff.1 hz).1]
                exact hz
              rw [eO.out] at hro
              rw [eP.out] at hrl6
              have hro6 := (hro.below hb46).mono hb46.size
              have hrb6 := (hrb4.below hb46).mono hb46.size
              have hrs6 := (hrl4.below hb46).mono hb46.size
              have hB6 := hB4.trans (hb46.mono hB4.size)
              clear hro hrb4 hrl4 hB4 hb46 eP eO
              by_cases hjk : k = j
              case' pos =>
                subst hjk
                go_wp2_with fail
                refine (name7 [] (L.drop k) _ lo' 0 0 0 nD wc.heap.size wc (by show _ = _; rw [List.length_drop, ← hn.out]; omega) (by omega) hD (by omega) (World.ownsRow_nil _ _ _ _) (.inl (List.drop_eq_nil_of_le (by rw [← hn.out]; exact Nat.le_refl _))) (Nat.le_refl _)).mono ?_
              case' neg =>
                have hrd := hrs6.drop j k hn.out
                rw [if_neg hjk] at hrd
                go_wp2_with fail
                refine (name7 [] (L.drop j) _ _ (k - j) (k - j) 0 nD wc.heap.size wc (by show _ = _; rw [List.length_drop, ← hn.out]) (by omega) hD (by omega) (World.ownsRow_nil _ _ _ _) hrd (Nat.le_refl _)).mono ?_
              all_goals
                rintro e w7 ⟨ar, cr, rfl, hrr, hb7⟩
                rw [List.nil_append, eR.out] at hrr
                have hro7 := (hro6.below hb7).mono hb7.size
                have hrl7 := (hrl6.below hb7).mono hb7.size
                have hrb7 := (hrb6.below hb7).mono hb7.size
                have hB7 := hB6.trans (hb7.mono hB6.size)
                clear hro6 hrl6 hrb6 hrs6 hB6 hb7 eR
                have g3 : ((nb : Int) + ((nT : Int) + (nD : Int)) + 1 != (nb : Int) + (nT : Int) + ((nD : Int) + 1)) = false := by simp; omega
                have g2 : ¬ ((nb : Int) + (nT : Int) + 1 < 1) := by omega
                have hl0 : (P ++ [0])[nb + nT]? = some 0 := by rw [List.getElem?_append_right (by rw [lP.out]; exact Nat.le_refl _), lP.out]; simp
                have ho0 : (P ++ R)[nb + (nT + nD)]? = some 0 := by rw [List.getElem?_append_right (by rw [lP.out]; omega), lP.out, show nb + (nT + nD) - (nb + nT) = nD from by omega]; exact hR0.out
                obtain ⟨b1, o1, rfl, _, _, p1⟩ := hrl7.at1 hl0
                obtain ⟨b2, o2, rfl, _, _, p2⟩ := hro7.at1 ho0
                have i1 : (nb : Int) + (nT : Int) < (nb : Int) + (nT : Int) + 1 := by omega
                have i2 : (nb : Int) + ((nT : Int) + (nD : Int)) < (nb : Int) + ((nT : Int) + (nD : Int)) + 1 := by omega
                clear hl0 ho0
                go_wp2_with fail
                clear p1 p2 i1 i2 g3 g2
                go_loopw [15] (fun i wr => ∃ m : Nat, m ≤ nb ∧ i = .int .i64 m ∧ Below w7.heap.size w7 wr) (fun i _ => nb - (intOf i).toNat)
                case atStart => exact ⟨0, Nat.zero_le _, rfl, Below.refl _ _⟩
                case round =>
                  obtain ⟨m, hmn, rfl, hnx⟩ := hrel
                  by_cases hlt : m < nb
                  · have hs : Z[m]? = some (Z[m]'(by rw [← hZ.out]; exact hlt)) := by simp
                    obtain ⟨z, hz⟩ : ∃ z, z = Z[m]'(by rw [← hZ.out]; exact hlt) := ⟨_, rfl⟩
                    rw [← hz] at hs
                    have hsO : (P ++ R)[m]? = some z := by rw [List.getElem?_append_left (by rw [lP.out]; omega)]; exact hZP.out m z hs
                    obtain ⟨b3, o3, rfl, _, _, p3⟩ := (hrb7.below hnx).at1 hs
                    obtain ⟨b4, o4, e4, _, _, p4⟩ := (hro7.below hnx).at1 hsO
                    simp only [Option.some.injEq, Addr.mk.injEq, and_true] at e4
                    obtain ⟨rfl, rfl⟩ := e4
                    have i1 : (m : Int) < (nb : Int) := by omega
                    have i2 : (m : Int) < (nb : Int) + ((nT : Int) + (nD : Int)) + 1 := by omega
                    clear hs hz hsO hrl7 hro7 hrb7 hrr
                    go_wp2_with fail
                    go_quiet (fail)
                    go_wp2
                    go_roundw
                    case rel => exact ⟨m + 1, by omega, by go_num, below_drewN hnx _⟩
                    case measure => simp [intOf]; omega
                  · go_wp2_with fail
                    clear hlt hmn
                    go_loopw [16] (fun i wr => ∃ m : Nat, m ≤ nb + nT ∧ i = .int .i64 m ∧ Below w7.heap.size w7 wr) (fun i _ => nb + nT - (intOf i).toNat)
                    case atStart => exact ⟨0, Nat.zero_le _, rfl, hnx⟩
                    case round =>
                      clear hnx
                      obtain ⟨m, hmn, rfl, hnx⟩ := hrel
                      by_cases hlt : m < nb + nT
                      · have hs : P[m]? = some (P[m]'(by rw [lP.out]; exact hlt)) := by simp
                        obtain ⟨z, hz⟩ : ∃ z, z = P[m]'(by rw [lP.out]; exact hlt) := ⟨_, rfl⟩
                        rw [← hz] at hs
                        have hsO : (P ++ R)[m]? = some z := by rw [List.getElem?_append_left (by rw [lP.out]; exact hlt)]; exact hs
                        have hsL : (P ++ [0])[m]? = some z := by rw [List.getElem?_append_left (by rw [lP.out]; exact hlt)]; exact hs
                        obtain ⟨b3, o3, e3, _, _, p3⟩ := (hrl7.below hnx).at1 hsL
                        obtain ⟨b4, o4, e4, _, _, p4⟩ := (hro7.below hnx).at1 hsO
                        simp only [Option.some.injEq, Addr.mk.injEq, and_true] at e3 e4
                        obtain ⟨rfl, rfl⟩ := e3
                        obtain ⟨rfl, rfl⟩ := e4
                        have i1 : (m : Int) < (nb : Int) + (nT : Int) + 1 := by omega
                        have i2 : (m : Int) < (nb : Int) + ((nT : Int) + (nD : Int)) + 1 := by omega
                        have i3 : (m : Int) < (nb : Int) + (nT : Int) := by omega
                        clear hs hz hsO hsL hrl7 hro7 hrb7 hrr
                        go_wp2_with fail
                        go_quiet (fail)
                        go_wp2
                        go_roundw
                        case rel => exact ⟨m + 1, by omega, by go_num, below_drewN hnx _⟩
                        case measure => simp [intOf]; omega
                      · go_wp2_with fail
                        clear hlt hmn
                        go_loopw [17] (fun i wr => ∃ m : Nat, m ≤ nD + 1 ∧ i = .int .i64 m ∧ Below w7.heap.size w7 wr) (fun i _ => nD + 1 - (intOf i).toNat)
                        case atStart => exact ⟨0, Nat.zero_le _, rfl, hnx⟩
                        case round =>
                          clear hnx
                          obtain ⟨m, hmn, rfl, hnx⟩ := hrel
                          by_cases hlt : m < nD + 1
                          · have hs : R[m]? = some (R[m]'(by rw [lR.out]; exact hlt)) := by simp
                            obtain ⟨z, hz⟩ : ∃ z, z = R[m]'(by rw [lR.out]; exact hlt) := ⟨_, rfl⟩
                            rw [← hz] at hs
                            have hsO : (P ++ R)[nb + nT + m]? = some z := by rw [List.getElem?_append_right (by rw [lP.out]; omega), lP.out, Nat.add_sub_cancel_left]; exact hs
                            obtain ⟨b3, o3, rfl, _, _, p3⟩ := (hrr.below hnx).at1 hs
                            obtain ⟨b4, o4, e4, _, _, p4⟩ := (hro7.below hnx).at1 hsO
                            simp only [Option.some.injEq, Addr.mk.injEq, and_true] at e4
                            obtain ⟨rfl, rfl⟩ := e4
                            have i1 : (m : Int) < (nD : Int) + 1 := by omega
                            have i2 : (nb : Int) + (nT : Int) + (m : Int) < (nb : Int) + ((nT : Int) + (nD : Int)) + 1 := by omega
                            clear hs hz hsO hrl7 hro7 hrb7 hrr
                            go_wp2_with fail
                            go_quiet (fail)
                            go_wp2
                            go_roundw
                            case rel => exact ⟨m + 1, by omega, by go_num, below_drewN hnx _⟩
                            case measure => simp [intOf]; omega
                          · go_wp2
                            go_ret
                            exact ⟨rfl, hB7.trans (hnx.mono hB7.size)⟩
end Go.Proofs.Qxb6608522aMods
