/-
  'Rows.FnAppendNameReadsBackItsLabelsSaid', PROVED: the row over the walk 'back_walk'.
-/
import Derived.Test.Qxb6608522aModsBack
import Derived.Test.Qxb6608522aModsO
namespace Go.Proofs.Qxb6608522aMods
open Go.ChangeShapes Go.WideShapes Go.ChangeAt Go.RowKit

set_option maxRecDepth 100000 in
theorem back_lifted (os : Os) (started : os.Started) (H : Type) (enc : TypeId × Value → H) :
    ReturnsInHanded {} Trym.checked os 4 .any (Rows.fnAppendNameReadsBackItsLabelsSpec.pre6 enc Trym.prog Trym.f4 Rows.fnAppendNameReadsBackItsLabelsRow.domain false) (Rows.fnAppendNameReadsBackItsLabelsSpec.post enc Trym.prog Trym.f4 false true false false) := by
  refine returnsInHanded_of_change (C := Trym.checked) Trym.own started (by kernel_rfl) Trym.func4
    (ChangeSpec.witness6 (enc := enc) (C := Trym.checked) false ⟨#[], #[.slice none 0 0, .slice none 0 0], []⟩ 8 (by kernel_rfl) (by kernel_rfl) (by kernel_rfl) (by kernel_rfl)) ?_
  intro W base args ds gs before hval0 hW hcnd _
  have hval : ∀ (j : Nat) t v, Trym.f4.params[j]? = some t → args[j]? = some v → Value.okWide Trym.prog W .any base t v := hval0
  have hW' := hW
  obtain ⟨p, q, hA0, hV, rfl, hfz, hnd⟩ := hW
  have hA : DataW.TrodAll enc Trym.prog W 0 (fun _ => true) true Trym.f4.params.toList args.toList ds p := hA0
  rw [Trym.params4] at hA hval
  obtain ⟨v0, v1, d0, d1, p0, p1, rfl, rfl, rfl, h0, h1⟩ := trodAll_two hA
  obtain ⟨rfl, rfl⟩ := trodVars_none hV
  have k0 := h0
  have k1 := h1
  have lt0 : ∀ x ∈ p0, x.block < W.heap.size := by obtain ⟨m, hm⟩ := k0; exact DataW.trod_lt m _ _ _ hm
  have lt1 : ∀ x ∈ p1, x.block < W.heap.size := by obtain ⟨m, hm⟩ := k1; exact DataW.trod_lt m _ _ _ hm
  obtain ⟨a0, len0, cap0, rfl⟩ := okWide_slice Trym.underlying22 (hval 0 22 v0 rfl rfl)
  obtain ⟨a1, len1, cap1, rfl⟩ := okWide_slice Trym.underlying23 (hval 1 23 v1 rfl rfl)
  obtain ⟨Z, hZ, hz63, hz0, hrz⟩ : ∃ Z : List Int, len0 = Z.length ∧ len0 ≤ 9223372036854775807 ∧ (a0 = none → len0 = 0) ∧ BRow W W.heap.size a0 Z := by
    obtain ⟨fuel, hf⟩ := h0
    exact open_bytes hf
  obtain ⟨L, hL, hl63, hl0, hrl⟩ : ∃ L : List ByteArray, len1 = L.length ∧ len1 ≤ 9223372036854775807 ∧ (a1 = none → len1 = 0 ∧ cap1 = 0) ∧ SRow W W.heap.size a1 L := by
    obtain ⟨fuel, hf⟩ := h1
    exact open_labels hf
  clear hA0 hval0
  refine (back_walk Z L a0 a1 len0 cap0 len1 cap1 W hZ hL hz63 hl63 hz0 hl0 hrz hrl).mono fun e W' ⟨he, bel⟩ => ?_
  subst he
  exact ⟨_, rfl, _, _, _, [], _, [], hW', trodAll_mk1 (shut_bool Trym.underlying4 _), (trodAll_mk2 (Below.trod Trym.laidOut (by kernel_rfl) (of_decide_eq_true (by kernel_rfl)) k0 bel lt0) (Below.trod Trym.laidOut (by kernel_rfl) (of_decide_eq_true (by kernel_rfl)) k1 bel lt1)), rfl, bel.frame _, fun h => by cases h⟩

theorem back_holds : Rows.FnAppendNameReadsBackItsLabelsSaid :=
  OpenClaim.holds_of_wide 4 Trym.f4 rfl rfl rfl rfl rfl rfl rfl ⟨rfl, rfl, rfl, rfl, rfl⟩ rfl rfl rfl rfl rfl (by kernel_rfl) Trym.func4 (by kernel_rfl)
    (of_decide_eq_true (by kernel_rfl)) (by unfold Func.isWrapper; first | (rw [if_pos (by decide +kernel)]; kernel_rfl) | (rw [if_neg (by decide +kernel)]; exact ⟨rfl, rfl⟩))
    (fun os started H enc _ => back_lifted os started H enc)

end Go.Proofs.Qxb6608522aMods
