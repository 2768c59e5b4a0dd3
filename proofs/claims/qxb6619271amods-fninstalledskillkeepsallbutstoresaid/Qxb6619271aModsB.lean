/-
  CONTRACTS: installedSkill (19), ZZInstalledSkill (13): the skill that they make.
-/
import Derived.Test.Qxb6619271aModsSk
namespace Go.Proofs.Qxb6619271aMods
open Go.RowKit

theorem bcell {W w1 : World} (hb : Below W.heap.size W w1) : (∀ b o, b < W.heap.size → w1.cell? ⟨b, o, none⟩ = W.cell? ⟨b, o, none⟩) ∧ (∀ b o, b < W.heap.size → w1.frozen? ⟨b, o, none⟩ = W.frozen? ⟨b, o, none⟩) :=
  ⟨fun b o h => hb.cell (p := ⟨b, o, none⟩) h, fun b o h => hb.frozen (p := ⟨b, o, none⟩) h⟩

set_option maxHeartbeats 1000000 in
theorem inst19 (l : Int) (d : ByteArray) (st : Bool) (f n ds lo : ByteArray) (w : World) :
    Calls Trym.prog 19 #[.agg #[.int .i64 l, .string d, .bool st], .string f, .agg #[.string n, .string ds, .string lo]] w fun e w' => e = .returned (.agg #[.int .i64 l, .string n, .string ds, .string lo, .bool false, .string d, .string f]) ∧ Below w.heap.size w w' := by
  go_enter Trym.func19, Trym.ntmps19
  go_wp2
  refine bodyPost_ret (v := .agg #[.int .i64 l, .string n, .string ds, .string lo, .bool false, .string d, .string f]) (by simp [results, Trym.results19, go_sem]) rfl ⟨rfl, ?_⟩
  exact (((Below.refl _ _).alloc (Nat.le_refl _) _).alloc (by simp) _).alloc (by simp; omega) _

set_option maxHeartbeats 1000000 in
theorem inst13 (l : Int) (d : ByteArray) (st : Bool) (f n ds lo : ByteArray) (w : World) :
    Calls Trym.prog 13 #[.agg #[.int .i64 l, .string d, .bool st], .string f, .agg #[.string n, .string ds, .string lo]] w fun e w' => e = .returned (.agg #[.int .i64 l, .string n, .string ds, .string lo, .bool false, .string d, .string f]) ∧ Below w.heap.size w w' := by
  go_enter Trym.func13, Trym.ntmps13
  go_wp2_with (go_at_call 19; refine (inst19 _ _ _ _ _ _ _ _).mono ?_; rintro e w1 ⟨rfl, hb⟩; obtain ⟨hc, hf⟩ := bcell hb; have hz : w.heap.size + 2 < w1.heap.size := by (have := hb.size; simp at this; omega))
  refine bodyPost_ret (v := .agg #[.int .i64 l, .string n, .string ds, .string lo, .bool false, .string d, .string f]) (by simp [results, Trym.results13, go_sem, hc]) rfl ⟨rfl, ?_⟩
  repeat (refine Below.setCell ?_ (by simp; omega) _)
  refine Below.trans ?_ (hb.mono (by simp; omega))
  repeat (refine Below.alloc ?_ (by simp <;> omega) _)
  exact Below.refl _ _
end Go.Proofs.Qxb6619271aMods
