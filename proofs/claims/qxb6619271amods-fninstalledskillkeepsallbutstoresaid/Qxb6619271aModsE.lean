/-
  THE WALK of FnInstalledSkillKeepsAllButStore (4).
-/
import Derived.Test.Qxb6619271aModsD
namespace Go.Proofs.Qxb6619271aMods
open Go.RowKit

set_option maxHeartbeats 4000000 in
theorem inst_walk (l : Int) (d : ByteArray) (st : Bool) (f n ds lo : ByteArray) (l' : Int) (d' : ByteArray) (st' : Bool) (f' n' ds' lo' : ByteArray) (w : World) :
    Calls Trym.prog 4 #[.agg #[.int .i64 l, .string d, .bool st, .string f, .string n, .string ds, .string lo], .agg #[.int .i64 l', .string d', .bool st', .string f', .string n', .string ds', .string lo']] w
      fun e w' => e = .returned (.bool true) ∧ Below w.heap.size w w' := by
  go_enter Trym.func4, Trym.ntmps4
  go_wp2_with (first
    | (go_at_call 11; refine (bytesIn_any _ _ _ _ _ _ _ _ _ _ _ _ _ _ _).mono ?_; rintro e w1 ⟨b, rfl, hb1⟩; obtain ⟨hc1, hf1⟩ := bcell hb1; have hz1 : w.heap.size + 1 < w1.heap.size := (by have := hb1.size; simp at this; omega); have hy1 : w.heap.size < w1.heap.size := (by omega); cases b)
    | (go_at_call 12; refine (addIn_any _ _ _ _ _ _ _ _ _).mono ?_; rintro e w2 ⟨t, b, rfl, hb2⟩; obtain ⟨hc2, hf2⟩ := bcell hb2; have hz2 : w.heap.size + 1 < w2.heap.size := (by have := hb2.size; omega); have hy2 : w.heap.size < w2.heap.size := (by omega); cases b)
    )
  · go_ret
    refine ⟨rfl, ?_⟩
    repeat (first | exact Below.refl _ _ | refine Below.alloc ?_ (by first | omega | (simp; done) | (simp; omega)) _ | refine Below.trans ?_ (Below.mono (by assumption) (by first | omega | (simp; done) | (simp; omega))))
  · go_ret
    refine ⟨rfl, ?_⟩
    repeat (first | exact Below.refl _ _ | refine Below.alloc ?_ (by first | omega | (simp; done) | (simp; omega)) _ | refine Below.trans ?_ (Below.mono (by assumption) (by first | omega | (simp; done) | (simp; omega))))
  · go_ret
    refine ⟨rfl, ?_⟩
    repeat (first | exact Below.refl _ _ | refine Below.alloc ?_ (by first | omega | (simp; done) | (simp; omega)) _ | refine Below.trans ?_ (Below.mono (by assumption) (by first | omega | (simp; done) | (simp; omega))))
  · refine (inst13 _ _ _ _ _ _ _ _).mono ?_
    rintro e w3 ⟨rfl, hb3⟩
    obtain ⟨hc3, hf3⟩ := bcell hb3
    have hz3 : w.heap.size + 1 < w3.heap.size := (by have := hb3.size; omega)
    have hy3 : w.heap.size < w3.heap.size := (by omega)
    go_wp2_with fail
    refine (inst13 _ _ _ _ _ _ _ _).mono ?_
    rintro e w4 ⟨rfl, hb4⟩
    obtain ⟨hc4, hf4⟩ := bcell hb4
    have hz4 : w3.heap.size < w4.heap.size := (by have := hb4.size; simp at this; omega)
    have hy4 : w.heap.size < w4.heap.size := (by omega)
    have hx4 : w.heap.size + 1 < w4.heap.size := (by omega)
    rcases ways l l' d d' f f' n n' ds ds' lo lo' with k1 | ⟨rfl, k2, k3⟩ | ⟨rfl, k2, rfl, k3⟩ | ⟨rfl, k2, rfl, rfl, k3⟩ | ⟨rfl, k2, rfl, rfl, rfl⟩ | ⟨rfl, rfl, k2, k3⟩ | ⟨rfl, rfl, k2, rfl, k3⟩ | ⟨rfl, rfl, k2, rfl, rfl, k3⟩ | ⟨rfl, rfl, k2, rfl, rfl, rfl⟩ | ⟨rfl, rfl, rfl, k2⟩ | ⟨rfl, rfl, rfl, rfl, k2⟩ | ⟨rfl, rfl, rfl, rfl, rfl, k2⟩ | ⟨rfl, rfl, rfl, rfl, rfl, rfl⟩
    all_goals
      go_wp2_with fail
      refine (win_two _ _ _ _ _ _ _ _ _ _ _ _ _ _ (by simp)).mono ?_
      rintro e w5 ⟨a, c, rfl, hb5⟩
      go_wp2
      go_ret
      refine ⟨rfl, ?_⟩
      repeat (first | exact Below.refl _ _ | refine Below.alloc ?_ (by first | omega | (simp; done) | (simp; omega)) _ | refine Below.trans ?_ (Below.mono (by assumption) (by first | omega | (simp; done) | (simp; omega))))
end Go.Proofs.Qxb6619271aMods
