/-
  THE PLAIN DATA: an event of the clock's heap as its time and its number; no Go in sight. And the small callees.
-/
import Derived.Test.Qxb6605918aModsRows
import Derived.WalkKit
import Derived.WalkSpells
import Derived.WalkSmall
import Derived.Deep.QuietTactic
import Derived.BigQuiet
import Derived.Laws.EntriesVeiled
namespace Go.Proofs.Qxb6605918aMods
open Go.RowKit

structure Ev where
  t : Int
  q : Int

def Ev.cells (s : Ev) : List Value := [.int .i64 s.t, .int .u64 s.q, .nilFunc, .pointer none, .nilIface]

theorem Trym.info33 : (Trym.prog.info? 33).map (fun i => (i.zero, i.size, i.bytes)) = some (some (.agg #[.int .i64 0, .int .u64 0, .nilFunc, .pointer none, .nilIface]), 5, 48) := by kernel_rfl

set_option maxHeartbeats 1000000 in
theorem new8 (t q : Int) (w : World) :
    Calls Trym.prog 8 #[.int .i64 t, .int .u64 q] w fun e w' => e = .returned (.agg #[.int .i64 t, .int .u64 q, .nilFunc, .pointer none, .nilIface]) ∧ w' = w.alloc (.cells #[.int .i64 t, .int .u64 q, .nilFunc, .pointer none, .nilIface] 33) := by
  go_enter Trym.func8, Trym.ntmps8
  go_wp2
  refine bodyPost_ret (v := .agg #[.int .i64 t, .int .u64 q, .nilFunc, .pointer none, .nilIface]) (by simp [results, Trym.results8, go_sem]) rfl ⟨rfl, ?_⟩
  rfl

theorem eqf (w : World) : (binOp .eql 1 .nilFunc .nilFunc).run Trym.prog w = .ok (.bool true) w := by kernel_rfl
theorem eqp (w : World) : (binOp .eql 31 (.pointer none) (.pointer none)).run Trym.prog w = .ok (.bool true) w := by kernel_rfl
theorem eqi (w : World) : (binOp .eql 20 .nilIface .nilIface).run Trym.prog w = .ok (.bool true) w := by kernel_rfl

set_option maxHeartbeats 1000000 in
theorem fields19 (t q : Int) (w : World) :
    Calls Trym.prog 19 #[.agg #[.int .i64 t, .int .u64 q, .nilFunc, .pointer none, .nilIface]] w fun e w' => e = .returned (.tuple #[.int .i64 t, .int .u64 q, .bool true, .bool true, .bool true]) ∧ ∃ n, w' = (w.alloc (.cells #[.int .i64 t, .int .u64 q, .nilFunc, .pointer none, .nilIface] 33)).drewN n := by
  have h1 := eqf
  have h2 := eqp
  have h3 := eqi
  go_enter Trym.func19, Trym.ntmps19
  go_wp2
  go_quiet (fail)
  go_wp2
  exact bodyPost_ret (v := .tuple #[.int .i64 t, .int .u64 q, .bool true, .bool true, .bool true]) (by simp [results, Trym.results19, go_sem]) rfl ⟨rfl, _, rfl⟩

set_option maxHeartbeats 1000000 in
theorem is10 (t q : Int) (w : World) :
    Calls Trym.prog 10 #[.agg #[.int .i64 t, .int .u64 q, .nilFunc, .pointer none, .nilIface], .int .i64 t, .int .u64 q] w fun e w' => e = .returned (.bool true) ∧ ∃ n, w' = ((w.alloc (.cells #[.int .i64 t, .int .u64 q, .nilFunc, .pointer none, .nilIface] 33)).alloc (.cells #[.int .i64 t, .int .u64 q, .nilFunc, .pointer none, .nilIface] 33)).drewN n := by
  go_enter Trym.func10, Trym.ntmps10
  go_wp2_with (go_at_call 19; refine (fields19 _ _ _).mono ?_; rintro e w' ⟨rfl, n, rfl⟩)
  go_ret
  exact ⟨rfl, _, rfl⟩
end Go.Proofs.Qxb6605918aMods
