/-
  CONTRACTS: zzb1AddIn (12), zzb1AddSkill (15), zzBytes_FnInstalledSkillKeepsAllButStore (11): they answer something and turn no old memory.
-/
import Derived.Test.Qxb6619271aModsSk
namespace Go.Proofs.Qxb6619271aMods
open Go.RowKit

set_option maxHeartbeats 1000000 in
theorem addIn_any (t l : Int) (d : ByteArray) (st : Bool) (f n ds lo : ByteArray) (w : World) :
    Calls Trym.prog 12 #[.int .i64 t, .agg #[.int .i64 l, .string d, .bool st, .string f, .string n, .string ds, .string lo]] w fun e w' => ∃ t' b, e = .returned (.tuple #[.int .i64 t', .bool b]) ∧ Below w.heap.size w w' := by
  go_enter Trym.func12, Trym.ntmps12
  go_wp2_with (go_at_call 18; refine (addLen_any _ _ _).mono ?_; rintro e w' ⟨t', b, rfl, rfl⟩; cases b)
  all_goals (go_ret2; exact ⟨_, _, rfl, (Below.refl _ _).alloc (Nat.le_refl _) _⟩)

set_option maxHeartbeats 1000000 in
theorem addSkill_any (t : Int) (s : Sk) (w : World) :
    Calls Trym.prog 15 #[.int .i64 t, .agg #[.int .i64 s.lv, .string s.nm, .string s.ds, .string s.fl, .bool s.sh, .string s.sd, .string s.fo]] w fun e w' => ∃ t' b, e = .returned (.tuple #[.int .i64 t', .bool b]) ∧ Below w.heap.size w w' := by
  go_enter Trym.func15, Trym.ntmps15
  go_wp2_with (go_at_call 18; refine (addLen_any _ _ _).mono ?_; rintro e w' ⟨t', b, rfl, rfl⟩; cases b)
  all_goals (go_ret2; exact ⟨_, _, rfl, (Below.refl _ _).alloc (Nat.le_refl _) _⟩)

set_option maxHeartbeats 1000000 in
theorem bytesIn_any (l : Int) (d : ByteArray) (st : Bool) (f n ds lo : ByteArray) (l' : Int) (d' : ByteArray) (st' : Bool) (f' n' ds' lo' : ByteArray) (w : World) :
    Calls Trym.prog 11 #[.agg #[.int .i64 l, .string d, .bool st, .string f, .string n, .string ds, .string lo], .agg #[.int .i64 l', .string d', .bool st', .string f', .string n', .string ds', .string lo']] w
      fun e w' => ∃ b, e = .returned (.bool b) ∧ Below w.heap.size w w' := by
  go_enter Trym.func11, Trym.ntmps11
  go_wp2
  all_goals (go_ret; exact ⟨_, rfl, ((Below.refl _ _).alloc (Nat.le_refl _) _).alloc (by simp) _⟩)
end Go.Proofs.Qxb6619271aMods
