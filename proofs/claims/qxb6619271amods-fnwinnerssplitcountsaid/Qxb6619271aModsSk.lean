/-
  THE PLAIN DATA: a skill as seven plain values; no Go in sight.
-/
import Derived.Test.Qxb6619271aModsRows
import Derived.WalkKit
import Derived.WalkSpells
import Derived.Deep.QuietTactic
import Derived.BigQuiet
namespace Go.Proofs.Qxb6619271aMods
open Go.RowKit

structure Sk where
  lv : Int
  nm : ByteArray
  ds : ByteArray
  fl : ByteArray
  sh : Bool
  sd : ByteArray
  fo : ByteArray

def Sk.cells (s : Sk) : List Value := [.int .i64 s.lv, .string s.nm, .string s.ds, .string s.fl, .bool s.sh, .string s.sd, .string s.fo]

set_option maxHeartbeats 400000 in
theorem addLen_any (t n : Int) (w : World) :
    Calls Trym.prog 18 #[.int .i64 t, .int .i64 n] w fun e w' => ∃ t' b, e = .returned (.tuple #[.int .i64 t', .bool b]) ∧ w' = w := by
  go_enter Trym.func18, Trym.ntmps18
  go_wp2
  all_goals (go_ret2; exact ⟨_, _, rfl, rfl⟩)

end Go.Proofs.Qxb6619271aMods
