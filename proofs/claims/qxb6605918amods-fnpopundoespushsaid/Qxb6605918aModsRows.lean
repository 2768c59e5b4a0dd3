/-
  No cell of these rows narrows 'for every input' (looked for: loops, veiled, ifaces, maps, wideKeys, modest, calm, conditions, laid).
  DERIVED. THE GIVEN ROWS OF THIS SEAT. 3 by the template 'for every input the law returns true; each argument reads behind the call as it read before'; 0 by the template 'total and deterministic' (their statements: Qxb6605918aModsTotals.lean).
  GIVEN WITH THE SEED: the statements are not yours to turn. If you find one false, say at which input.
  Laid BY PROGRAM, IN A SANDBOX (cutbox-rows.mjs): the forced cells as the released guide's own fill.sh prints them over the translation cf58128347856217… (all of the seat's roots in one cut). By AI agents, Wed Nov 11 2026. No macro, syntax, notation, axiom, sorry.
-/
import Derived.Test.Qxb6605918aModsChecked
import GoSem.Claim
import GoSem.ClaimJoined
import GoSem.ClaimMapViews
import Derived.JoinedTies
import Derived.KernelRfl
namespace Go.Proofs.Qxb6605918aMods
/- THE CELL 'sum', in the pinned program and in every row, IS THE sha256 OF THE DUMP (.gsa) THAT Qxb6605918aModsProg.lean LOADS. Nothing in Lean hashes anything: it is a label: what it is worth is what the hold of that sum in a sandbox is worth. -/
noncomputable def Trym.pinned : Pinned := { name := "qxb6605918amods", sum := "cf5812834785621789b5a89fe4221b7345c2f80bf3db1980283c77a0091ba1c3", checked := Trym.checked }
namespace Rows
def none {H : Type} : Left H := { results := [], args := [] }

/-- 'zzlaws_pkg_sim_b1.FnPopUndoesPush': WHATEVER THE INPUT: true; the input reads as it did. -/
def fnPopUndoesPushSpec : ChangeSpec := { name := "fnPopUndoesPush", fn := fun _ => fun
  | [d1, d2] => { results := [.lit (.bool true)], args := [d1, d2] }
  | _ => none }
def fnPopUndoesPushRow : OpenClaim := { program := "qxb6605918amods", sum := "cf5812834785621789b5a89fe4221b7345c2f80bf3db1980283c77a0091ba1c3", func := "example.com/convene/convene/zzlaws_pkg_sim_b1.FnPopUndoesPush", spec := "fnPopUndoesPush", make := .lifted ["publicsums"], apart := false }
def FnPopUndoesPushSaid : Prop := fnPopUndoesPushRow.holds Trym.pinned (OpenSpec.ofChange fnPopUndoesPushSpec)

/-- ITS FALSE NEIGHBOUR: 'it returns false'. Refute it at one input. -/
def fnPopUndoesPushWrong : ChangeSpec := { name := "fnPopUndoesPush", fn := fun _ => fun
  | [d1, d2] => { results := [.lit (.bool false)], args := [d1, d2] }
  | _ => none }
def FnPopUndoesPushWrongFalsely : Prop := fnPopUndoesPushRow.holds Trym.pinned (OpenSpec.ofChange fnPopUndoesPushWrong)

/-- 'zzlaws_pkg_sim_b1.FnPopDrainsInReverse': WHATEVER THE INPUT: true; the input reads as it did. -/
def fnPopDrainsInReverseSpec : ChangeSpec := { name := "fnPopDrainsInReverse", fn := fun _ => fun
  | [d] => { results := [.lit (.bool true)], args := [d] }
  | _ => none }
def fnPopDrainsInReverseRow : OpenClaim := { program := "qxb6605918amods", sum := "cf5812834785621789b5a89fe4221b7345c2f80bf3db1980283c77a0091ba1c3", func := "example.com/convene/convene/zzlaws_pkg_sim_b1.FnPopDrainsInReverse", spec := "fnPopDrainsInReverse", make := .lifted ["publicsums"], apart := false }
def FnPopDrainsInReverseSaid : Prop := fnPopDrainsInReverseRow.holds Trym.pinned (OpenSpec.ofChange fnPopDrainsInReverseSpec)

/-- ITS FALSE NEIGHBOUR: 'it returns false'. Refute it at one input. -/
def fnPopDrainsInReverseWrong : ChangeSpec := { name := "fnPopDrainsInReverse", fn := fun _ => fun
  | [d] => { results := [.lit (.bool false)], args := [d] }
  | _ => none }
def FnPopDrainsInReverseWrongFalsely : Prop := fnPopDrainsInReverseRow.holds Trym.pinned (OpenSpec.ofChange fnPopDrainsInReverseWrong)

/-- 'zzlaws_pkg_sim_b1.FnFinishHeadDrainsInOrder': WHATEVER THE INPUT: true; the input reads as it did. -/
def fnFinishHeadDrainsInOrderSpec : ChangeSpec := { name := "fnFinishHeadDrainsInOrder", fn := fun _ => fun
  | [d1, d2] => { results := [.lit (.bool true)], args := [d1, d2] }
  | _ => none }
def fnFinishHeadDrainsInOrderRow : OpenClaim := { program := "qxb6605918amods", sum := "cf5812834785621789b5a89fe4221b7345c2f80bf3db1980283c77a0091ba1c3", func := "example.com/convene/convene/zzlaws_pkg_sim_b1.FnFinishHeadDrainsInOrder", spec := "fnFinishHeadDrainsInOrder", unfollowed := true, recurses := true, make := .lifted ["publicsums"], apart := false }
def FnFinishHeadDrainsInOrderSaid : Prop := fnFinishHeadDrainsInOrderRow.holds Trym.pinned (OpenSpec.ofChange fnFinishHeadDrainsInOrderSpec)

/-- ITS FALSE NEIGHBOUR: 'it returns false'. Refute it at one input. -/
def fnFinishHeadDrainsInOrderWrong : ChangeSpec := { name := "fnFinishHeadDrainsInOrder", fn := fun _ => fun
  | [d1, d2] => { results := [.lit (.bool false)], args := [d1, d2] }
  | _ => none }
def FnFinishHeadDrainsInOrderWrongFalsely : Prop := fnFinishHeadDrainsInOrderRow.holds Trym.pinned (OpenSpec.ofChange fnFinishHeadDrainsInOrderWrong)

end Rows
end Go.Proofs.Qxb6605918aMods
