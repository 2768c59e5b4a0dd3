/-
  No cell of these rows narrows 'for every input' (looked for: loops, veiled, ifaces, maps, wideKeys, modest, calm, conditions, laid).
  DERIVED. THE GIVEN ROWS OF THIS SEAT. 3 by the template 'for every input the law returns true; each argument reads behind the call as it read before'; 0 by the template 'total and deterministic' (their statements: Qxb6619271aModsTotals.lean).
  GIVEN WITH THE SEED: the statements are not yours to turn. If you find one false, say at which input.
  Laid BY PROGRAM, IN A SANDBOX (cutbox-rows.mjs): the forced cells as the released guide's own fill.sh prints them over the translation 50fd9e38a8f4d2bf… (all of the seat's roots in one cut). By AI agents, Wed Nov 11 2026. No macro, syntax, notation, axiom, sorry.
-/
import Derived.Test.Qxb6619271aModsChecked
import GoSem.Claim
import GoSem.ClaimJoined
import GoSem.ClaimMapViews
import Derived.JoinedTies
import Derived.KernelRfl
namespace Go.Proofs.Qxb6619271aMods
/- THE CELL 'sum', in the pinned program and in every row, IS THE sha256 OF THE DUMP (.gsa) THAT Qxb6619271aModsProg.lean LOADS. Nothing in Lean hashes anything: it is a label: what it is worth is what the hold of that sum in a sandbox is worth. -/
noncomputable def Trym.pinned : Pinned := { name := "qxb6619271amods", sum := "50fd9e38a8f4d2bfcbdb412014ed70e51b475ebf8e2aad9c5376a08474f7105e", checked := Trym.checked }
namespace Rows
def none {H : Type} : Left H := { results := [], args := [] }

/-- 'zzlaws_level_b1.FnWinnersSplitCount': WHATEVER THE INPUT: true; the input reads as it did. -/
def fnWinnersSplitCountSpec : ChangeSpec := { name := "fnWinnersSplitCount", fn := fun _ => fun
  | [d1, d2] => { results := [.lit (.bool true)], args := [d1, d2] }
  | _ => none }
def fnWinnersSplitCountRow : OpenClaim := { program := "qxb6619271amods", sum := "50fd9e38a8f4d2bfcbdb412014ed70e51b475ebf8e2aad9c5376a08474f7105e", func := "example.com/skilldex/skilldex/zzlaws_level_b1.FnWinnersSplitCount", spec := "fnWinnersSplitCount", make := .lifted ["publicsums"], apart := false }
def FnWinnersSplitCountSaid : Prop := fnWinnersSplitCountRow.holds Trym.pinned (OpenSpec.ofChange fnWinnersSplitCountSpec)

/-- ITS FALSE NEIGHBOUR: 'it returns false'. Refute it at one input. -/
def fnWinnersSplitCountWrong : ChangeSpec := { name := "fnWinnersSplitCount", fn := fun _ => fun
  | [d1, d2] => { results := [.lit (.bool false)], args := [d1, d2] }
  | _ => none }
def FnWinnersSplitCountWrongFalsely : Prop := fnWinnersSplitCountRow.holds Trym.pinned (OpenSpec.ofChange fnWinnersSplitCountWrong)

/-- 'zzlaws_level_b1.FnInstalledSkillKeepsAllButStore': WHATEVER THE INPUT: true; the input reads as it did. -/
def fnInstalledSkillKeepsAllButStoreSpec : ChangeSpec := { name := "fnInstalledSkillKeepsAllButStore", fn := fun _ => fun
  | [d1, d2] => { results := [.lit (.bool true)], args := [d1, d2] }
  | _ => none }
def fnInstalledSkillKeepsAllButStoreRow : OpenClaim := { program := "qxb6619271amods", sum := "50fd9e38a8f4d2bfcbdb412014ed70e51b475ebf8e2aad9c5376a08474f7105e", func := "example.com/skilldex/skilldex/zzlaws_level_b1.FnInstalledSkillKeepsAllButStore", spec := "fnInstalledSkillKeepsAllButStore", make := .lifted ["publicsums"], apart := false }
def FnInstalledSkillKeepsAllButStoreSaid : Prop := fnInstalledSkillKeepsAllButStoreRow.holds Trym.pinned (OpenSpec.ofChange fnInstalledSkillKeepsAllButStoreSpec)

/-- ITS FALSE NEIGHBOUR: 'it returns false'. Refute it at one input. -/
def fnInstalledSkillKeepsAllButStoreWrong : ChangeSpec := { name := "fnInstalledSkillKeepsAllButStore", fn := fun _ => fun
  | [d1, d2] => { results := [.lit (.bool false)], args := [d1, d2] }
  | _ => none }
def FnInstalledSkillKeepsAllButStoreWrongFalsely : Prop := fnInstalledSkillKeepsAllButStoreRow.holds Trym.pinned (OpenSpec.ofChange fnInstalledSkillKeepsAllButStoreWrong)

/-- 'zzlaws_level_b1.FnWinnersInsert': WHATEVER THE INPUT: true; the input reads as it did. -/
def fnWinnersInsertSpec : ChangeSpec := { name := "fnWinnersInsert", fn := fun _ => fun
  | [d1, d2, d3] => { results := [.lit (.bool true)], args := [d1, d2, d3] }
  | _ => none }
def fnWinnersInsertRow : OpenClaim := { program := "qxb6619271amods", sum := "50fd9e38a8f4d2bfcbdb412014ed70e51b475ebf8e2aad9c5376a08474f7105e", func := "example.com/skilldex/skilldex/zzlaws_level_b1.FnWinnersInsert", spec := "fnWinnersInsert", make := .lifted ["publicsums"], apart := false }
def FnWinnersInsertSaid : Prop := fnWinnersInsertRow.holds Trym.pinned (OpenSpec.ofChange fnWinnersInsertSpec)

/-- ITS FALSE NEIGHBOUR: 'it returns false'. Refute it at one input. -/
def fnWinnersInsertWrong : ChangeSpec := { name := "fnWinnersInsert", fn := fun _ => fun
  | [d1, d2, d3] => { results := [.lit (.bool false)], args := [d1, d2, d3] }
  | _ => none }
def FnWinnersInsertWrongFalsely : Prop := fnWinnersInsertRow.holds Trym.pinned (OpenSpec.ofChange fnWinnersInsertWrong)

end Rows
end Go.Proofs.Qxb6619271aMods
