/-
  No cell of these rows narrows 'for every input' (looked for: loops, veiled, ifaces, maps, wideKeys, modest, calm, conditions, laid).
  DERIVED. THE GIVEN ROWS OF THIS SEAT. 2 by the template 'for every input the law returns true; each argument reads behind the call as it read before'; 0 by the template 'total and deterministic' (their statements: Qxb6608522aModsTotals.lean).
  GIVEN WITH THE SEED: the statements are not yours to turn. If you find one false, say at which input.
  Laid BY PROGRAM, IN A SANDBOX (cutbox-rows.mjs): the forced cells as the released guide's own fill.sh prints them over the translation 3c5288202bc654d7… (all of the seat's roots in one cut). By AI agents, Wed Nov 11 2026. No macro, syntax, notation, axiom, sorry.
-/
import Derived.Test.Qxb6608522aModsChecked
import GoSem.Claim
import GoSem.ClaimJoined
import GoSem.ClaimMapViews
import Derived.JoinedTies
import Derived.KernelRfl
namespace Go.Proofs.Qxb6608522aMods
/- THE CELL 'sum', in the pinned program and in every row, IS THE sha256 OF THE DUMP (.gsa) THAT Qxb6608522aModsProg.lean LOADS. Nothing in Lean hashes anything: it is a label: what it is worth is what the hold of that sum in a sandbox is worth. -/
noncomputable def Trym.pinned : Pinned := { name := "qxb6608522amods", sum := "3c5288202bc654d7d625e590ba48e36ccdf5b4456c8b166afdddf8a7593f7b74", checked := Trym.checked }
namespace Rows
def none {H : Type} : Left H := { results := [], args := [] }

/-- 'zzlaws_internal_dns_b1.FnAppendNameCutAtAnyLabel': WHATEVER THE INPUT: true; the input reads as it did. -/
def fnAppendNameCutAtAnyLabelSpec : ChangeSpec := { name := "fnAppendNameCutAtAnyLabel", fn := fun _ => fun
  | [d1, d2, d3] => { results := [.lit (.bool true)], args := [d1, d2, d3] }
  | _ => none }
def fnAppendNameCutAtAnyLabelRow : OpenClaim := { program := "qxb6608522amods", sum := "3c5288202bc654d7d625e590ba48e36ccdf5b4456c8b166afdddf8a7593f7b74", func := "example.com/namehold/namehold/zzlaws_internal_dns_b1.FnAppendNameCutAtAnyLabel", spec := "fnAppendNameCutAtAnyLabel", make := .lifted ["publicsums"], apart := false }
def FnAppendNameCutAtAnyLabelSaid : Prop := fnAppendNameCutAtAnyLabelRow.holds Trym.pinned (OpenSpec.ofChange fnAppendNameCutAtAnyLabelSpec)

/-- ITS FALSE NEIGHBOUR: 'it returns false'. Refute it at one input. -/
def fnAppendNameCutAtAnyLabelWrong : ChangeSpec := { name := "fnAppendNameCutAtAnyLabel", fn := fun _ => fun
  | [d1, d2, d3] => { results := [.lit (.bool false)], args := [d1, d2, d3] }
  | _ => none }
def FnAppendNameCutAtAnyLabelWrongFalsely : Prop := fnAppendNameCutAtAnyLabelRow.holds Trym.pinned (OpenSpec.ofChange fnAppendNameCutAtAnyLabelWrong)

/-- 'zzlaws_internal_dns_b1.FnAppendNameReadsBackItsLabels': WHATEVER THE INPUT: true; the input reads as it did. -/
def fnAppendNameReadsBackItsLabelsSpec : ChangeSpec := { name := "fnAppendNameReadsBackItsLabels", fn := fun _ => fun
  | [d1, d2] => { results := [.lit (.bool true)], args := [d1, d2] }
  | _ => none }
def fnAppendNameReadsBackItsLabelsRow : OpenClaim := { program := "qxb6608522amods", sum := "3c5288202bc654d7d625e590ba48e36ccdf5b4456c8b166afdddf8a7593f7b74", func := "example.com/namehold/namehold/zzlaws_internal_dns_b1.FnAppendNameReadsBackItsLabels", spec := "fnAppendNameReadsBackItsLabels", make := .lifted ["publicsums"], apart := false }
def FnAppendNameReadsBackItsLabelsSaid : Prop := fnAppendNameReadsBackItsLabelsRow.holds Trym.pinned (OpenSpec.ofChange fnAppendNameReadsBackItsLabelsSpec)

/-- ITS FALSE NEIGHBOUR: 'it returns false'. Refute it at one input. -/
def fnAppendNameReadsBackItsLabelsWrong : ChangeSpec := { name := "fnAppendNameReadsBackItsLabels", fn := fun _ => fun
  | [d1, d2] => { results := [.lit (.bool false)], args := [d1, d2] }
  | _ => none }
def FnAppendNameReadsBackItsLabelsWrongFalsely : Prop := fnAppendNameReadsBackItsLabelsRow.holds Trym.pinned (OpenSpec.ofChange fnAppendNameReadsBackItsLabelsWrong)

end Rows
end Go.Proofs.Qxb6608522aMods
