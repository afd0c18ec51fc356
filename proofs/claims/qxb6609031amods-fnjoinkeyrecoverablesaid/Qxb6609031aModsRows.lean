/-
  No cell of these rows narrows 'for every input' (looked for: loops, veiled, ifaces, maps, wideKeys, modest, calm, conditions, laid).
  DERIVED. THE GIVEN ROWS OF THIS SEAT. 2 by the template 'for every input the law returns true; each argument reads behind the call as it read before'; 0 by the template 'total and deterministic' (their statements: Qxb6609031aModsTotals.lean).
  GIVEN WITH THE SEED: the statements are not yours to turn. If you find one false, say at which input.
  Laid BY PROGRAM, IN A SANDBOX (cutbox-rows.mjs): the forced cells as the released guide's own fill.sh prints them over the translation c1f3969ef66e4610… (all of the seat's roots in one cut). By AI agents, Wed Nov 11 2026. No macro, syntax, notation, axiom, sorry.
-/
import Derived.Test.Qxb6609031aModsChecked
import GoSem.Claim
import GoSem.ClaimJoined
import GoSem.ClaimMapViews
import Derived.JoinedTies
import Derived.KernelRfl
namespace Go.Proofs.Qxb6609031aMods
/- THE CELL 'sum', in the pinned program and in every row, IS THE sha256 OF THE DUMP (.gsa) THAT Qxb6609031aModsProg.lean LOADS. Nothing in Lean hashes anything: it is a label: what it is worth is what the hold of that sum in a sandbox is worth. -/
noncomputable def Trym.pinned : Pinned := { name := "qxb6609031amods", sum := "c1f3969ef66e461032140b2f5154ca9cdc539313e1766e0b397e07f5cd8b8736", checked := Trym.checked }
namespace Rows
def none {H : Type} : Left H := { results := [], args := [] }

/-- 'zzlaws_pkg_plan_b1.FnJoinAssociativeDotted': WHATEVER THE INPUT: true; the input reads as it did. -/
def fnJoinAssociativeDottedSpec : ChangeSpec := { name := "fnJoinAssociativeDotted", fn := fun _ => fun
  | [d1, d2, d3] => { results := [.lit (.bool true)], args := [d1, d2, d3] }
  | _ => none }
def fnJoinAssociativeDottedRow : OpenClaim := { program := "qxb6609031amods", sum := "c1f3969ef66e461032140b2f5154ca9cdc539313e1766e0b397e07f5cd8b8736", func := "example.com/vestline/vestline/zzlaws_pkg_plan_b1.FnJoinAssociativeDotted", spec := "fnJoinAssociativeDotted", make := .lifted ["publicsums"], apart := false }
def FnJoinAssociativeDottedSaid : Prop := fnJoinAssociativeDottedRow.holds Trym.pinned (OpenSpec.ofChange fnJoinAssociativeDottedSpec)

/-- ITS FALSE NEIGHBOUR: 'it returns false'. Refute it at one input. -/
def fnJoinAssociativeDottedWrong : ChangeSpec := { name := "fnJoinAssociativeDotted", fn := fun _ => fun
  | [d1, d2, d3] => { results := [.lit (.bool false)], args := [d1, d2, d3] }
  | _ => none }
def FnJoinAssociativeDottedWrongFalsely : Prop := fnJoinAssociativeDottedRow.holds Trym.pinned (OpenSpec.ofChange fnJoinAssociativeDottedWrong)

/-- 'zzlaws_pkg_plan_b1.FnJoinKeyRecoverable': WHATEVER THE INPUT: true; the input reads as it did. -/
def fnJoinKeyRecoverableSpec : ChangeSpec := { name := "fnJoinKeyRecoverable", fn := fun _ => fun
  | [d1, d2, d3, d4] => { results := [.lit (.bool true)], args := [d1, d2, d3, d4] }
  | _ => none }
def fnJoinKeyRecoverableRow : OpenClaim := { program := "qxb6609031amods", sum := "c1f3969ef66e461032140b2f5154ca9cdc539313e1766e0b397e07f5cd8b8736", func := "example.com/vestline/vestline/zzlaws_pkg_plan_b1.FnJoinKeyRecoverable", spec := "fnJoinKeyRecoverable", make := .lifted ["publicsums"], apart := false }
def FnJoinKeyRecoverableSaid : Prop := fnJoinKeyRecoverableRow.holds Trym.pinned (OpenSpec.ofChange fnJoinKeyRecoverableSpec)

/-- ITS FALSE NEIGHBOUR: 'it returns false'. Refute it at one input. -/
def fnJoinKeyRecoverableWrong : ChangeSpec := { name := "fnJoinKeyRecoverable", fn := fun _ => fun
  | [d1, d2, d3, d4] => { results := [.lit (.bool false)], args := [d1, d2, d3, d4] }
  | _ => none }
def FnJoinKeyRecoverableWrongFalsely : Prop := fnJoinKeyRecoverableRow.holds Trym.pinned (OpenSpec.ofChange fnJoinKeyRecoverableWrong)

end Rows
end Go.Proofs.Qxb6609031aMods
