/-
  No cell of these rows narrows 'for every input' (looked for: loops, veiled, ifaces, maps, wideKeys, modest, calm, conditions, laid).
  DERIVED. THE GIVEN ROWS OF THIS SEAT. 4 by the template 'for every input the law returns true; each argument reads behind the call as it read before'; 0 by the template 'total and deterministic' (their statements: Qxb6614800aModsTotals.lean).
  GIVEN WITH THE SEED: the statements are not yours to turn. If you find one false, say at which input.
  Laid BY PROGRAM, IN A SANDBOX (cutbox-rows.mjs): the forced cells as the released guide's own fill.sh prints them over the translation 37ad55677b4f4d8d… (all of the seat's roots in one cut). By AI agents, Wed Nov 11 2026. No macro, syntax, notation, axiom, sorry.
-/
import Derived.Test.Qxb6614800aModsChecked
import GoSem.Claim
import GoSem.ClaimJoined
import GoSem.ClaimMapViews
import Derived.JoinedTies
import Derived.KernelRfl
namespace Go.Proofs.Qxb6614800aMods
/- THE CELL 'sum', in the pinned program and in every row, IS THE sha256 OF THE DUMP (.gsa) THAT Qxb6614800aModsProg.lean LOADS. Nothing in Lean hashes anything: it is a label: what it is worth is what the hold of that sum in a sandbox is worth. -/
noncomputable def Trym.pinned : Pinned := { name := "qxb6614800amods", sum := "37ad55677b4f4d8d60b3ea51b509efe2f2a902568e7e76ccdd1879869db22ade", checked := Trym.checked }
namespace Rows
def none {H : Type} : Left H := { results := [], args := [] }

/-- 'zzlaws_root_b1.FnNextInjective': WHATEVER THE INPUT: true; the input reads as it did. -/
def fnNextInjectiveSpec : ChangeSpec := { name := "fnNextInjective", fn := fun _ => fun
  | [d1, d2, d3, d4, d5, d6] => { results := [.lit (.bool true)], args := [d1, d2, d3, d4, d5, d6] }
  | _ => none }
def fnNextInjectiveRow : OpenClaim := { program := "qxb6614800amods", sum := "37ad55677b4f4d8d60b3ea51b509efe2f2a902568e7e76ccdd1879869db22ade", func := "example.com/coxswain/coxswain/zzlaws_root_b1.FnNextInjective", spec := "fnNextInjective", make := .lifted ["publicsums"], apart := false }
def FnNextInjectiveSaid : Prop := fnNextInjectiveRow.holds Trym.pinned (OpenSpec.ofChange fnNextInjectiveSpec)

/-- ITS FALSE NEIGHBOUR: 'it returns false'. Refute it at one input. -/
def fnNextInjectiveWrong : ChangeSpec := { name := "fnNextInjective", fn := fun _ => fun
  | [d1, d2, d3, d4, d5, d6] => { results := [.lit (.bool false)], args := [d1, d2, d3, d4, d5, d6] }
  | _ => none }
def FnNextInjectiveWrongFalsely : Prop := fnNextInjectiveRow.holds Trym.pinned (OpenSpec.ofChange fnNextInjectiveWrong)

/-- 'zzlaws_root_b1.FnNextIsDoneWithItsCondition': WHATEVER THE INPUT: true; the input reads as it did. -/
def fnNextIsDoneWithItsConditionSpec : ChangeSpec := { name := "fnNextIsDoneWithItsCondition", fn := fun _ => fun
  | [d1, d2, d3, d4] => { results := [.lit (.bool true)], args := [d1, d2, d3, d4] }
  | _ => none }
def fnNextIsDoneWithItsConditionRow : OpenClaim := { program := "qxb6614800amods", sum := "37ad55677b4f4d8d60b3ea51b509efe2f2a902568e7e76ccdd1879869db22ade", func := "example.com/coxswain/coxswain/zzlaws_root_b1.FnNextIsDoneWithItsCondition", spec := "fnNextIsDoneWithItsCondition", make := .lifted ["publicsums"], apart := false }
def FnNextIsDoneWithItsConditionSaid : Prop := fnNextIsDoneWithItsConditionRow.holds Trym.pinned (OpenSpec.ofChange fnNextIsDoneWithItsConditionSpec)

/-- ITS FALSE NEIGHBOUR: 'it returns false'. Refute it at one input. -/
def fnNextIsDoneWithItsConditionWrong : ChangeSpec := { name := "fnNextIsDoneWithItsCondition", fn := fun _ => fun
  | [d1, d2, d3, d4] => { results := [.lit (.bool false)], args := [d1, d2, d3, d4] }
  | _ => none }
def FnNextIsDoneWithItsConditionWrongFalsely : Prop := fnNextIsDoneWithItsConditionRow.holds Trym.pinned (OpenSpec.ofChange fnNextIsDoneWithItsConditionWrong)

/-- 'zzlaws_root_b1.FnRequeueInjective': WHATEVER THE INPUT: true; the input reads as it did. -/
def fnRequeueInjectiveSpec : ChangeSpec := { name := "fnRequeueInjective", fn := fun _ => fun
  | [d1, d2, d3, d4, d5, d6] => { results := [.lit (.bool true)], args := [d1, d2, d3, d4, d5, d6] }
  | _ => none }
def fnRequeueInjectiveRow : OpenClaim := { program := "qxb6614800amods", sum := "37ad55677b4f4d8d60b3ea51b509efe2f2a902568e7e76ccdd1879869db22ade", func := "example.com/coxswain/coxswain/zzlaws_root_b1.FnRequeueInjective", spec := "fnRequeueInjective", make := .lifted ["publicsums"], apart := false }
def FnRequeueInjectiveSaid : Prop := fnRequeueInjectiveRow.holds Trym.pinned (OpenSpec.ofChange fnRequeueInjectiveSpec)

/-- ITS FALSE NEIGHBOUR: 'it returns false'. Refute it at one input. -/
def fnRequeueInjectiveWrong : ChangeSpec := { name := "fnRequeueInjective", fn := fun _ => fun
  | [d1, d2, d3, d4, d5, d6] => { results := [.lit (.bool false)], args := [d1, d2, d3, d4, d5, d6] }
  | _ => none }
def FnRequeueInjectiveWrongFalsely : Prop := fnRequeueInjectiveRow.holds Trym.pinned (OpenSpec.ofChange fnRequeueInjectiveWrong)

/-- 'zzlaws_root_b1.FnRequeueNeverZeroNorNext': WHATEVER THE INPUT: true; the input reads as it did. -/
def fnRequeueNeverZeroNorNextSpec : ChangeSpec := { name := "fnRequeueNeverZeroNorNext", fn := fun _ => fun
  | [d1, d2, d3, d4, d5, d6] => { results := [.lit (.bool true)], args := [d1, d2, d3, d4, d5, d6] }
  | _ => none }
def fnRequeueNeverZeroNorNextRow : OpenClaim := { program := "qxb6614800amods", sum := "37ad55677b4f4d8d60b3ea51b509efe2f2a902568e7e76ccdd1879869db22ade", func := "example.com/coxswain/coxswain/zzlaws_root_b1.FnRequeueNeverZeroNorNext", spec := "fnRequeueNeverZeroNorNext", make := .lifted ["publicsums"], apart := false }
def FnRequeueNeverZeroNorNextSaid : Prop := fnRequeueNeverZeroNorNextRow.holds Trym.pinned (OpenSpec.ofChange fnRequeueNeverZeroNorNextSpec)

/-- ITS FALSE NEIGHBOUR: 'it returns false'. Refute it at one input. -/
def fnRequeueNeverZeroNorNextWrong : ChangeSpec := { name := "fnRequeueNeverZeroNorNext", fn := fun _ => fun
  | [d1, d2, d3, d4, d5, d6] => { results := [.lit (.bool false)], args := [d1, d2, d3, d4, d5, d6] }
  | _ => none }
def FnRequeueNeverZeroNorNextWrongFalsely : Prop := fnRequeueNeverZeroNorNextRow.holds Trym.pinned (OpenSpec.ofChange fnRequeueNeverZeroNorNextWrong)

end Rows
end Go.Proofs.Qxb6614800aMods
