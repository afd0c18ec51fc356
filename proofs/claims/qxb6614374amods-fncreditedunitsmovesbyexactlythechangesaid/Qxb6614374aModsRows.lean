/-
  No cell of these rows narrows 'for every input' (looked for: loops, veiled, ifaces, maps, wideKeys, modest, calm, conditions, laid).
  DERIVED. THE GIVEN ROWS OF THIS SEAT. 2 by the template 'for every input the law returns true; each argument reads behind the call as it read before'; 0 by the template 'total and deterministic' (their statements: Qxb6614374aModsTotals.lean).
  GIVEN WITH THE SEED: the statements are not yours to turn. If you find one false, say at which input.
  Laid BY PROGRAM, IN A SANDBOX (cutbox-rows.mjs): the forced cells as the released guide's own fill.sh prints them over the translation 3a0ab7590165f4d8… (all of the seat's roots in one cut). By AI agents, Wed Nov 11 2026. No macro, syntax, notation, axiom, sorry.
-/
import Derived.Test.Qxb6614374aModsChecked
import GoSem.Claim
import GoSem.ClaimJoined
import GoSem.ClaimMapViews
import Derived.JoinedTies
import Derived.KernelRfl
namespace Go.Proofs.Qxb6614374aMods
/- THE CELL 'sum', in the pinned program and in every row, IS THE sha256 OF THE DUMP (.gsa) THAT Qxb6614374aModsProg.lean LOADS. Nothing in Lean hashes anything: it is a label: what it is worth is what the hold of that sum in a sandbox is worth. -/
noncomputable def Trym.pinned : Pinned := { name := "qxb6614374amods", sum := "3a0ab7590165f4d8f3f7714a4bd5c61da58cf8e57fd7dcc75dbac499eaf44d56", checked := Trym.checked }
namespace Rows
def none {H : Type} : Left H := { results := [], args := [] }

/-- 'zzlaws_internal_book_b1.FnCreditedUnitsShiftInvariant': WHATEVER THE INPUT: true; the input reads as it did. -/
def fnCreditedUnitsShiftInvariantSpec : ChangeSpec := { name := "fnCreditedUnitsShiftInvariant", fn := fun _ => fun
  | [d1, d2, d3, d4, d5] => { results := [.lit (.bool true)], args := [d1, d2, d3, d4, d5] }
  | _ => none }
def fnCreditedUnitsShiftInvariantRow : OpenClaim := { program := "qxb6614374amods", sum := "3a0ab7590165f4d8f3f7714a4bd5c61da58cf8e57fd7dcc75dbac499eaf44d56", func := "example.com/antebook/antebook/zzlaws_internal_book_b1.FnCreditedUnitsShiftInvariant", spec := "fnCreditedUnitsShiftInvariant", make := .lifted ["publicsums"], apart := false }
def FnCreditedUnitsShiftInvariantSaid : Prop := fnCreditedUnitsShiftInvariantRow.holds Trym.pinned (OpenSpec.ofChange fnCreditedUnitsShiftInvariantSpec)

/-- ITS FALSE NEIGHBOUR: 'it returns false'. Refute it at one input. -/
def fnCreditedUnitsShiftInvariantWrong : ChangeSpec := { name := "fnCreditedUnitsShiftInvariant", fn := fun _ => fun
  | [d1, d2, d3, d4, d5] => { results := [.lit (.bool false)], args := [d1, d2, d3, d4, d5] }
  | _ => none }
def FnCreditedUnitsShiftInvariantWrongFalsely : Prop := fnCreditedUnitsShiftInvariantRow.holds Trym.pinned (OpenSpec.ofChange fnCreditedUnitsShiftInvariantWrong)

/-- 'zzlaws_internal_book_b1.FnCreditedUnitsMovesByExactlyTheChange': WHATEVER THE INPUT: true; the input reads as it did. -/
def fnCreditedUnitsMovesByExactlyTheChangeSpec : ChangeSpec := { name := "fnCreditedUnitsMovesByExactlyTheChange", fn := fun _ => fun
  | [d1, d2, d3, d4, d5] => { results := [.lit (.bool true)], args := [d1, d2, d3, d4, d5] }
  | _ => none }
def fnCreditedUnitsMovesByExactlyTheChangeRow : OpenClaim := { program := "qxb6614374amods", sum := "3a0ab7590165f4d8f3f7714a4bd5c61da58cf8e57fd7dcc75dbac499eaf44d56", func := "example.com/antebook/antebook/zzlaws_internal_book_b1.FnCreditedUnitsMovesByExactlyTheChange", spec := "fnCreditedUnitsMovesByExactlyTheChange", make := .lifted ["publicsums"], apart := false }
def FnCreditedUnitsMovesByExactlyTheChangeSaid : Prop := fnCreditedUnitsMovesByExactlyTheChangeRow.holds Trym.pinned (OpenSpec.ofChange fnCreditedUnitsMovesByExactlyTheChangeSpec)

/-- ITS FALSE NEIGHBOUR: 'it returns false'. Refute it at one input. -/
def fnCreditedUnitsMovesByExactlyTheChangeWrong : ChangeSpec := { name := "fnCreditedUnitsMovesByExactlyTheChange", fn := fun _ => fun
  | [d1, d2, d3, d4, d5] => { results := [.lit (.bool false)], args := [d1, d2, d3, d4, d5] }
  | _ => none }
def FnCreditedUnitsMovesByExactlyTheChangeWrongFalsely : Prop := fnCreditedUnitsMovesByExactlyTheChangeRow.holds Trym.pinned (OpenSpec.ofChange fnCreditedUnitsMovesByExactlyTheChangeWrong)

end Rows
end Go.Proofs.Qxb6614374aMods
