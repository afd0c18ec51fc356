/-
  No cell of these rows narrows 'for every input' (looked for: loops, veiled, ifaces, maps, wideKeys, modest, calm, conditions, laid).
  DERIVED. THE GIVEN ROWS OF THIS SEAT. 7 by the template 'for every input the law returns true; each argument reads behind the call as it read before'; 0 by the template 'total and deterministic' (their statements: Qxb6615075aModsTotals.lean).
  GIVEN WITH THE SEED: the statements are not yours to turn. If you find one false, say at which input.
  Laid BY PROGRAM, IN A SANDBOX (cutbox-rows.mjs): the forced cells as the released guide's own fill.sh prints them over the translation 73d252e684f1138c… (all of the seat's roots in one cut). By AI agents, Wed Nov 11 2026. No macro, syntax, notation, axiom, sorry.
-/
import Derived.Test.Qxb6615075aModsChecked
import GoSem.Claim
import GoSem.ClaimJoined
import GoSem.ClaimMapViews
import Derived.JoinedTies
import Derived.KernelRfl
namespace Go.Proofs.Qxb6615075aMods
/- THE CELL 'sum', in the pinned program and in every row, IS THE sha256 OF THE DUMP (.gsa) THAT Qxb6615075aModsProg.lean LOADS. Nothing in Lean hashes anything: it is a label: what it is worth is what the hold of that sum in a sandbox is worth. -/
noncomputable def Trym.pinned : Pinned := { name := "qxb6615075amods", sum := "73d252e684f1138ce91b49efb9415fae1c013ac370b505518813848332775ce1", checked := Trym.checked }
namespace Rows
def none {H : Type} : Left H := { results := [], args := [] }

/-- 'zzlaws_root_b1.FnMaxFrameBytesWholeBlocksAdd': WHATEVER THE INPUT: true; the input reads as it did. -/
def fnMaxFrameBytesWholeBlocksAddSpec : ChangeSpec := { name := "fnMaxFrameBytesWholeBlocksAdd", fn := fun _ => fun
  | [d1, d2] => { results := [.lit (.bool true)], args := [d1, d2] }
  | _ => none }
def fnMaxFrameBytesWholeBlocksAddRow : OpenClaim := { program := "qxb6615075amods", sum := "73d252e684f1138ce91b49efb9415fae1c013ac370b505518813848332775ce1", func := "example.com/inkstone/inkstone/zzlaws_root_b1.FnMaxFrameBytesWholeBlocksAdd", spec := "fnMaxFrameBytesWholeBlocksAdd", make := .lifted ["publicsums"], apart := false }
def FnMaxFrameBytesWholeBlocksAddSaid : Prop := fnMaxFrameBytesWholeBlocksAddRow.holds Trym.pinned (OpenSpec.ofChange fnMaxFrameBytesWholeBlocksAddSpec)

/-- ITS FALSE NEIGHBOUR: 'it returns false'. Refute it at one input. -/
def fnMaxFrameBytesWholeBlocksAddWrong : ChangeSpec := { name := "fnMaxFrameBytesWholeBlocksAdd", fn := fun _ => fun
  | [d1, d2] => { results := [.lit (.bool false)], args := [d1, d2] }
  | _ => none }
def FnMaxFrameBytesWholeBlocksAddWrongFalsely : Prop := fnMaxFrameBytesWholeBlocksAddRow.holds Trym.pinned (OpenSpec.ofChange fnMaxFrameBytesWholeBlocksAddWrong)

/-- 'zzlaws_root_b1.FnMaxFrameBytesOneByteMore': WHATEVER THE INPUT: true; the input reads as it did. -/
def fnMaxFrameBytesOneByteMoreSpec : ChangeSpec := { name := "fnMaxFrameBytesOneByteMore", fn := fun _ => fun
  | [d] => { results := [.lit (.bool true)], args := [d] }
  | _ => none }
def fnMaxFrameBytesOneByteMoreRow : OpenClaim := { program := "qxb6615075amods", sum := "73d252e684f1138ce91b49efb9415fae1c013ac370b505518813848332775ce1", func := "example.com/inkstone/inkstone/zzlaws_root_b1.FnMaxFrameBytesOneByteMore", spec := "fnMaxFrameBytesOneByteMore", make := .lifted ["publicsums"], apart := false }
def FnMaxFrameBytesOneByteMoreSaid : Prop := fnMaxFrameBytesOneByteMoreRow.holds Trym.pinned (OpenSpec.ofChange fnMaxFrameBytesOneByteMoreSpec)

/-- ITS FALSE NEIGHBOUR: 'it returns false'. Refute it at one input. -/
def fnMaxFrameBytesOneByteMoreWrong : ChangeSpec := { name := "fnMaxFrameBytesOneByteMore", fn := fun _ => fun
  | [d] => { results := [.lit (.bool false)], args := [d] }
  | _ => none }
def FnMaxFrameBytesOneByteMoreWrongFalsely : Prop := fnMaxFrameBytesOneByteMoreRow.holds Trym.pinned (OpenSpec.ofChange fnMaxFrameBytesOneByteMoreWrong)

/-- 'zzlaws_root_b1.FnSlotTagLengthSitsAboveFloor': WHATEVER THE INPUT: true; the input reads as it did. -/
def fnSlotTagLengthSitsAboveFloorSpec : ChangeSpec := { name := "fnSlotTagLengthSitsAboveFloor", fn := fun _ => fun
  | [d1, d2] => { results := [.lit (.bool true)], args := [d1, d2] }
  | _ => none }
def fnSlotTagLengthSitsAboveFloorRow : OpenClaim := { program := "qxb6615075amods", sum := "73d252e684f1138ce91b49efb9415fae1c013ac370b505518813848332775ce1", func := "example.com/inkstone/inkstone/zzlaws_root_b1.FnSlotTagLengthSitsAboveFloor", spec := "fnSlotTagLengthSitsAboveFloor", make := .lifted ["publicsums"], apart := false }
def FnSlotTagLengthSitsAboveFloorSaid : Prop := fnSlotTagLengthSitsAboveFloorRow.holds Trym.pinned (OpenSpec.ofChange fnSlotTagLengthSitsAboveFloorSpec)

/-- ITS FALSE NEIGHBOUR: 'it returns false'. Refute it at one input. -/
def fnSlotTagLengthSitsAboveFloorWrong : ChangeSpec := { name := "fnSlotTagLengthSitsAboveFloor", fn := fun _ => fun
  | [d1, d2] => { results := [.lit (.bool false)], args := [d1, d2] }
  | _ => none }
def FnSlotTagLengthSitsAboveFloorWrongFalsely : Prop := fnSlotTagLengthSitsAboveFloorRow.holds Trym.pinned (OpenSpec.ofChange fnSlotTagLengthSitsAboveFloorWrong)

/-- 'zzlaws_root_b1.FnSlotTagSameIffSameTopAndLength': WHATEVER THE INPUT: true; the input reads as it did. -/
def fnSlotTagSameIffSameTopAndLengthSpec : ChangeSpec := { name := "fnSlotTagSameIffSameTopAndLength", fn := fun _ => fun
  | [d1, d2, d3, d4] => { results := [.lit (.bool true)], args := [d1, d2, d3, d4] }
  | _ => none }
def fnSlotTagSameIffSameTopAndLengthRow : OpenClaim := { program := "qxb6615075amods", sum := "73d252e684f1138ce91b49efb9415fae1c013ac370b505518813848332775ce1", func := "example.com/inkstone/inkstone/zzlaws_root_b1.FnSlotTagSameIffSameTopAndLength", spec := "fnSlotTagSameIffSameTopAndLength", make := .lifted ["publicsums"], apart := false }
def FnSlotTagSameIffSameTopAndLengthSaid : Prop := fnSlotTagSameIffSameTopAndLengthRow.holds Trym.pinned (OpenSpec.ofChange fnSlotTagSameIffSameTopAndLengthSpec)

/-- ITS FALSE NEIGHBOUR: 'it returns false'. Refute it at one input. -/
def fnSlotTagSameIffSameTopAndLengthWrong : ChangeSpec := { name := "fnSlotTagSameIffSameTopAndLength", fn := fun _ => fun
  | [d1, d2, d3, d4] => { results := [.lit (.bool false)], args := [d1, d2, d3, d4] }
  | _ => none }
def FnSlotTagSameIffSameTopAndLengthWrongFalsely : Prop := fnSlotTagSameIffSameTopAndLengthRow.holds Trym.pinned (OpenSpec.ofChange fnSlotTagSameIffSameTopAndLengthWrong)

/-- 'zzlaws_root_b1.FnEachRecordJoin': WHATEVER THE INPUT: true; the input reads as it did. -/
def fnEachRecordJoinSpec : ChangeSpec := { name := "fnEachRecordJoin", fn := fun _ => fun
  | [d1, d2, d3, d4] => { results := [.lit (.bool true)], args := [d1, d2, d3, d4] }
  | _ => none }
def fnEachRecordJoinRow : OpenClaim := { program := "qxb6615075amods", sum := "73d252e684f1138ce91b49efb9415fae1c013ac370b505518813848332775ce1", func := "example.com/inkstone/inkstone/zzlaws_root_b1.FnEachRecordJoin", spec := "fnEachRecordJoin", unfollowed := true, recurses := true, make := .lifted ["publicsums"], apart := false }
def FnEachRecordJoinSaid : Prop := fnEachRecordJoinRow.holds Trym.pinned (OpenSpec.ofChange fnEachRecordJoinSpec)

/-- ITS FALSE NEIGHBOUR: 'it returns false'. Refute it at one input. -/
def fnEachRecordJoinWrong : ChangeSpec := { name := "fnEachRecordJoin", fn := fun _ => fun
  | [d1, d2, d3, d4] => { results := [.lit (.bool false)], args := [d1, d2, d3, d4] }
  | _ => none }
def FnEachRecordJoinWrongFalsely : Prop := fnEachRecordJoinRow.holds Trym.pinned (OpenSpec.ofChange fnEachRecordJoinWrong)

/-- 'zzlaws_root_b1.FnEachRecordInsert': WHATEVER THE INPUT: true; the input reads as it did. -/
def fnEachRecordInsertSpec : ChangeSpec := { name := "fnEachRecordInsert", fn := fun _ => fun
  | [d1, d2, d3, d4, d5, d6] => { results := [.lit (.bool true)], args := [d1, d2, d3, d4, d5, d6] }
  | _ => none }
def fnEachRecordInsertRow : OpenClaim := { program := "qxb6615075amods", sum := "73d252e684f1138ce91b49efb9415fae1c013ac370b505518813848332775ce1", func := "example.com/inkstone/inkstone/zzlaws_root_b1.FnEachRecordInsert", spec := "fnEachRecordInsert", unfollowed := true, recurses := true, make := .lifted ["publicsums"], apart := false }
def FnEachRecordInsertSaid : Prop := fnEachRecordInsertRow.holds Trym.pinned (OpenSpec.ofChange fnEachRecordInsertSpec)

/-- ITS FALSE NEIGHBOUR: 'it returns false'. Refute it at one input. -/
def fnEachRecordInsertWrong : ChangeSpec := { name := "fnEachRecordInsert", fn := fun _ => fun
  | [d1, d2, d3, d4, d5, d6] => { results := [.lit (.bool false)], args := [d1, d2, d3, d4, d5, d6] }
  | _ => none }
def FnEachRecordInsertWrongFalsely : Prop := fnEachRecordInsertRow.holds Trym.pinned (OpenSpec.ofChange fnEachRecordInsertWrong)

/-- 'zzlaws_root_b1.FnOfNamingTheDefaultIsNamingNone': WHATEVER THE INPUT: true; the input reads as it did. -/
def fnOfNamingTheDefaultIsNamingNoneSpec : ChangeSpec := { name := "fnOfNamingTheDefaultIsNamingNone", fn := fun _ => fun
  | [d1, d2, d3, d4] => { results := [.lit (.bool true)], args := [d1, d2, d3, d4] }
  | _ => none }
def fnOfNamingTheDefaultIsNamingNoneRow : OpenClaim := { program := "qxb6615075amods", sum := "73d252e684f1138ce91b49efb9415fae1c013ac370b505518813848332775ce1", func := "example.com/inkstone/inkstone/zzlaws_root_b1.FnOfNamingTheDefaultIsNamingNone", spec := "fnOfNamingTheDefaultIsNamingNone", make := .lifted ["publicsums"], apart := false }
def FnOfNamingTheDefaultIsNamingNoneSaid : Prop := fnOfNamingTheDefaultIsNamingNoneRow.holds Trym.pinned (OpenSpec.ofChange fnOfNamingTheDefaultIsNamingNoneSpec)

/-- ITS FALSE NEIGHBOUR: 'it returns false'. Refute it at one input. -/
def fnOfNamingTheDefaultIsNamingNoneWrong : ChangeSpec := { name := "fnOfNamingTheDefaultIsNamingNone", fn := fun _ => fun
  | [d1, d2, d3, d4] => { results := [.lit (.bool false)], args := [d1, d2, d3, d4] }
  | _ => none }
def FnOfNamingTheDefaultIsNamingNoneWrongFalsely : Prop := fnOfNamingTheDefaultIsNamingNoneRow.holds Trym.pinned (OpenSpec.ofChange fnOfNamingTheDefaultIsNamingNoneWrong)

end Rows
end Go.Proofs.Qxb6615075aMods
