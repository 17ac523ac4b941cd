/-
  No cell of these rows narrows 'for every input' (looked for: loops, veiled, ifaces, maps, wideKeys, modest, calm, conditions, laid).
  DERIVED. THE GIVEN ROWS OF THIS SEAT. 3 by the template 'for every input the law returns true; each argument reads behind the call as it read before'; 0 by the template 'total and deterministic' (their statements: Qxb6612566aTotals.lean).
  GIVEN WITH THE SEED: the statements are not yours to turn. If you find one false, say at which input.
  Laid BY PROGRAM, IN A SANDBOX (cutbox-rows.mjs): the forced cells as the released guide's own fill.sh prints them over the translation 918880bc271b1b94… (all of the seat's roots in one cut). By AI agents, Wed Nov 11 2026. No macro, syntax, notation, axiom, sorry.
-/
import Derived.Test.Qxb6612566aChecked
import GoSem.Claim
import GoSem.ClaimJoined
import GoSem.ClaimMapViews
import Derived.JoinedTies
import Derived.KernelRfl
namespace Go.Proofs.Qxb6612566a
/- THE CELL 'sum', in the pinned program and in every row, IS THE sha256 OF THE DUMP (.gsa) THAT Qxb6612566aProg.lean LOADS. Nothing in Lean hashes anything: it is a label: what it is worth is what the hold of that sum in a sandbox is worth. -/
noncomputable def Try.pinned : Pinned := { name := "qxb6612566a", sum := "918880bc271b1b949a0e0fde13bf9e2c4458ecbc245beec8bf48c9fd89a58d30", checked := Try.checked }
namespace Rows
def none {H : Type} : Left H := { results := [], args := [] }

/-- 'zzlaws_internal_store_b1.FnRecordsInsertWrite': WHATEVER THE INPUT: true; the input reads as it did. -/
def fnRecordsInsertWriteSpec : ChangeSpec := { name := "fnRecordsInsertWrite", fn := fun _ => fun
  | [d1, d2, d3, d4, d5, d6] => { results := [.lit (.bool true)], args := [d1, d2, d3, d4, d5, d6] }
  | _ => none }
def fnRecordsInsertWriteRow : OpenClaim := { program := "qxb6612566a", sum := "918880bc271b1b949a0e0fde13bf9e2c4458ecbc245beec8bf48c9fd89a58d30", func := "example.com/halyard/halyard/zzlaws_internal_store_b1.FnRecordsInsertWrite", spec := "fnRecordsInsertWrite", plainKeys := false, apart := false }
def FnRecordsInsertWriteSaid : Prop := fnRecordsInsertWriteRow.holds Try.pinned (OpenSpec.ofChange fnRecordsInsertWriteSpec)

/-- ITS FALSE NEIGHBOUR: 'it returns false'. Refute it at one input. -/
def fnRecordsInsertWriteWrong : ChangeSpec := { name := "fnRecordsInsertWrite", fn := fun _ => fun
  | [d1, d2, d3, d4, d5, d6] => { results := [.lit (.bool false)], args := [d1, d2, d3, d4, d5, d6] }
  | _ => none }
def FnRecordsInsertWriteWrongFalsely : Prop := fnRecordsInsertWriteRow.holds Try.pinned (OpenSpec.ofChange fnRecordsInsertWriteWrong)

/-- 'zzlaws_internal_store_b1.FnRecordBaseIsSHA256': WHATEVER THE INPUT: true; the input reads as it did. -/
def fnRecordBaseIsSHA256Spec : ChangeSpec := { name := "fnRecordBaseIsSHA256", fn := fun _ => fun
  | [d] => { results := [.lit (.bool true)], args := [d] }
  | _ => none }
def fnRecordBaseIsSHA256Row : OpenClaim := { program := "qxb6612566a", sum := "918880bc271b1b949a0e0fde13bf9e2c4458ecbc245beec8bf48c9fd89a58d30", func := "example.com/halyard/halyard/zzlaws_internal_store_b1.FnRecordBaseIsSHA256", spec := "fnRecordBaseIsSHA256", unfollowed := true, recurses := true, plainKeys := false, apart := false }
def FnRecordBaseIsSHA256Said : Prop := fnRecordBaseIsSHA256Row.holds Try.pinned (OpenSpec.ofChange fnRecordBaseIsSHA256Spec)

/-- ITS FALSE NEIGHBOUR: 'it returns false'. Refute it at one input. -/
def fnRecordBaseIsSHA256Wrong : ChangeSpec := { name := "fnRecordBaseIsSHA256", fn := fun _ => fun
  | [d] => { results := [.lit (.bool false)], args := [d] }
  | _ => none }
def FnRecordBaseIsSHA256WrongFalsely : Prop := fnRecordBaseIsSHA256Row.holds Try.pinned (OpenSpec.ofChange fnRecordBaseIsSHA256Wrong)

/-- 'zzlaws_internal_store_b1.FnRecordBaseShape': WHATEVER THE INPUT: true; the input reads as it did. -/
def fnRecordBaseShapeSpec : ChangeSpec := { name := "fnRecordBaseShape", fn := fun _ => fun
  | [d] => { results := [.lit (.bool true)], args := [d] }
  | _ => none }
def fnRecordBaseShapeRow : OpenClaim := { program := "qxb6612566a", sum := "918880bc271b1b949a0e0fde13bf9e2c4458ecbc245beec8bf48c9fd89a58d30", func := "example.com/halyard/halyard/zzlaws_internal_store_b1.FnRecordBaseShape", spec := "fnRecordBaseShape", unfollowed := true, recurses := true, plainKeys := false, apart := false }
def FnRecordBaseShapeSaid : Prop := fnRecordBaseShapeRow.holds Try.pinned (OpenSpec.ofChange fnRecordBaseShapeSpec)

/-- ITS FALSE NEIGHBOUR: 'it returns false'. Refute it at one input. -/
def fnRecordBaseShapeWrong : ChangeSpec := { name := "fnRecordBaseShape", fn := fun _ => fun
  | [d] => { results := [.lit (.bool false)], args := [d] }
  | _ => none }
def FnRecordBaseShapeWrongFalsely : Prop := fnRecordBaseShapeRow.holds Try.pinned (OpenSpec.ofChange fnRecordBaseShapeWrong)

end Rows
end Go.Proofs.Qxb6612566a
