/-
  NARROWER THAN 'FOR EVERY INPUT', by the rows' own cells (each row's printed sentence says how): FnSupersedeNeverBothWays: ifaces, laid.
  DERIVED. THE GIVEN ROWS OF THIS SEAT. 1 by the template 'for every input the law returns true; each argument reads behind the call as it read before'; 0 by the template 'total and deterministic' (their statements: Qxb6612566aFmtTotals.lean).
  GIVEN WITH THE SEED: the statements are not yours to turn. If you find one false, say at which input.
  Laid BY PROGRAM, IN A SANDBOX (cutbox-rows.mjs): the forced cells as the released guide's own fill.sh prints them over the translation 3c5e53199e876e5a… (all of the seat's roots in one cut). By AI agents, Wed Nov 11 2026. No macro, syntax, notation, axiom, sorry.
-/
import Derived.Test.Qxb6612566aFmtChecked
import GoSem.Claim
import GoSem.ClaimJoined
import GoSem.ClaimMapViews
import Derived.JoinedTies
import Derived.KernelRfl
namespace Go.Proofs.Qxb6612566aFmt
/- THE CELL 'sum', in the pinned program and in every row, IS THE sha256 OF THE DUMP (.gsa) THAT Qxb6612566aFmtProg.lean LOADS. Nothing in Lean hashes anything: it is a label: what it is worth is what the hold of that sum in a sandbox is worth. -/
noncomputable def Tryf.pinned : Pinned := { name := "qxb6612566afmt", sum := "3c5e53199e876e5a042ef0831c0ac49cb704cea62fbe3468c8f138446034e123", checked := Tryf.checked }
namespace Rows
def none {H : Type} : Left H := { results := [], args := [] }

/- WHAT THE LISTED PACKAGE-LEVEL VARIABLES READ AS WHEN THE CALL BEGINS. Each datum BY PROGRAM (the guide's laid-datum.mjs) off the statement by which the dump's own 'gosem.cut.vars' lays the variable. In a bare row this is a premise. The card (Qxb6612566aFmtCards.lean) ties it to the program's text. -/
def laid_example_com_halyard_halyard_internal_store_ErrSuperseded {H : Type} : DataW H := .iface "*errors.errorString" (.ptr (.agg [.lit (.string [115, 117, 112, 101, 114, 115, 101, 100, 101, 100])]))

/-- 'zzlaws_internal_store_b1.FnSupersedeNeverBothWays': WHATEVER THE INPUT: true; the input reads as it did. -/
def fnSupersedeNeverBothWaysSpec : ChangeSpec := { name := "fnSupersedeNeverBothWays", vars := ["example.com/halyard/halyard/internal/store.ErrSuperseded"], fn := fun _ => fun
  | [d1, d2, g1] => { results := [.lit (.bool true)], args := [d1, d2], vars := [g1] }
  | _ => none }
def fnSupersedeNeverBothWaysRow : OpenClaim := { program := "qxb6612566afmt", sum := "3c5e53199e876e5a042ef0831c0ac49cb704cea62fbe3468c8f138446034e123", func := "example.com/halyard/halyard/zzlaws_internal_store_b1.FnSupersedeNeverBothWays", spec := "fnSupersedeNeverBothWays", stops := ["fmt.errorf"], inPlace := ["fmt.errorf"], named := ["example.com/halyard/halyard/internal/store.ErrSuperseded"], ifaces := true, plainKeys := false, apart := false, laid := [("example.com/halyard/halyard/internal/store.ErrSuperseded", laid_example_com_halyard_halyard_internal_store_ErrSuperseded)] }
/-- NO THEOREM (fmt's text is open here; it may be false): for the released tool's asking of the row's closed facts alone. THE STATEMENT IS 'FnSupersedeNeverBothWaysToldSaid' (Qxb6612566aFmtCards.lean). -/
def FnSupersedeNeverBothWaysFormAsk : Prop := fnSupersedeNeverBothWaysRow.holds Tryf.pinned (OpenSpec.ofChange fnSupersedeNeverBothWaysSpec)

/-- ITS FALSE NEIGHBOUR: 'it returns false'. Refute it at one input. -/
def fnSupersedeNeverBothWaysWrong : ChangeSpec := { name := "fnSupersedeNeverBothWays", vars := ["example.com/halyard/halyard/internal/store.ErrSuperseded"], fn := fun _ => fun
  | [d1, d2, g1] => { results := [.lit (.bool false)], args := [d1, d2], vars := [g1] }
  | _ => none }
def FnSupersedeNeverBothWaysWrongFormAsk : Prop := fnSupersedeNeverBothWaysRow.holds Tryf.pinned (OpenSpec.ofChange fnSupersedeNeverBothWaysWrong)

end Rows
end Go.Proofs.Qxb6612566aFmt
