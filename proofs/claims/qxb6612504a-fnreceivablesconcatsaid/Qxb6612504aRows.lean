/-
  No cell of these rows narrows 'for every input' (looked for: loops, veiled, ifaces, maps, wideKeys, modest, calm, conditions, laid).
  DERIVED. THE GIVEN ROWS OF THIS SEAT. 2 by the template 'for every input the law returns true; each argument reads behind the call as it read before'; 0 by the template 'total and deterministic' (their statements: Qxb6612504aTotals.lean).
  GIVEN WITH THE SEED: the statements are not yours to turn. If you find one false, say at which input.
  Laid BY PROGRAM, IN A SANDBOX (cutbox-rows.mjs): the forced cells as the released guide's own fill.sh prints them over the translation dff721c694bd4099… (all of the seat's roots in one cut). By AI agents, Wed Nov 11 2026. No macro, syntax, notation, axiom, sorry.
-/
import Derived.Test.Qxb6612504aChecked
import GoSem.Claim
import GoSem.ClaimJoined
import GoSem.ClaimMapViews
import Derived.JoinedTies
import Derived.KernelRfl
namespace Go.Proofs.Qxb6612504a
/- THE CELL 'sum', in the pinned program and in every row, IS THE sha256 OF THE DUMP (.gsa) THAT Qxb6612504aProg.lean LOADS. Nothing in Lean hashes anything: it is a label: what it is worth is what the hold of that sum in a sandbox is worth. -/
noncomputable def Try.pinned : Pinned := { name := "qxb6612504a", sum := "dff721c694bd4099c949a64b41d408cc93666df1f7e78515b635bb3320259062", checked := Try.checked }
namespace Rows
def none {H : Type} : Left H := { results := [], args := [] }

/-- 'zzlaws_internal_fund_b1.FnReceivablesExact': WHATEVER THE INPUT: true; the input reads as it did. -/
def fnReceivablesExactSpec : ChangeSpec := { name := "fnReceivablesExact", fn := fun _ => fun
  | [d1, d2] => { results := [.lit (.bool true)], args := [d1, d2] }
  | _ => none }
def fnReceivablesExactRow : OpenClaim := { program := "qxb6612504a", sum := "dff721c694bd4099c949a64b41d408cc93666df1f7e78515b635bb3320259062", func := "example.com/tuoguan/tuoguan/zzlaws_internal_fund_b1.FnReceivablesExact", spec := "fnReceivablesExact", apart := false }
def FnReceivablesExactSaid : Prop := fnReceivablesExactRow.holds Try.pinned (OpenSpec.ofChange fnReceivablesExactSpec)

/-- ITS FALSE NEIGHBOUR: 'it returns false'. Refute it at one input. -/
def fnReceivablesExactWrong : ChangeSpec := { name := "fnReceivablesExact", fn := fun _ => fun
  | [d1, d2] => { results := [.lit (.bool false)], args := [d1, d2] }
  | _ => none }
def FnReceivablesExactWrongFalsely : Prop := fnReceivablesExactRow.holds Try.pinned (OpenSpec.ofChange fnReceivablesExactWrong)

/-- 'zzlaws_internal_fund_b1.FnReceivablesConcat': WHATEVER THE INPUT: true; the input reads as it did. -/
def fnReceivablesConcatSpec : ChangeSpec := { name := "fnReceivablesConcat", fn := fun _ => fun
  | [d1, d2, d3, d4] => { results := [.lit (.bool true)], args := [d1, d2, d3, d4] }
  | _ => none }
def fnReceivablesConcatRow : OpenClaim := { program := "qxb6612504a", sum := "dff721c694bd4099c949a64b41d408cc93666df1f7e78515b635bb3320259062", func := "example.com/tuoguan/tuoguan/zzlaws_internal_fund_b1.FnReceivablesConcat", spec := "fnReceivablesConcat", apart := false }
def FnReceivablesConcatSaid : Prop := fnReceivablesConcatRow.holds Try.pinned (OpenSpec.ofChange fnReceivablesConcatSpec)

/-- ITS FALSE NEIGHBOUR: 'it returns false'. Refute it at one input. -/
def fnReceivablesConcatWrong : ChangeSpec := { name := "fnReceivablesConcat", fn := fun _ => fun
  | [d1, d2, d3, d4] => { results := [.lit (.bool false)], args := [d1, d2, d3, d4] }
  | _ => none }
def FnReceivablesConcatWrongFalsely : Prop := fnReceivablesConcatRow.holds Try.pinned (OpenSpec.ofChange fnReceivablesConcatWrong)

end Rows
end Go.Proofs.Qxb6612504a
