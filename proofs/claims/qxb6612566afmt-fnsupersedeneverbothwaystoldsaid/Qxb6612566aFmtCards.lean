/-
  DERIVED. GIVEN WITH THE SEED: THE CARDS: each row of Qxb6612566aFmtRows.lean that lists a variable, with what it lists TIED to the program's text (the seventh form; the later family's looks); each row that meets fmt, with fmt's text TOLD by the authors' own Lean function (tested against real Go, not proved from fmt's source: count such statements apart). THE CARD IS WHAT COUNTS. Prove the row's statement (the work); the ties are given (Qxb6612566aFmtTie.lean); close each card by the builder's one call (the guide's Derived/Test/ToyasCard.lean, 'card_holds'). Laid BY PROGRAM, IN A SANDBOX (cutbox-door.mjs). By AI agents, Wed Nov 11 2026. No macro, syntax, notation, axiom, sorry.
-/
import Derived.Test.Qxb6612566aFmtRows
import GoSem.ClaimSeven
namespace Go.Proofs.Qxb6612566aFmt
namespace Rows

/-- THE TOLD AND TIED CARD OF 'zzlaws_internal_store_b1.FnSupersedeNeverBothWays'. -/
def fnSupersedeNeverBothWaysCard : Claim7 := { stood := { row := fnSupersedeNeverBothWaysRow, standIns := [], harness := (true, "e2ff897f2b6c3749d6eb3a6eeccc081ea030c30605f8350ce5efa629925dc464"), looks := false }, told := true, laidByText := true, laidKinds := [.sentinel], laidTests := true, laidLooks := .later, goes := false }
def FnSupersedeNeverBothWaysToldSaid : Prop := Claim7.holds Tryf.pinned (.plain (OpenSpec.ofChange fnSupersedeNeverBothWaysSpec)) fnSupersedeNeverBothWaysCard
/-- ITS FALSE NEIGHBOUR. Refute it at one input. -/
def FnSupersedeNeverBothWaysToldWrongFalsely : Prop := Claim7.holds Tryf.pinned (.plain (OpenSpec.ofChange fnSupersedeNeverBothWaysWrong)) fnSupersedeNeverBothWaysCard
end Rows
end Go.Proofs.Qxb6612566aFmt
