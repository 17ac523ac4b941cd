/-
  The proof of Rows.FnSupersedeNeverBothWaysToldSaid: the frame, the sentinel as the program's text lays it, the card.
-/
import Derived.Test.Qxb6612566aFmtRows
import Derived.Test.Qxb6612566aFmtTie
import Derived.Test.Qxb6612566aFmtCards
import Derived.Test.Qxb6612566aFmtStMain
import Derived.Test.Qxb6612566aFmtStOpen
import Derived.ShutString
import Derived.ChangeOld
import Derived.Below
import Derived.RowKitTokens
import Derived.Stop.LaidErr
import Derived.Stop.JoinedTold
import Derived.SevenTiedAt
import Derived.WalkSmall
namespace Go.Proofs.Qxb6612566aFmt.st
open Go.ChangeShapes Go.WideShapes Go.ChangeAt Go.RowKit
open Go.Extern.Stop Go.Stop Go.Extern
set_option linter.unusedVariables false

theorem own : ownKnob Tryf.prog.godebug = none := by kernel_rfl
theorem laidOut : laidOutB Tryf.prog = true := by kernel_rfl
theorem stops : Tryf.pinned.checked.prog.stops = ["fmt.errorf"] := by kernel_rfl
theorem stopKnobs : Tryf.pinned.checked.prog.stopKnobs = [] := by kernel_rfl
theorem quiet (os : Os) : Stop.quiet Tryf.pinned.checked.prog os := by
  intro k hk
  rw [stopKnobs] at hk
  cases hk

abbrev nmSup : String := "example.com/halyard/halyard/internal/store.ErrSuperseded"
theorem gE : Tryf.prog.globalNamed nmSup = some 0 := by kernel_rfl
theorem gEType : (Tryf.prog.globals[0]?).map (·.type) = some 35 := by kernel_rfl
theorem cells78 : Tryf.prog.cellsOf 78 = 1 := by kernel_rfl
theorem star : "*" ++ "errors.errorString" = "*errors.errorString" := by decide
/-- The one type of that name. -/
theorem row76 (u : TypeId) (h : Tryf.prog.typeName? 3 u = some "*errors.errorString") : u = 76 :=
  typeName_ptr_named (nm := "errors.errorString") (by rw [star]; kernel_rfl) (by kernel_rfl) (by decide) u (by rw [star]; exact h)

abbrev supS : ByteArray := { data := #[115, 117, 112, 101, 114, 115, 101, 100, 101, 100] }
/-- So many blocks has the settled world. -/
noncomputable def low : Nat := (World.holding Tryf.prog default ⟨#[], #[], []⟩).heap.size
/-- The settled world with one block more, an errors.errorString; the variable holds a pointer to it. -/
noncomputable def laidWorld (os : Os) : World :=
  let w0 := World.holding Tryf.prog os ⟨#[.cells #[.string supS] 78], #[], []⟩
  { w0 with heap := w0.heap.modify 0 fun
      | .cells _ t frozen => .cells #[.iface 76 (.pointer (some ⟨low, 0, none⟩))] t frozen
      | o => o }
theorem laid_met (os : Os) (args : Array Value) : laidMet Tryf.prog Rows.fnSupersedeNeverBothWaysRow.laid ((laidWorld os).forCall (fun _ _ => 0) ⟨#[], args, []⟩).memory :=
  laidMet_of_run (ps := [.cell 0 0, .cell low 0]) 8 (by kernel_rfl) (by kernel_rfl) (by kernel_rfl)

abbrev zeroArg : Value := .agg #[.string ⟨#[]⟩, .int .i64 0, .string ⟨#[]⟩, .string ⟨#[]⟩, .int .i64 0, .slice none 0 0, .int .i64 0, .int .i64 0, .int .i64 0, .bool false, .bool false]

set_option maxRecDepth 100000 in
theorem lifted (os : Os) (started : os.Started) (H : Type) (enc : TypeId × Value → H) :
    ReturnsInTold none {} Tryf.checked os 3 .any Input.okWide ((OpenSpec.ofChange Rows.fnSupersedeNeverBothWaysSpec).preRow enc Tryf.prog Tryf.f3 Rows.fnSupersedeNeverBothWaysRow.domain false Rows.fnSupersedeNeverBothWaysRow.laid) (fun F => ((OpenSpec.ofChange Rows.fnSupersedeNeverBothWaysSpec).at F).post enc Tryf.prog Tryf.f3 false Rows.fnSupersedeNeverBothWaysRow.fresh Rows.fnSupersedeNeverBothWaysRow.handsOn Rows.fnSupersedeNeverBothWaysRow.again) (aloneAtReturn Tryf.prog) nothingAlways := by
  refine returnsInTold_of_row (C := Tryf.checked) (s := OpenSpec.ofChange Rows.fnSupersedeNeverBothWaysSpec) (by kernel_rfl) own started (by kernel_rfl) Tryf.func3
    (OpenSpec.witness_stopped_at (enc := enc) (C := Tryf.checked) false (laidWorld os) #[.slice none 0 0, zeroArg] rfl (by kernel_rfl) (by kernel_rfl) (by kernel_rfl)
      (OpenSpec.preRow_of_B rfl 8 (by kernel_rfl) (by kernel_rfl) (laid_met os _))) ?_
  intro F W base args ds gs before _ hF hval0 hW _ _ _ hL _
  have hval : ∀ (j : Nat) t v, Tryf.f3.params[j]? = some t → args[j]? = some v → Value.okWide Tryf.prog W .any base t v := hval0
  have hW' := hW
  obtain ⟨p, q, hA0, hV0, rfl, hfz, hnd⟩ := hW
  have hA : DataW.TrodAll enc Tryf.prog W 0 (fun _ => true) true Tryf.f3.params.toList args.toList ds p := hA0
  have hV : DataW.TrodVars enc Tryf.prog W (fun _ => true) [nmSup] gs q := hV0
  rw [Tryf.params3] at hA hval
  obtain ⟨v0, vs0, d0, ds0, p0, q0, hargs, rfl, rfl, h0, r0⟩ := trodAll_cons hA
  obtain ⟨v1, vs1, d1, ds1, p1, q1, rfl, rfl, rfl, h1, r1⟩ := trodAll_cons r0
  obtain ⟨rfl, rfl, rfl⟩ := trodAll_nil r1
  obtain rfl : args = #[v0, v1] := by cases args; simp_all
  obtain ⟨a1, s1, hv1, hc1, hs1, hz1⟩ := laid_sentinel hL gE gEType Tryf.underlying35 row76 Tryf.underlying76 Tryf.underlying78 rfl rfl Tryf.underlying9 cells78 ocells9
  obtain ⟨rfl, rfl⟩ := hV.unique (vars_read1 enc gE gEType Tryf.underlying35 hv1 trivial _)
  have hg1 : W.cell? ⟨0, 0, none⟩ = some (.iface 76 (.pointer (some a1))) := by simpa using World.var?_cell gE hv1 0
  have k0 := h0
  have lt0 : ∀ x ∈ p0, x.block < W.heap.size := by obtain ⟨m, hm⟩ := k0; exact DataW.trod_lt m _ _ _ hm
  have k1 := h1
  have lt1 : ∀ x ∈ p1, x.block < W.heap.size := by obtain ⟨m, hm⟩ := k1; exact DataW.trod_lt m _ _ _ hm
  obtain ⟨n, Z, G, hF0, hn, hh, hm⟩ := files_open h0 (okWide_slice Tryf.underlying22 (hval 0 22 v0 rfl rfl))
  obtain ⟨fu, hfu⟩ := h1
  obtain ⟨z, g, hz, hzs, hzl, hzm⟩ := file_open hfu
  have hzv : v1 = fileVal z z.ha z.hc := file_val hz (by obtain ⟨cs, h, _⟩ := okWide_struct Tryf.underlying25 (hval 1 25 v1 rfl rfl); exact ⟨cs, h⟩)
  clear hA0 hV0 hval0
  subst hzv
  refine (main_any F.told v0 n Z G z g a1 s1 W hF hg1 hc1 hF0 hzs hn hh (by unfold maxLen at hzl; omega) hm hzm).mono fun e W' ⟨he, bel⟩ => ?_
  subst he
  have hlt : 0 < W.heap.size := World.block_lt_of_cell? W _ hg1
  exact ⟨_, rfl, _, _, _, [], _, [.cell 0 0], hW', trodAll_mk1 (shut_bool Tryf.underlying4 _), (trodAll_cons_mk (Below.trod laidOut (by kernel_rfl) (of_decide_eq_true (by kernel_rfl)) k0 bel lt0) (trodAll_cons_mk (Below.trod laidOut (by kernel_rfl) (of_decide_eq_true (by kernel_rfl)) k1 bel lt1) trodAll_mk0)), vars_read1 enc gE gEType Tryf.underlying35 (var?_below bel gE hlt hv1) trivial _, bel.frame _, fun h => by cases h⟩

theorem card : Rows.FnSupersedeNeverBothWaysToldSaid :=
  Claim7.holds_of_told_tied_any_at .later 3 Tryf.f3 "fmt.errorf" [] [] _ _ _ _ _ (by kernel_rfl) rfl rfl rfl laidOut (by kernel_rfl) rfl ⟨rfl, rfl, rfl, rfl, rfl, rfl, rfl⟩ rfl rfl (by kernel_rfl) (by kernel_rfl) Tryf.func3 (by kernel_rfl)
    (of_decide_eq_true (by kernel_rfl)) (of_decide_eq_true (by kernel_rfl)) stops.symm rfl stopKnobs.symm (by kernel_rfl)
    (by kernel_rfl) (by kernel_rfl) (by kernel_rfl) (by kernel_rfl) (by kernel_rfl) (by kernel_rfl) (by kernel_rfl) (by kernel_rfl) (by kernel_rfl) rfl (by kernel_rfl) rfl rfl
    rfl rfl
    rfl (by kernel_rfl) (by kernel_rfl) (by kernel_rfl) (by decide) (by kernel_rfl) fnSupersedeNeverBothWays_row_tie
    (OpenClaim.moreEntering_of (by kernel_rfl) (by kernel_rfl) (by kernel_rfl) (by kernel_rfl) (by kernel_rfl) (by kernel_rfl) (by kernel_rfl) (by kernel_rfl) (by kernel_rfl) (by kernel_rfl))
    ⟨_, WideRow.started_initial, quiet _⟩
    (fun os started _ H enc _ => lifted os started H enc)

end Go.Proofs.Qxb6612566aFmt.st
namespace Go.Proofs.Qxb6612566aFmt
theorem fnSupersedeNeverBothWays_told : Rows.FnSupersedeNeverBothWaysToldSaid := st.card
end Go.Proofs.Qxb6612566aFmt
