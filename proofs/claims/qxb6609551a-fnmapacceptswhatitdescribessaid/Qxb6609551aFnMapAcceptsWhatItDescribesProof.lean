/-
  The proof of Rows.FnMapAcceptsWhatItDescribesSaid: the frame is the seat's shell, the walk is filled in.
-/
import Derived.Test.Qxb6609551aRows
import Derived.WalkKit
import Derived.ProofKit
import Derived.OpenShut
import Derived.ShutString
import Derived.Deep.RegionHeld3
namespace Go.Proofs.Qxb6609551a.fnMapAcceptsWhatItDescribes
open Go.ChangeShapes Go.WideShapes Go.ChangeAt Go.RowKit
open Go.ChangeMaps (open_string shut_string)
set_option linter.unusedVariables false      -- a walk need not use every 'w<i>' (that an integer argument fits its kind)

theorem own : ownKnob Try.prog.godebug = none := by kernel_rfl

/-- What 'JSONType.String' answers. -/
def jname (a : Int) : ByteArray :=
  if a == 1 then ⟨#[97, 32, 98, 111, 111, 108, 101, 97, 110]⟩ else if a == 2 then ⟨#[97, 32, 110, 117, 109, 98, 101, 114]⟩ else if a == 3 then ⟨#[97, 32, 115, 116, 114, 105, 110, 103]⟩
  else if a == 4 then ⟨#[97, 110, 32, 97, 114, 114, 97, 121]⟩ else if a == 5 then ⟨#[97, 110, 32, 111, 98, 106, 101, 99, 116]⟩ else ⟨#[110, 117, 108, 108]⟩

theorem ret_string {a b : ByteArray} (h : a = b) : Ending.returned (.string a) = .returned (.string b) := by rw [h]

theorem string_any (a : Int) (w : World) : Calls Try.prog 11 #[.int .i64 a] w fun e w' => e = .returned (.string (jname a)) ∧ w' = w := by
  go_enter Try.func11, Try.ntmps11
  go_wp2
  all_goals go_ret
  all_goals exact ⟨ret_string (by simp [jname, *]), rfl⟩

theorem accepts_any (a : Int) (w : World) : Calls Try.prog 21 #[.agg #[.nilIface], .int .i64 a] w fun e w' => e = .returned (.bool (a == 5)) ∧ w' = (w.alloc (.cells #[.nilIface] 43)).alloc (.cells #[.nilIface] 43) := by
  go_enter Try.func21, Try.ntmps21
  go_wp2
  all_goals go_ret
  all_goals exact ⟨rfl, rfl⟩

theorem describe_any (w : World) : Calls Try.prog 22 #[.agg #[.nilIface]] w fun e w' => e = .returned (.string ⟨#[97, 110, 32, 111, 98, 106, 101, 99, 116]⟩) ∧ w' = (w.alloc (.cells #[.nilIface] 43)).alloc (.cells #[.nilIface] 43) := by
  go_enter Try.func22, Try.ntmps22
  go_wp2
  all_goals go_ret
  all_goals exact ⟨rfl, rfl⟩

theorem law (a : Int) : ((a == 5) == ((jname a).toList == [97, 110, 32, 111, 98, 106, 101, 99, 116])) = true := by
  unfold jname
  by_cases h1 : a = 1
  · subst h1; decide +kernel
  by_cases h2 : a = 2
  · subst h2; decide +kernel
  by_cases h3 : a = 3
  · subst h3; decide +kernel
  by_cases h4 : a = 4
  · subst h4; decide +kernel
  by_cases h5 : a = 5
  · subst h5; decide +kernel
  simp [h1, h2, h3, h4, h5]

theorem ret_bool {a b : Bool} (h : a = b) : Ending.returned (.bool a) = .returned (.bool b) := by rw [h]

/-- The first of five new blocks reads as it was laid. -/
theorem first_of_five (w : World) : (((((w.alloc (.cells #[.nilIface] 43)).alloc (.cells #[.nilIface] 43)).alloc (.cells #[.nilIface] 43)).alloc (.cells #[.nilIface] 43)).alloc (.cells #[.nilIface] 43)).drew.cell? ⟨w.heap.size, 0, none⟩ = some .nilIface := by
  rw [World.cell?_drew]
  repeat (first | rw [World.cell?_alloc_at _ _ _ _ rfl] | rw [World.cell?_alloc_past _ _ _ (by simp <;> omega)])
  rfl

theorem walk (a0 : Int) (w0 : (Lit.int .i64 a0).wf = true) (w : World) :
    Calls Try.prog 8 #[.int .i64 a0] w fun e w' => e = .returned (.bool true) ∧ Grown w w' := by
  go_enter Try.func8, Try.ntmps8
  go_wp2
  go_region_held3 (fun w' => w'.cell? ⟨w.heap.size, 0, none⟩ = some .nilIface) (first | (go_keep; done) | exact first_of_five _)
    (first | (go_at_call 21; refine (accepts_any _ _).mono ?_; rintro e w' ⟨rfl, rfl⟩) | (go_at_call 11; refine (string_any _ _).mono ?_; rintro e w' ⟨rfl, rfl⟩) | (go_at_call 22; refine (describe_any _).mono ?_; rintro e w' ⟨rfl, rfl⟩))
  all_goals go_wp2
  all_goals go_ret
  all_goals exact ⟨ret_bool (law a0), by repeat (first | exact Grown.refl _ | apply Grown.drew | apply Grown.alloc)⟩

/-! ### THE ROW's STEP: WRITTEN OUT: LEAVE IT -/
set_option maxRecDepth 100000 in
theorem lifted (os : Os) (started : os.Started) (H : Type) (enc : TypeId × Value → H) :
    ReturnsInHanded {} Try.checked os 8 .any (Rows.fnMapAcceptsWhatItDescribesSpec.pre6 enc Try.prog Try.f8 Rows.fnMapAcceptsWhatItDescribesRow.domain false) (Rows.fnMapAcceptsWhatItDescribesSpec.post enc Try.prog Try.f8 false true false false) := by
  refine returnsInHanded_of_change (C := Try.checked) own started (by kernel_rfl) Try.func8
    (ChangeSpec.witness6 (enc := enc) (C := Try.checked) false ⟨#[], #[.int .i64 0], []⟩ 8 (by kernel_rfl) (by kernel_rfl) (by kernel_rfl) (by kernel_rfl)) ?_
  intro W base args ds gs before hval0 hW hcnd _
  have hval : ∀ (j : Nat) t v, Try.f8.params[j]? = some t → args[j]? = some v → Value.okWide Try.prog W .any base t v := hval0
  have hW' := hW
  obtain ⟨p, q, hA0, hV, rfl, hfz, hnd⟩ := hW
  have hA : DataW.TrodAll enc Try.prog W 0 (fun _ => true) true Try.f8.params.toList args.toList ds p := hA0
  rw [Try.params8] at hA hval
  obtain ⟨v0, vs0, d0, ds0, p0, q0, hargs, rfl, rfl, h0, r0⟩ := trodAll_cons hA
  obtain ⟨rfl, rfl, rfl⟩ := trodAll_nil r0
  obtain rfl : args = #[v0] := by cases args; simp_all
  obtain ⟨rfl, rfl⟩ := trodVars_none hV
  obtain ⟨a0, rfl, rfl, rfl, w0⟩ := open_int Try.underlying3 (hval 0 3 v0 rfl rfl) h0
  clear hA0 hval0
  simp only [List.append_nil] at hW'
  refine (walk a0 w0 W).mono fun e W' ⟨he, hg⟩ => ?_
  subst he
  exact ⟨_, rfl, post_of_same (pa := []) (pv := []) hW' (fun _ _ _ => (trodAll_cons_mk (shut_bool Try.underlying4 _) trodAll_mk0)) (fun sp _ => (trodAll_cons_mk (shut_int Try.underlying3 w0) trodAll_mk0)) (fun _ _ => rfl) rfl
    (hg.frame _) hg.2.1 (ok_one (by kernel_rfl) rfl (okWide_bool_mk Try.underlying4 _))⟩

theorem over : Rows.fnMapAcceptsWhatItDescribesRow.holds Try.pinned (OpenSpec.ofChange Rows.fnMapAcceptsWhatItDescribesSpec) :=
  OpenClaim.holds_of_wide 8 Try.f8 rfl rfl rfl rfl rfl rfl rfl ⟨rfl, rfl, rfl, rfl, rfl⟩ rfl rfl rfl rfl rfl (by kernel_rfl) Try.func8 (by kernel_rfl)
    (of_decide_eq_true (by kernel_rfl)) (by unfold Func.isWrapper; first | (rw [if_pos (by decide +kernel)]; kernel_rfl) | (rw [if_neg (by decide +kernel)]; exact ⟨rfl, rfl⟩))
    (fun os started H enc _ => lifted os started H enc)

/-- ████ THE STATEMENT ████ -/
theorem proved : Rows.FnMapAcceptsWhatItDescribesSaid :=
  over
end Go.Proofs.Qxb6609551a.fnMapAcceptsWhatItDescribes
namespace Go.Proofs.Qxb6609551a
theorem fnMapAcceptsWhatItDescribes_said : Rows.FnMapAcceptsWhatItDescribesSaid := fnMapAcceptsWhatItDescribes.proved
end Go.Proofs.Qxb6609551a
