/-
  The proof of Rows.FnRecordsInsertWriteSaid: the frame (after the guide's shell), the walk by StIns.
-/
import Derived.Test.Qxb6612566aRows
import Derived.Test.Qxb6612566aStIns
import Derived.Test.Qxb6612566aStOpen2
import Derived.WalkKit
import Derived.ProofKit
import Derived.OpenShut
import Derived.ShutString
import Derived.ChangeOld
import Derived.Below
namespace Go.Proofs.Qxb6612566a.fnRecordsInsertWrite
open Go.ChangeShapes Go.WideShapes Go.ChangeAt Go.RowKit
set_option linter.unusedVariables false

theorem own : ownKnob Try.prog.godebug = none := by kernel_rfl
theorem laidOut : laidOutB Try.prog = true := by kernel_rfl

set_option maxRecDepth 100000 in
theorem lifted (os : Os) (started : os.Started) (H : Type) (enc : TypeId × Value → H) :
    ReturnsInHanded {} Try.checked os 3 .any (Rows.fnRecordsInsertWriteSpec.pre6 enc Try.prog Try.f3 Rows.fnRecordsInsertWriteRow.domain false) (Rows.fnRecordsInsertWriteSpec.post enc Try.prog Try.f3 false true false false) := by
  refine returnsInHanded_of_change (C := Try.checked) own started (by kernel_rfl) Try.func3
    (ChangeSpec.witness6 (enc := enc) (C := Try.checked) false ⟨#[], #[.slice none 0 0, .slice none 0 0, .slice none 0 0, .string ⟨#[]⟩, .int .i64 0, .agg #[.int .i64 0, .string ⟨#[]⟩, .pointer none]], []⟩ 8 (by kernel_rfl) (by kernel_rfl) (by kernel_rfl) (by kernel_rfl)) ?_
  intro W base args ds gs before hval0 hW hcnd _
  have hval : ∀ (j : Nat) t v, Try.f3.params[j]? = some t → args[j]? = some v → Value.okWide Try.prog W .any base t v := hval0
  have hW' := hW
  obtain ⟨p, q, hA0, hV, rfl, hfz, hnd⟩ := hW
  have hA : DataW.TrodAll enc Try.prog W 0 (fun _ => true) true Try.f3.params.toList args.toList ds p := hA0
  rw [Try.params3] at hA hval
  obtain ⟨v0, vs0, d0, ds0, p0, q0, hargs, rfl, rfl, h0, r0⟩ := trodAll_cons hA
  obtain ⟨v1, vs1, d1, ds1, p1, q1, rfl, rfl, rfl, h1, r1⟩ := trodAll_cons r0
  obtain ⟨v2, vs2, d2, ds2, p2, q2, rfl, rfl, rfl, h2, r2⟩ := trodAll_cons r1
  obtain ⟨v3, vs3, d3, ds3, p3, q3, rfl, rfl, rfl, h3, r3⟩ := trodAll_cons r2
  obtain ⟨v4, vs4, d4, ds4, p4, q4, rfl, rfl, rfl, h4, r4⟩ := trodAll_cons r3
  obtain ⟨v5, vs5, d5, ds5, p5, q5, rfl, rfl, rfl, h5, r5⟩ := trodAll_cons r4
  obtain ⟨rfl, rfl, rfl⟩ := trodAll_nil r5
  obtain rfl : args = #[v0, v1, v2, v3, v4, v5] := by cases args; simp_all
  obtain ⟨rfl, rfl⟩ := trodVars_none hV
  have k0 := h0
  have lt0 : ∀ x ∈ p0, x.block < W.heap.size := by obtain ⟨m, hm⟩ := k0; exact DataW.trod_lt m _ _ _ hm
  have k1 := h1
  have lt1 : ∀ x ∈ p1, x.block < W.heap.size := by obtain ⟨m, hm⟩ := k1; exact DataW.trod_lt m _ _ _ hm
  have k2 := h2
  have lt2 : ∀ x ∈ p2, x.block < W.heap.size := by obtain ⟨m, hm⟩ := k2; exact DataW.trod_lt m _ _ _ hm
  have k3 := h3
  have lt3 : ∀ x ∈ p3, x.block < W.heap.size := by obtain ⟨m, hm⟩ := k3; exact DataW.trod_lt m _ _ _ hm
  have k4 := h4
  have lt4 : ∀ x ∈ p4, x.block < W.heap.size := by obtain ⟨m, hm⟩ := k4; exact DataW.trod_lt m _ _ _ hm
  have k5 := h5
  have lt5 : ∀ x ∈ p5, x.block < W.heap.size := by obtain ⟨m, hm⟩ := k5; exact DataW.trod_lt m _ _ _ hm
  have s0 := okWide_slice Try.underlying22 (hval 0 22 v0 rfl rfl)
  have s1 := okWide_slice Try.underlying23 (hval 1 23 v1 rfl rfl)
  have s2 := okWide_slice Try.underlying24 (hval 2 24 v2 rfl rfl)
  obtain ⟨cs5, s5, _⟩ := okWide_struct Try.underlying27 (hval 5 27 v5 rfl rfl)
  obtain ⟨n, Z, G, w0, b0, hh, hm⟩ := st.files_open h0 s0
  obtain ⟨fu1, hf1⟩ := h1
  obtain ⟨ao1, n1, cap1, g1, c1, w1, b1, hkm⟩ := st.keys_open hf1
  obtain ⟨n2, A, N, C, X, w2, b2, bN, bX⟩ := st.un_open h2 s2
  obtain ⟨s, hs3, hsz⟩ : ∃ s, v3 = .string s ∧ s.size ≤ maxLen := by
    obtain ⟨s, rfl⟩ := okWide_string Try.underlying9 (hval 3 9 v3 rfl rfl)
    obtain ⟨fu, hf⟩ := h3
    obtain ⟨s', h, _, hz⟩ := DataW.trod_string Try.underlying9 hf
    simp [Value.cells] at h
    exact ⟨s, rfl, by rw [h]; exact hz⟩
  obtain ⟨pp, hp4⟩ : ∃ pp, v4 = .int .i64 pp := okWide_int Try.underlying3 (hval 4 3 v4 rfl rfl)
  obtain ⟨fu5, hf5⟩ := h5
  obtain ⟨x, c5, w5, b5⟩ := st.write_open hf5
  have hx : v5 = st.wrVal x := st.write_val c5 ⟨_, s5⟩
  have hv1 : v1 = .slice ao1 n1 cap1 := by
    obtain ⟨a, l, c, rfl⟩ := s1
    simpa [Value.cells] using c1
  clear hA0 hval0
  subst hx hv1 hs3 hp4
  refine (st.ins_any v0 n Z G ao1 n1 cap1 g1 v2 n2 A N C X s pp x W ⟨w0, w1, w2, w5⟩ b0 hh hm (by unfold maxLen at b1; omega) hkm b2 bN bX b5 hsz).mono fun e W' ⟨he, bel⟩ => ?_
  subst he
  exact ⟨_, rfl, _, _, _, [], _, [], hW', trodAll_mk1 (shut_bool Try.underlying4 _), (trodAll_cons_mk (Below.trod laidOut (by kernel_rfl) (of_decide_eq_true (by kernel_rfl)) k0 bel lt0) (trodAll_cons_mk (Below.trod laidOut (by kernel_rfl) (of_decide_eq_true (by kernel_rfl)) k1 bel lt1) (trodAll_cons_mk (Below.trod laidOut (by kernel_rfl) (of_decide_eq_true (by kernel_rfl)) k2 bel lt2) (trodAll_cons_mk (Below.trod laidOut (by kernel_rfl) (of_decide_eq_true (by kernel_rfl)) k3 bel lt3) (trodAll_cons_mk (Below.trod laidOut (by kernel_rfl) (of_decide_eq_true (by kernel_rfl)) k4 bel lt4) (trodAll_cons_mk (Below.trod laidOut (by kernel_rfl) (of_decide_eq_true (by kernel_rfl)) k5 bel lt5) trodAll_mk0)))))), rfl, bel.frame _, fun h => by cases h⟩

theorem over : Rows.fnRecordsInsertWriteRow.holds Try.pinned (OpenSpec.ofChange Rows.fnRecordsInsertWriteSpec) :=
  OpenClaim.holds_of_wide 3 Try.f3 rfl rfl rfl rfl rfl rfl rfl ⟨rfl, rfl, rfl, rfl, rfl⟩ rfl rfl rfl rfl rfl (by kernel_rfl) Try.func3 (by kernel_rfl)
    (of_decide_eq_true (by kernel_rfl)) (by unfold Func.isWrapper; first | (rw [if_pos (by decide +kernel)]; kernel_rfl) | (rw [if_neg (by decide +kernel)]; exact ⟨rfl, rfl⟩))
    (fun os started H enc _ => lifted os started H enc)

end Go.Proofs.Qxb6612566a.fnRecordsInsertWrite
namespace Go.Proofs.Qxb6612566a
theorem fnRecordsInsertWrite_said : Rows.FnRecordsInsertWriteSaid := fnRecordsInsertWrite.over
end Go.Proofs.Qxb6612566a
