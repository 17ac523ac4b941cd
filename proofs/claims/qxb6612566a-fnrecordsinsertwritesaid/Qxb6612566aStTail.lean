/-
  The two lists of records, side by side.
-/
import Derived.Test.Qxb6612566aStGrow
namespace Go.Proofs.Qxb6612566a.st
open Go.RowKit Go.Maps

theorem recs_cells {w : World} {b n cap : Nat} {F : List ZF} (h : RecsAt w (.slice (some ⟨b, 0, none⟩) n cap) F) : ∀ k z, F[k]? = some z → FileAt w b (k * 11) z := by
  obtain ⟨cap', b', e, _, h⟩ := h
  simp only [Value.slice.injEq, Option.some.injEq, Addr.mk.injEq, and_true] at e
  obtain ⟨rfl, _⟩ := e
  exact h

theorem two_flat2 {w : World} {b1 o1 b2 o2 : Nat} {z : ZF} {ao ao' : Option Addr} {cap cap' : Nat} (h : FileAt w b1 o1 { z with ha := ao, hc := cap } ∧ FileAt w b2 o2 { z with ha := ao', hc := cap' }) : w.cell? ⟨b1, o1, none⟩ = some (.string z.nm) ∧ w.cell? ⟨b1, o1 + 1, none⟩ = some (.int .i64 z.sz) ∧ w.cell? ⟨b1, o1 + 2, none⟩ = some (.string z.sha) ∧ w.cell? ⟨b1, o1 + 3, none⟩ = some (.string z.md) ∧ w.cell? ⟨b1, o1 + 4, none⟩ = some (.int .i64 z.rep) ∧ w.cell? ⟨b1, o1 + 5, none⟩ = some (.slice ao z.hl cap) ∧ w.cell? ⟨b1, o1 + 6, none⟩ = some (.int .i64 z.ver) ∧ w.cell? ⟨b1, o1 + 7, none⟩ = some (.int .i64 z.ep) ∧ w.cell? ⟨b1, o1 + 8, none⟩ = some (.int .i64 z.rem) ∧ w.cell? ⟨b1, o1 + 9, none⟩ = some (.bool z.ptr) ∧ w.cell? ⟨b1, o1 + 10, none⟩ = some (.bool z.dam) ∧ w.cell? ⟨b2, o2, none⟩ = some (.string z.nm) ∧ w.cell? ⟨b2, o2 + 1, none⟩ = some (.int .i64 z.sz) ∧ w.cell? ⟨b2, o2 + 2, none⟩ = some (.string z.sha) ∧ w.cell? ⟨b2, o2 + 3, none⟩ = some (.string z.md) ∧ w.cell? ⟨b2, o2 + 4, none⟩ = some (.int .i64 z.rep) ∧ w.cell? ⟨b2, o2 + 5, none⟩ = some (.slice ao' z.hl cap') ∧ w.cell? ⟨b2, o2 + 6, none⟩ = some (.int .i64 z.ver) ∧ w.cell? ⟨b2, o2 + 7, none⟩ = some (.int .i64 z.ep) ∧ w.cell? ⟨b2, o2 + 8, none⟩ = some (.int .i64 z.rem) ∧ w.cell? ⟨b2, o2 + 9, none⟩ = some (.bool z.ptr) ∧ w.cell? ⟨b2, o2 + 10, none⟩ = some (.bool z.dam) := by
  obtain ⟨⟨h0, h1, h2, h3, h4, h5, h6, h7, h8, h9, h10⟩, ⟨k0, k1, k2, k3, k4, k5, k6, k7, k8, k9, k10⟩⟩ := h
  exact ⟨h0, h1, h2, h3, h4, h5, h6, h7, h8, h9, h10, k0, k1, k2, k3, k4, k5, k6, k7, k8, k9, k10⟩

theorem few_all {X : Nat → ZW} {n : Nat} {y : ZF × (Nat → ByteArray)} (hy : y.1.hl ≤ 65536) (hf : ∀ i, i < n → Few (X i)) {j : Nat} {u : ZF × (Nat → ByteArray)} (h : (y :: reps X n)[j]? = some u) : u.1.hl ≤ 65536 := by
  cases j with
  | zero => simp only [List.getElem?_cons_zero, Option.some.injEq] at h; rw [← h]; exact hy
  | succ j => rw [List.getElem?_cons_succ] at h; exact reps_few hf u (List.mem_of_getElem? h)

theorem tail_none {w : World} {F1 F2 : List ZF} {b1 b2 : Nat} {y : ZF × (Nat → ByteArray)} {X : Nat → ZW} {P n : Nat} {x : ZW} (h1 : Likes w F1 (y :: reps X n)) (h2 : Likes w F2 (y :: reps (ins X P x) (n + 1)))
    (hr1 : ∀ k z, F1[k]? = some z → FileAt w b1 (k * 11) z) (hr2 : ∀ k z, F2[k]? = some z → FileAt w b2 (k * 11) z) (hP : P ≤ n) (hno : x.rp = none) (hy : y.1.hl ≤ 65536) (hf : ∀ i, i < n → Few (X i)) :
    F2.length = F1.length ∧ ∀ j, j < F1.length → EqAt w b2 (j * 11) b1 (j * 11) := by
  obtain ⟨T, e1, e2⟩ := reps_ins_all X P x n hP
  have e : reps (ins X P x) (n + 1) = reps X n := by rw [e1, e2]; simp [repOf, hno]
  rw [e] at h2
  refine ⟨h2.length.trans h1.length.symm, fun j hj => ?_⟩
  rw [h1.length] at hj
  have hg := List.getElem?_eq_getElem hj
  exact eq_at h1 h2 hr1 hr2 hg hg (few_all hy hf hg)

theorem tail_some {w : World} {F1 F2 : List ZF} {b1 b2 : Nat} {y : ZF × (Nat → ByteArray)} {X : Nat → ZW} {P n : Nat} {x : ZW} (h1 : Likes w F1 (y :: reps X n)) (h2 : Likes w F2 (y :: reps (ins X P x) (n + 1)))
    (hr1 : ∀ k z, F1[k]? = some z → FileAt w b1 (k * 11) z) (hr2 : ∀ k z, F2[k]? = some z → FileAt w b2 (k * 11) z) (hP : P ≤ n) (hrp : x.rp ≠ none) (hy : y.1.hl ≤ 65536) (hf : ∀ i, i < n → Few (X i)) :
    F2.length = F1.length + 1 ∧ (reps X P).length + 1 ≤ F1.length ∧ (∀ j, j < (reps X P).length + 1 → EqAt w b2 (j * 11) b1 (j * 11)) ∧
    (∃ ao cap, FileAt w b2 (((reps X P).length + 1) * 11) { x.z with ha := ao, hc := cap } ∧ StrsAt 0 w ao x.z.hl cap x.g ∧ (ao = none ↔ x.z.ha = none)) ∧
    ∀ j, (reps X P).length + 1 ≤ j → j < F1.length → EqAt w b2 ((j + 1) * 11) b1 (j * 11) := by
  obtain ⟨T, e1, e2⟩ := reps_ins_all X P x n hP
  have hrep : repOf x = [(x.z, x.g)] := by
    unfold repOf
    cases hh : x.rp with
    | none => exact absurd hh hrp
    | some a => simp
  rw [hrep] at e2
  have l1 := h1.length
  have l2 := h2.length
  rw [List.length_cons] at l1 l2
  have m1 : (reps X n).length = (reps X P).length + T.length := by rw [e1, List.length_append]
  have m2 : (reps (ins X P x) (n + 1)).length = (reps X P).length + 1 + T.length := by rw [e2, List.length_append, List.length_append]; rfl
  refine ⟨by omega, by omega, fun j hj => ?_, ?_, fun j hQ hj => ?_⟩
  · obtain ⟨u, hg⟩ : ∃ u, (y :: reps X n)[j]? = some u := ⟨_, List.getElem?_eq_getElem (by rw [List.length_cons]; omega)⟩
    refine eq_at h1 h2 hr1 hr2 hg ?_ (few_all hy hf hg)
    rw [← hg]
    cases j with
    | zero => rfl
    | succ j => rw [List.getElem?_cons_succ, List.getElem?_cons_succ, e1, e2, List.append_assoc, List.getElem?_append_left (by omega), List.getElem?_append_left (by omega)]
  · obtain ⟨z, g, ao, cap, rfl, s, hn⟩ := h2.get ((reps X P).length + 1) (x.z, x.g) (by
      rw [List.getElem?_cons_succ, e2, List.append_assoc, List.getElem?_append_right (Nat.le_refl _)]; simp)
    exact ⟨ao, cap, hr2 _ _ g, s, hn⟩
  · obtain ⟨u, hg⟩ : ∃ u, (y :: reps X n)[j]? = some u := ⟨_, List.getElem?_eq_getElem (by rw [List.length_cons]; omega)⟩
    refine eq_at h1 h2 hr1 hr2 hg ?_ (few_all hy hf hg)
    rw [← hg]
    obtain ⟨i, rfl⟩ : ∃ i, j = (reps X P).length + 1 + i := ⟨j - ((reps X P).length + 1), by omega⟩
    rw [show (reps X P).length + 1 + i = (reps X P).length + i + 1 by omega, List.getElem?_cons_succ, List.getElem?_cons_succ, e1, e2, List.getElem?_append_right (by rw [List.length_append, List.length_singleton]; omega), List.getElem?_append_right (by omega), List.length_append, List.length_singleton]
    congr 1
    omega

end Go.Proofs.Qxb6612566a.st
