/-
  The plain law: one more write at place P of the list turns the records by at most one, at its place.
-/
import Derived.Test.Qxb6612566aStMatch
namespace Go.Proofs.Qxb6612566a.st
open Go.RowKit Go.Maps

/-- The list X with x put in at place P. -/
def ins (X : Nat → ZW) (P : Nat) (x : ZW) (i : Nat) : ZW := if i < P then X i else if i = P then x else X (i - 1)

theorem ins_lt {X : Nat → ZW} {P : Nat} {x : ZW} {i : Nat} (h : i < P) : ins X P x i = X i := by simp [ins, h]
theorem ins_at {X : Nat → ZW} {P : Nat} {x : ZW} : ins X P x P = x := by simp [ins]
theorem ins_gt {X : Nat → ZW} {P : Nat} {x : ZW} {i : Nat} (h : P ≤ i) : ins X P x (i + 1) = X i := by
  unfold ins
  rw [if_neg (by omega), if_neg (by omega)]; simp

/-- What a write replaced. -/
def repOf (x : ZW) : List (ZF × (Nat → ByteArray)) := if x.rp.isNone then [] else [(x.z, x.g)]

theorem reps_step (X : Nat → ZW) (n : Nat) : reps X (n + 1) = reps X n ++ repOf (X n) := rfl

theorem reps_ins_le (X : Nat → ZW) (P : Nat) (x : ZW) : ∀ k, k ≤ P → reps (ins X P x) k = reps X k
  | 0, _ => rfl
  | k + 1, h => by rw [reps_step, reps_step, reps_ins_le X P x k (by omega), ins_lt (by omega)]

theorem reps_ins (X : Nat → ZW) (P : Nat) (x : ZW) : ∀ d, ∃ T, reps X (P + d) = reps X P ++ T ∧ reps (ins X P x) (P + d + 1) = reps X P ++ repOf x ++ T
  | 0 => ⟨[], by simp, by rw [Nat.add_zero, reps_step, reps_ins_le X P x P (Nat.le_refl _), ins_at]; simp⟩
  | d + 1 => by
    obtain ⟨T, h1, h2⟩ := reps_ins X P x d
    refine ⟨T ++ repOf (X (P + d)), ?_, ?_⟩
    · rw [← Nat.add_assoc, reps_step, h1, List.append_assoc]
    · rw [← Nat.add_assoc, reps_step, h2, ins_gt (by omega)]; simp [List.append_assoc]

theorem reps_ins_all (X : Nat → ZW) (P : Nat) (x : ZW) (n : Nat) (h : P ≤ n) : ∃ T, reps X n = reps X P ++ T ∧ reps (ins X P x) (n + 1) = reps X P ++ repOf x ++ T := by
  obtain ⟨d, rfl⟩ : ∃ d, n = P + d := ⟨n - P, by omega⟩
  exact reps_ins X P x d

theorem reps_few {X : Nat → ZW} : ∀ {n : Nat}, (∀ i, i < n → Few (X i)) → ∀ y ∈ reps X n, y.1.hl ≤ 65536
  | 0, _, y, hy => by simp [reps] at hy
  | n + 1, h, y, hy => by
    rw [reps_step, List.mem_append] at hy
    rcases hy with hy | hy
    · exact reps_few (fun i hi => h i (by omega)) y hy
    · unfold repOf at hy
      rcases h n (by omega) with h0 | h0
      · rw [h0] at hy; simp at hy
      · cases hh : (X n).rp.isNone <;> rw [hh] at hy <;> simp at hy
        rw [hy]; exact h0

/-- Two records, the one at o2 of block b2, the other at o1 of block b1, are alike. -/
def EqAt (w : World) (b2 o2 b1 o1 : Nat) : Prop :=
  ∃ (z : ZF) (g : Nat → ByteArray) (ao : Option Addr) (cap : Nat) (ao' : Option Addr) (cap' : Nat), FileAt w b2 o2 { z with ha := ao, hc := cap } ∧ FileAt w b1 o1 { z with ha := ao', hc := cap' } ∧ StrsAt 0 w ao z.hl cap g ∧ StrsAt 0 w ao' z.hl cap' g ∧ (ao = none ↔ ao' = none) ∧ z.hl ≤ 65536

theorem EqAt.over {B : Nat} {w w' : World} {b2 o2 b1 o1 : Nat} (h : EqAt w b2 o2 b1 o1) (hb : Below B w w') (hB : w.heap.size ≤ B) : EqAt w' b2 o2 b1 o1 := by
  obtain ⟨z, g, ao, cap, ao', cap', h1, h2, h3, h4, h5, h6⟩ := h
  exact ⟨z, g, ao, cap, ao', cap', h1.over hb hB, h2.over hb hB, h3.over hb hB, h4.over hb hB, h5, h6⟩

theorem Like.over {B : Nat} {w w' : World} {z : ZF} {y : ZF × (Nat → ByteArray)} (h : Like w z y) (hb : Below B w w') (hB : w.heap.size ≤ B) : Like w' z y := by
  obtain ⟨ao, cap, h1, h2, h3⟩ := h
  exact ⟨ao, cap, h1, h2.over hb hB, h3⟩
theorem Likes.over {B : Nat} {w w' : World} (hb : Below B w w') (hB : w.heap.size ≤ B) : ∀ {F : List ZF} {L : List (ZF × (Nat → ByteArray))}, Likes w F L → Likes w' F L
  | [], [], _ => trivial
  | [], _ :: _, h => h.elim
  | _ :: _, [], h => h.elim
  | _ :: _, _ :: _, h => ⟨h.1.over hb hB, Likes.over hb hB h.2⟩

/-- Two lists of records, alike where their sources are the same. -/
theorem eq_at {w : World} {F1 F2 : List ZF} {L1 L2 : List (ZF × (Nat → ByteArray))} {b1 b2 : Nat} (h1 : Likes w F1 L1) (h2 : Likes w F2 L2) (hr1 : ∀ k z, F1[k]? = some z → FileAt w b1 (k * 11) z) (hr2 : ∀ k z, F2[k]? = some z → FileAt w b2 (k * 11) z)
    {j1 j2 : Nat} {y : ZF × (Nat → ByteArray)} (e1 : L1[j1]? = some y) (e2 : L2[j2]? = some y) (hf : y.1.hl ≤ 65536) : EqAt w b2 (j2 * 11) b1 (j1 * 11) := by
  obtain ⟨z1, g1, ao1, cap1, rfl, s1, n1⟩ := h1.get j1 y e1
  obtain ⟨z2, g2, ao2, cap2, rfl, s2, n2⟩ := h2.get j2 y e2
  exact ⟨y.1, y.2, ao2, cap2, ao1, cap1, hr2 _ _ g2, hr1 _ _ g1, s2, s1, n2.trans n1.symm, hf⟩

end Go.Proofs.Qxb6612566a.st
