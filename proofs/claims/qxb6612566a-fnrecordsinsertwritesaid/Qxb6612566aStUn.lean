/-
  buildUnended: the map of the unended writes.
-/
import Derived.Test.Qxb6612566aStEq
namespace Go.Proofs.Qxb6612566a.st
open Go.RowKit Go.Maps Go.WideMaps

/-- The state of the loop that fills the map of block B. -/
def UnBuild (w wr : World) (k : Nat) (nm : Nat → ByteArray) (N : Nat → Nat) (X : Nat → Nat → ZW) (V : Nat → Value) : Prop :=
  wr.ownsMap Try.prog 9 heldR w.heap.size k (Mfold nm V k) ∧ (∀ j, j < k → OutAt (w.heap.size + 1) wr (V j) (N j) (X j)) ∧ Below w.heap.size w wr

theorem unBuild_start (w : World) (nm : Nat → ByteArray) (N : Nat → Nat) (X : Nat → Nat → ZW) : UnBuild w (w.alloc (.map #[] 0)) 0 nm N X (fun _ => undef) :=
  ⟨World.ownsMap_made w Try.prog 9 heldR, fun j hj => absurd hj (by omega), (Below.refl _ _).alloc (Nat.le_refl _) _⟩

/-- The round's store. -/
theorem unBuild_step {w wr w1 : World} {k : Nat} {nm : Nat → ByteArray} {N : Nat → Nat} {X : Nat → Nat → ZW} {V : Nat → Value} (h : UnBuild w wr k nm N X V) (hb : Below wr.heap.size wr w1) (hk : k ≤ 65536) {v : Value}
    (hs : OutAt wr.heap.size w1 v (N k) (X k)) (hm : (nm k).size ≤ maxLen) :
    ∃ w2, (Instr.mapUpdate 38 (.map (some w.heap.size)) (.string (nm k)) v).run Try.prog w1 = .ok () w2 ∧ w1.grownBy w2 (some w.heap.size) ∧ ∃ V', UnBuild w w2 (k + 1) nm N X V' := by
  obtain ⟨h1, h2, h3⟩ := h
  have hsz : w.heap.size < wr.heap.size := h1.lt
  have hown1 : w1.ownsMap Try.prog 9 heldR w.heap.size k (Mfold nm V k) := by
    obtain ⟨es, clock, hbk, r⟩ := h1
    exact ⟨es, clock, (hb.block _ hsz).trans hbk, r⟩
  obtain ⟨w2, hrun, hown2, hg2⟩ := hown1.update law9 Try.underlying38 (by unfold maxLen; omega) (keyOf_string_mk Try.underlying9 hm) (show heldR v = some (.held v, []) from rfl)
  refine ⟨w2, hrun, hg2, fun j => if j = k then v else V j, ?_, ?_, ?_⟩
  · have e : Mfold nm (fun j => if j = k then v else V j) (k + 1) = (Mfold nm V k).put (keyS (nm k)) (.held v) := by
      show (Mfold nm (fun j => if j = k then v else V j) k).put _ (.held (if k = k then v else V k)) = _
      rw [if_pos rfl, Mfold_congr nm (fun j => if j = k then v else V j) V k (fun j hj => by simp [Nat.ne_of_lt hj])]
    rw [e]; exact hown2
  · intro j hj
    rcases (show j < k ∨ j = k by omega) with hlt | rfl
    · have e := h2 j hlt
      have e1 : (fun j => if j = k then v else V j) j = V j := by simp [Nat.ne_of_lt hlt]
      rw [e1]
      exact e.kept fun i h1 h2 => (hg2.block i (by have := hb.size; omega) (by simp; omega)).trans (hb.block i h2)
    · have e1 : (fun i => if i = j then v else V i) j = v := by simp
      rw [e1]
      exact (hs.mono (by omega)).kept fun i h1 h2 => hg2.block i h2 (by simp; omega)
  · exact (h3.trans (hb.mono (by omega))).grown hg2 (by have := hb.size; omega) (fun i e => by cases e; exact Nat.le_refl _)

theorem cell2_over {w w' : World} {a1 a2 : Addr} {x1 x2 : Value} (hb : Below w.heap.size w w') (h : w.cell? a1 = some x1 ∧ w.cell? a2 = some x2) : w'.cell? a1 = some x1 ∧ w'.cell? a2 = some x2 :=
  ⟨cell_over hb (Nat.le_refl _) h.1, cell_over hb (Nat.le_refl _) h.2⟩
theorem cell2_grown {w w' : World} {m : Nat} {a1 a2 : Addr} {x1 x2 : Value} (hg : w.grownBy w' (some m)) (h1 : a1.block ≠ m) (h2 : a2.block ≠ m) (h : w.cell? a1 = some x1 ∧ w.cell? a2 = some x2) : w'.cell? a1 = some x1 ∧ w'.cell? a2 = some x2 :=
  ⟨hg.cell h.1 (by simp [h1]), hg.cell h.2 (by simp [h2])⟩

set_option maxRecDepth 100000 in
set_option maxHeartbeats 4000000 in
theorem unended_any (ao1 : Option Addr) (n1 cap1 : Nat) (g1 : Nat → ByteArray) (v2 : Value) (n2 : Nat) (A : Nat → Option Addr) (N C : Nat → Nat) (X : Nat → Nat → ZW) (w : World) (hk : StrsAt 0 w ao1 n1 cap1 g1) (hu : UnAt w v2 n2 A N C X) (hn1 : n1 ≤ 65536) (hn2 : n2 ≤ 65536)
    (hN : ∀ i, i < n2 → N i ≤ 65536 ∧ ∀ j, j < N i → Few (X i j)) (hm : ∀ i, i < n1 → (g1 i).size ≤ maxLen) :
    Calls Try.prog 14 #[.slice ao1 n1 cap1, v2] w fun e w' => e = .returned (.map (some w.heap.size)) ∧ ∃ V, UnBuild w w' (min n1 n2) g1 N X V := by
  obtain ⟨_, hcap1, b1, off1, _, hao1, hc1⟩ := hk
  have HA1 : Hid (0 < n1 → ao1 = some ⟨b1, off1, none⟩) := hao1
  have HC1 : Hid (∀ k, k < n1 → w.cell? ⟨b1, off1 + k, none⟩ = some (.string (g1 k))) := hc1
  obtain ⟨ao2, cap2, b2, off2, rfl, _, hcap2, hao2, hc2, hs2⟩ := hu
  have HA2 : Hid (0 < n2 → ao2 = some ⟨b2, off2, none⟩) := hao2
  have HC2 : Hid (∀ i, i < n2 → w.cell? ⟨b2, off2 + i, none⟩ = some (.slice (A i) (N i) (C i))) := hc2
  have HS2 : Hid (∀ i, i < n2 → WritesAt w (A i) (N i) (C i) (X i)) := hs2
  have HN : Hid (∀ i, i < n2 → N i ≤ 65536 ∧ ∀ j, j < N i → Few (X i j)) := hN
  have HM : Hid (∀ i, i < n1 → (g1 i).size ≤ maxLen) := hm
  clear hao1 hc1 hao2 hc2 hs2 hN hm
  have hmm := @run_makeMap Try.prog
  go_enter Try.func14, Try.ntmps14
  go_wp2_with fail
  refine (minInt_any n1 n2 w).mono ?_
  rintro e w1 ⟨rfl, hw⟩
  obtain rfl := hw.symm
  clear hw
  obtain ⟨m, hmd⟩ : ∃ m, m = min n1 n2 := ⟨_, rfl⟩
  rw [← hmd]
  have hm1 : m ≤ n1 := by omega
  have hm2 : m ≤ n2 := by omega
  have HMD : Hid (m = min n1 n2) := hmd
  clear hmd
  go_wp2
  have H0 : Hid (UnBuild w _ 0 g1 N X _) := unBuild_start w g1 N X
  go_loopw [7] (fun i wr => ∃ (k : Nat) (V : Nat → Value), k ≤ m ∧ i = .int .i64 k ∧ Hid (UnBuild w wr k g1 N X V)) (fun i _ => m - (intOf i).toNat)
  case atStart => exact ⟨0, _, Nat.zero_le _, rfl, H0⟩
  case round =>
    clear H0
    obtain ⟨k, V, hk, rfl, hB⟩ := hrel
    by_cases hlt : k < m
    · obtain rfl := HA1.out (by omega)
      obtain rfl := HA2.out (by omega)
      have hl1 : k < n1 := by omega
      have hl2 : k < n2 := by omega
      have HF : Hid (wr.drew.cell? ⟨b1, off1 + k, none⟩ = some (.string (g1 k)) ∧ wr.drew.cell? ⟨b2, off2 + k, none⟩ = some (.slice (A k) (N k) (C k))) := ⟨cell_over hB.out.2.2.drew (Nat.le_refl _) (HC1.out k hl1), cell_over hB.out.2.2.drew (Nat.le_refl _) (HC2.out k hl2)⟩
      have HSk : Hid (WritesAt wr.drew (A k) (N k) (C k) (X k)) := (HS2.out k hl2).over hB.out.2.2.drew (Nat.le_refl _)
      have hBd : Hid (UnBuild w wr.drew k g1 N X V) := ⟨hB.out.1, hB.out.2.1, hB.out.2.2.drew⟩
      have hbl1 : b1 < w.heap.size := World.block_lt_of_cell? w _ (HC1.out k hl1)
      have hbl2 : b2 < w.heap.size := World.block_lt_of_cell? w _ (HC2.out k hl2)
      have hne1 : b1 ≠ w.heap.size := by omega
      have hne2 : b2 ≠ w.heap.size := by omega
      have hlt1 : (k : Int) < (n1 : Int) := by omega
      have hlt2 : (k : Int) < (n2 : Int) := by omega
      clear hbl1 hbl2
      go_wp2
      go_region_held3 (fun w' => w'.cell? ⟨b1, off1 + k, none⟩ = some (.string (g1 k)) ∧ w'.cell? ⟨b2, off2 + k, none⟩ = some (.slice (A k) (N k) (C k)))
        (first | exact HF.out | exact cell2_over hbl3 HF.out | exact cell2_grown hgr2 hne1 hne2 (cell2_over hbl3 HF.out))
        (first | (go_at_call 15; refine (toWrites_any (A k) (N k) (C k) (X k) wr.drew HSk.out (Nat.le_trans (HN.out k hl2).1 (by decide)) (HN.out k hl2).2).mono ?_; rintro e w1 ⟨vv, rfl, hs1, hbl3⟩; obtain ⟨w2, hrun2, hgr2, V2, hB2⟩ := unBuild_step hBd.out hbl3 (by omega) hs1 (HM.out k hl1)))
      go_wp2
      go_roundw
      case rel => exact ⟨k + 1, V2, hlt, step_num k, hB2⟩
      case measure => exact step_down m k hlt
    · obtain rfl : k = m := by omega
      go_wp2
      go_ret
      exact ⟨rfl, V, HMD.out ▸ hB.out⟩

end Go.Proofs.Qxb6612566a.st
