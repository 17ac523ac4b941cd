/-
  An argument of type [][4]string, opened.
-/
import Derived.Test.Qxb6612504aKit
import Derived.OpenShut
import Derived.Deep.Slices
namespace Go.Proofs.Qxb6612504a.rcv
open Go.RowKit Go.Deep

theorem cells30 : Try.prog.cellsOf 30 = 4 := by kernel_rfl
theorem cells9' : Try.prog.cellsOf 9 = 1 := by kernel_rfl

theorem rows_open {H : Type} {enc : TypeId × Value → H} {w : World} {d : DataW H} {p : List MemPlace} {v : Value} (h : DataW.Trod enc Try.prog w 0 (fun _ => true) true 22 v d p) (hv : ∃ a len cap, v = .slice a len cap) :
    ∃ n f, RowsAt 0 w v n f ∧ n ≤ 9223372036854775807 := by
  obtain ⟨fuel, hf⟩ := h
  obtain ⟨a0, len0, cap0, rfl⟩ := hv
  rcases open_slice Try.underlying22 hf with ⟨hcs, _⟩ | ⟨a, len, cap, m, q, D, Pl, hcs, _, hl, hm, hmm, _, hx⟩
  · simp [Value.cells] at hcs
    obtain ⟨rfl, rfl, rfl⟩ := hcs
    exact ⟨0, fun _ => ByteArray.empty, RowsAt.nil _ _ _, by omega⟩
  · simp [Value.cells] at hcs
    obtain ⟨rfl, rfl, rfl⟩ := hcs
    simp only [if_true] at hmm
    subst hmm
    rw [cells30] at hx
    have hcell : ∀ k, k < 4 * len0 → ∃ s : ByteArray, w.cell? (a.add k) = some (.string s) := by
      intro k hk
      obtain ⟨cs', h1, h2⟩ := hx (k / 4) (by omega)
      obtain ⟨_, hlen, hc⟩ := World.cells?_some h1
      obtain ⟨xs, m', _, _, _, hxl, he⟩ := DataW.trod_array Try.underlying30 h2
      have hi := he (k % 4) (Nat.mod_lt _ (by omega))
      rw [List.getElem?_eq_getElem (by rw [hxl]; exact Nat.mod_lt _ (by omega))] at hi
      obtain ⟨s, hs, _⟩ := DataW.trod_string Try.underlying9 hi
      rw [cells9', Nat.mul_one] at hs
      have hk4 := hc (k % 4) (Nat.mod_lt _ (by omega))
      rw [add_add, show k / 4 * 4 + k % 4 = k by omega] at hk4
      refine ⟨s, ?_⟩
      rw [hk4]
      have := congrArg (·[0]?) hs
      simpa [List.getElem?_take] using this
    obtain ⟨f, hff⟩ := choose_lt (α := ByteArray) hcell
    obtain ⟨b, off, spot⟩ := a
    refine ⟨len0, f, ⟨_, _, b, off, rfl, fun h => by simp at h, hl, Nat.zero_le _, fun hpos => ?_, fun k hk => ?_⟩, by unfold maxLen at hm; omega⟩
    · have h0 := hff 0 (by omega)
      have hspot : spot = none := by simpa [Addr.add] using World.cell?_spot h0
      rw [hspot]
    · have h0 := hff 0 (by omega)
      have hspot : spot = none := by simpa [Addr.add] using World.cell?_spot h0
      subst hspot
      rw [← Go.WideShapes.add_plain]; exact hff k hk

end Go.Proofs.Qxb6612504a.rcv
