/-
  Arguments of type ZWrite, [][]ZWrite and []string, opened.
-/
import Derived.Test.Qxb6612566aStOpen
import Derived.Test.Qxb6612566aStWr
namespace Go.Proofs.Qxb6612566a.st
open Go.RowKit Go.Deep Go.ChangeShapes

theorem ocellsP : Try.prog.cellsOf 25 = 1 := by kernel_rfl
theorem ocellsW : Try.prog.cellsOf 27 = 3 := by kernel_rfl
theorem ocellsL : Try.prog.cellsOf 32 = 1 := by kernel_rfl

/-- The three cells of a write, as a list. -/
abbrev cellsX (x : ZW) : List Value := [.int .i64 x.ver, .string x.wr, .pointer x.rp]

instance : Inhabited ZW := ⟨⟨0, ByteArray.empty, none, default, fun _ => ByteArray.empty⟩⟩

theorem keys_open {H : Type} {enc : TypeId × Value → H} {w : World} {fuel : Nat} {cs : List Value} {x : DataW H × List MemPlace} (h : DataW.trod enc Try.prog w 0 (fun _ => true) true fuel 23 cs = some x) :
    ∃ ao n cap g, cs = [.slice ao n cap] ∧ StrsAt 0 w ao n cap g ∧ n ≤ maxLen ∧ ∀ i, i < n → (g i).size ≤ maxLen := by
  rcases open_strings Try.underlying23 Try.underlying9 ocells9 h with ⟨hcs, _⟩ | ⟨a, len, cap, ss, hcs, _, hl, hm, hss, _, hc, hsz⟩
  · exact ⟨none, 0, 0, fun _ => ByteArray.empty, hcs, ⟨fun _ => ⟨rfl, rfl⟩, Nat.le_refl _, 0, 0, Nat.le_refl _, fun h => absurd h (by omega), fun k hk => absurd hk (by omega)⟩, by omega, fun k hk => absurd hk (by omega)⟩
  · simp only [if_true] at hss
    obtain ⟨b, off, spot⟩ := a
    refine ⟨_, len, cap, fun k => ss.getD k ByteArray.empty, hcs, ⟨fun h => by simp at h, hl, b, off, Nat.zero_le _, fun hpos => ?_, fun k hk => ?_⟩, by omega, fun k hk => ?_⟩
    · have h0 := hc 0 (by omega)
      have hspot : spot = none := by simpa [Addr.add] using World.cell?_spot h0
      rw [hspot]
    · have h0 := hc 0 (by omega)
      have hspot : spot = none := by simpa [Addr.add] using World.cell?_spot h0
      subst hspot
      rw [← Go.WideShapes.add_plain]; exact hc k (by omega)
    · refine hsz _ ?_
      show ss.getD k ByteArray.empty ∈ ss
      rw [List.getD_eq_getElem?_getD, List.getElem?_eq_getElem (by omega)]
      simp

theorem rep_open {H : Type} {enc : TypeId × Value → H} {w : World} {fuel : Nat} {cs : List Value} {x : DataW H × List MemPlace} (h : DataW.trod enc Try.prog w 0 (fun _ => true) true fuel 25 cs = some x) :
    ∃ rp z g, cs = [.pointer rp] ∧ (rp = none ∨ ∃ b o, rp = some ⟨b, o, none⟩ ∧ FileAt w b o z ∧ StrsAt 0 w z.ha z.hl z.hc g) ∧ z.hl ≤ maxLen := by
  rcases DataW.trod_pointer Try.underlying25 h with ⟨hcs, _⟩ | ⟨a, cs', y, m, _, hcs, _, hcells, hy⟩
  · exact ⟨none, default, fun _ => ByteArray.empty, hcs, Or.inl rfl, Nat.zero_le _⟩
  · rw [ocellsZ] at hcells
    obtain ⟨_, hlen, hc⟩ := World.cells?_some hcells
    obtain ⟨z, g, hz, hs, m1, m2⟩ := file_open hy
    obtain ⟨b, off, spot⟩ := a
    rw [hz] at hc
    have hspot : spot = none := by
      have h0 := hc 0 (by omega)
      simpa [Addr.add] using World.cell?_spot (v := .string z.nm) h0
    subst hspot
    have hh : ∀ k, k < 11 → w.cell? ⟨b, off + k, none⟩ = (cellsZ z)[k]? := by
      intro k hk
      rw [← Go.WideShapes.add_plain]; exact hc k hk
    exact ⟨_, z, g, hcs, Or.inr ⟨b, off, rfl, ⟨hh 0 (by omega), hh 1 (by omega), hh 2 (by omega), hh 3 (by omega), hh 4 (by omega), hh 5 (by omega), hh 6 (by omega), hh 7 (by omega), hh 8 (by omega), hh 9 (by omega), hh 10 (by omega)⟩, hs⟩, m1⟩

theorem list3 {α : Type} {l : List α} (h : l.length = 3) : ∃ c0 c1 c2, l = [c0, c1, c2] := by
  match l, h with
  | [c0, c1, c2], _ => exact ⟨c0, c1, c2, rfl⟩

theorem write_open {H : Type} {enc : TypeId × Value → H} {w : World} {fuel : Nat} {cs : List Value} {x : DataW H × List MemPlace} (h : DataW.trod enc Try.prog w 0 (fun _ => true) true fuel 27 cs = some x) :
    ∃ y, cs = cellsX y ∧ RepAt w y ∧ Some63 y := by
  obtain ⟨xs, n, _, rfl, hl, hlen, hf⟩ := DataW.trod_struct Try.underlying27 h
  rw [ocellsW] at hl
  obtain ⟨c0, c1, c2, rfl⟩ := list3 hl
  obtain ⟨x0, x1, x2, rfl⟩ := list3 (l := xs) (by simpa using hlen)
  have e0 : DataW.trod enc Try.prog w 0 (fun _ => true) true n 2 [c0] = some x0 := by
    have := hf 0 _ rfl
    replace this : DataW.trod enc Try.prog w 0 (fun _ => true) true n 2 (List.take (Try.prog.cellsOf 2) (List.drop 0 [c0, c1, c2])) = some x0 := this
    rw [ocells2] at this
    exact this
  have e1 : DataW.trod enc Try.prog w 0 (fun _ => true) true n 9 [c1] = some x1 := by
    have := hf 1 _ rfl
    replace this : DataW.trod enc Try.prog w 0 (fun _ => true) true n 9 (List.take (Try.prog.cellsOf 9) (List.drop 1 [c0, c1, c2])) = some x1 := this
    rw [ocells9] at this
    exact this
  have e2 : DataW.trod enc Try.prog w 0 (fun _ => true) true n 25 [c2] = some x2 := by
    have := hf 2 _ rfl
    replace this : DataW.trod enc Try.prog w 0 (fun _ => true) true n 25 (List.take (Try.prog.cellsOf 25) (List.drop 2 [c0, c1, c2])) = some x2 := this
    rw [ocellsP] at this
    exact this
  obtain ⟨s0, h0, _, m0⟩ := DataW.trod_int Try.underlying2 e0
  obtain ⟨s1, h1, _, m1⟩ := DataW.trod_string Try.underlying9 e1
  obtain ⟨rp, z, g, h2, hr, m2⟩ := rep_open e2
  simp only [List.cons.injEq, and_true] at h0 h1 h2
  subst h0 h1 h2
  exact ⟨⟨s0, s1, rp, z, g⟩, rfl, hr, by show z.hl ≤ _; unfold maxLen at m2; omega⟩

theorem writes_open {H : Type} {enc : TypeId × Value → H} {w : World} {fuel : Nat} {cs : List Value} {x : DataW H × List MemPlace} (h : DataW.trod enc Try.prog w 0 (fun _ => true) true fuel 32 cs = some x) :
    ∃ ao n cap X, cs = [.slice ao n cap] ∧ WritesAt w ao n cap X ∧ n ≤ 9223372036854775807 ∧ ∀ i, i < n → Some63 (X i) := by
  rcases open_slice Try.underlying32 h with ⟨hcs, _⟩ | ⟨a, len, cap, m, q, D, Pl, hcs, _, hl, hm, hmm, _, hx⟩
  · exact ⟨none, 0, 0, fun _ => default, hcs, ⟨fun _ => ⟨rfl, rfl⟩, Nat.le_refl _, 0, 0, fun h => absurd h (by omega), fun k hk => absurd hk (by omega), fun k hk => absurd hk (by omega)⟩, by omega, fun k hk => absurd hk (by omega)⟩
  · simp only [if_true] at hmm
    subst hmm
    rw [ocellsW] at hx
    have hcell : ∀ i, i < len → ∃ y : ZW, (∀ k, k < 3 → w.cell? (a.add (i * 3 + k)) = (cellsX y)[k]?) ∧ RepAt w y ∧ Some63 y := by
      intro i hi
      obtain ⟨cs', h1, h2⟩ := hx i (by omega)
      obtain ⟨_, hlen, hc⟩ := World.cells?_some h1
      obtain ⟨y, hy, hr, hs⟩ := write_open h2
      refine ⟨y, fun k hk => ?_, hr, hs⟩
      have := hc k hk
      rw [add_add, hy] at this
      exact this
    obtain ⟨X, hff⟩ := choose_lt hcell
    obtain ⟨b, off, spot⟩ := a
    refine ⟨_, len, _, X, hcs, ⟨fun h => by simp at h, hl, b, off, fun hpos => ?_, fun i hi => ?_, fun i hi => (hff i hi).2.1⟩, by unfold maxLen at hm; omega, fun i hi => (hff i hi).2.2⟩
    · have h0 := (hff 0 hpos).1 0 (by omega)
      have hspot : spot = none := by simpa [Addr.add] using World.cell?_spot h0
      rw [hspot]
    · have h0 := (hff i hi).1
      have hspot : spot = none := by simpa [Addr.add] using World.cell?_spot ((hff 0 (by omega)).1 0 (by omega))
      subst hspot
      have hh : ∀ k, k < 3 → w.cell? ⟨b, off + i * 3 + k, none⟩ = (cellsX (X i))[k]? := by
        intro k hk
        rw [Nat.add_assoc, ← Go.WideShapes.add_plain]; exact h0 k hk
      exact ⟨hh 0 (by omega), hh 1 (by omega), hh 2 (by omega)⟩

/-- One row of the slice of slices. -/
structure Row where
  a : Option Addr
  n : Nat
  c : Nat
  x : Nat → ZW
instance : Inhabited Row := ⟨⟨none, 0, 0, fun _ => default⟩⟩

theorem un_open {H : Type} {enc : TypeId × Value → H} {w : World} {d : DataW H} {p : List MemPlace} {v : Value} (h : DataW.Trod enc Try.prog w 0 (fun _ => true) true 24 v d p) (hv : ∃ a len cap, v = .slice a len cap) :
    ∃ n A N C X, UnAt w v n A N C X ∧ n ≤ 9223372036854775807 ∧ (∀ i, i < n → N i ≤ 9223372036854775807) ∧ ∀ i, i < n → ∀ j, j < N i → Some63 (X i j) := by
  obtain ⟨fuel, hf⟩ := h
  obtain ⟨a0, len0, cap0, rfl⟩ := hv
  rcases open_slice Try.underlying24 hf with ⟨hcs, _⟩ | ⟨a, len, cap, m, q, D, Pl, hcs, _, hl, hm, hmm, _, hx⟩
  · simp [Value.cells] at hcs
    obtain ⟨rfl, rfl, rfl⟩ := hcs
    exact ⟨0, fun _ => none, fun _ => 0, fun _ => 0, fun _ _ => default, ⟨none, 0, 0, 0, rfl, fun _ => ⟨rfl, rfl⟩, Nat.le_refl _, fun h => absurd h (by omega), fun k hk => absurd hk (by omega), fun k hk => absurd hk (by omega)⟩, by omega, fun k hk => absurd hk (by omega), fun k hk => absurd hk (by omega)⟩
  · simp [Value.cells] at hcs
    obtain ⟨rfl, rfl, rfl⟩ := hcs
    simp only [if_true] at hmm
    subst hmm
    rw [ocellsL] at hx
    have hcell : ∀ i, i < len0 → ∃ r : Row, w.cell? (a.add i) = some (.slice r.a r.n r.c) ∧ WritesAt w r.a r.n r.c r.x ∧ r.n ≤ 9223372036854775807 ∧ ∀ j, j < r.n → Some63 (r.x j) := by
      intro i hi
      obtain ⟨cs', h1, h2⟩ := hx i (by omega)
      obtain ⟨_, hlen, hc⟩ := World.cells?_some h1
      obtain ⟨ao, n, cap, X, hy, hr, hs, hs'⟩ := writes_open h2
      have := hc 0 (by omega)
      rw [add_add, hy, Nat.mul_one, Nat.add_zero] at this
      exact ⟨⟨ao, n, cap, X⟩, this, hr, hs, hs'⟩
    obtain ⟨R, hff⟩ := choose_lt hcell
    obtain ⟨b, off, spot⟩ := a
    refine ⟨len0, fun i => (R i).a, fun i => (R i).n, fun i => (R i).c, fun i => (R i).x, ⟨_, _, b, off, rfl, fun h => by simp at h, hl, fun hpos => ?_, fun i hi => ?_, fun i hi => (hff i hi).2.1⟩, by unfold maxLen at hm; omega, fun i hi => (hff i hi).2.2.1, fun i hi => (hff i hi).2.2.2⟩
    · have h0 := (hff 0 hpos).1
      have hspot : spot = none := by simpa [Addr.add] using World.cell?_spot h0
      rw [hspot]
    · have h0 := (hff i hi).1
      have hspot : spot = none := by simpa [Addr.add] using World.cell?_spot ((hff 0 (by omega)).1)
      subst hspot
      rw [← Go.WideShapes.add_plain]; exact h0

theorem write_val {x : ZW} {v : Value} (h : v.cells.toList = cellsX x) (hv : ∃ vs, v = .agg vs) : v = .agg #[.int .i64 x.ver, .string x.wr, .pointer x.rp] := by
  obtain ⟨vs, rfl⟩ := hv
  have : vs.toList = cellsX x := h
  obtain ⟨vs⟩ := vs
  simp only at this
  rw [this]

end Go.Proofs.Qxb6612566a.st
