/-
  Arguments of type ZFile and []ZFile, opened.
-/
import Derived.Test.Qxb6612566aStFile
import Derived.OpenShut
import Derived.SliceStrings
import Derived.Deep.Slices
namespace Go.Proofs.Qxb6612566a.st
open Go.RowKit Go.Deep Go.ChangeShapes

theorem ocells9 : Try.prog.cellsOf 9 = 1 := by kernel_rfl
theorem ocells2 : Try.prog.cellsOf 2 = 1 := by kernel_rfl
theorem ocells3 : Try.prog.cellsOf 3 = 1 := by kernel_rfl
theorem ocells4 : Try.prog.cellsOf 4 = 1 := by kernel_rfl
theorem ocellsS : Try.prog.cellsOf 23 = 1 := by kernel_rfl
theorem ocellsZ : Try.prog.cellsOf 47 = 11 := by kernel_rfl

/-- The eleven cells of a file, as a list. -/
abbrev cellsZ (z : ZF) : List Value := [.string z.nm, .int .i64 z.sz, .string z.sha, .string z.md, .int .i64 z.rep, .slice z.ha z.hl z.hc, .int .i64 z.ver, .int .i64 z.ep, .int .i64 z.rem, .bool z.ptr, .bool z.dam]

instance : Inhabited ZF := ⟨⟨ByteArray.empty, 0, ByteArray.empty, ByteArray.empty, 0, none, 0, 0, 0, 0, 0, false, false⟩⟩

theorem strs_open {H : Type} {enc : TypeId × Value → H} {w : World} {fuel : Nat} {cs : List Value} {x : DataW H × List MemPlace} (h : DataW.trod enc Try.prog w 0 (fun _ => true) true fuel 23 cs = some x) :
    ∃ ao n cap g, cs = [.slice ao n cap] ∧ StrsAt 0 w ao n cap g ∧ n ≤ maxLen := by
  rcases open_strings Try.underlying23 Try.underlying9 ocells9 h with ⟨hcs, _⟩ | ⟨a, len, cap, ss, hcs, _, hl, hm, hss, _, hc, _⟩
  · exact ⟨none, 0, 0, fun _ => ByteArray.empty, hcs, ⟨fun _ => ⟨rfl, rfl⟩, Nat.le_refl _, 0, 0, Nat.le_refl _, fun h => absurd h (by omega), fun k hk => absurd hk (by omega)⟩, by omega⟩
  · simp only [if_true] at hss
    obtain ⟨b, off, spot⟩ := a
    refine ⟨_, len, cap, fun k => ss.getD k ByteArray.empty, hcs, ⟨fun h => by simp at h, hl, b, off, Nat.zero_le _, fun hpos => ?_, fun k hk => ?_⟩, by omega⟩
    · have h0 := hc 0 (by omega)
      have hspot : spot = none := by simpa [Addr.add] using World.cell?_spot h0
      rw [hspot]
    · have h0 := hc 0 (by omega)
      have hspot : spot = none := by simpa [Addr.add] using World.cell?_spot h0
      subst hspot
      rw [← Go.WideShapes.add_plain]; exact hc k (by omega)

theorem list11 {α : Type} {l : List α} (h : l.length = 11) : ∃ c0 c1 c2 c3 c4 c5 c6 c7 c8 c9 c10, l = [c0, c1, c2, c3, c4, c5, c6, c7, c8, c9, c10] := by
  match l, h with
  | [c0, c1, c2, c3, c4, c5, c6, c7, c8, c9, c10], _ => exact ⟨c0, c1, c2, c3, c4, c5, c6, c7, c8, c9, c10, rfl⟩

theorem file_open {H : Type} {enc : TypeId × Value → H} {w : World} {fuel : Nat} {cs : List Value} {x : DataW H × List MemPlace} (h : DataW.trod enc Try.prog w 0 (fun _ => true) true fuel 47 cs = some x) :
    ∃ z g, cs = cellsZ z ∧ StrsAt 0 w z.ha z.hl z.hc g ∧ z.hl ≤ maxLen ∧ z.nm.size ≤ maxLen := by
  obtain ⟨xs, n, _, rfl, hl, hlen, hf⟩ := DataW.trod_struct Try.underlying47 h
  rw [ocellsZ] at hl
  obtain ⟨c0, c1, c2, c3, c4, c5, c6, c7, c8, c9, c10, rfl⟩ := list11 hl
  obtain ⟨x0, x1, x2, x3, x4, x5, x6, x7, x8, x9, x10, rfl⟩ := list11 (l := xs) (by simpa using hlen)
  have e0 : DataW.trod enc Try.prog w 0 (fun _ => true) true n 9 [c0] = some x0 := by
    have := hf 0 _ rfl
    replace this : DataW.trod enc Try.prog w 0 (fun _ => true) true n 9 (List.take (Try.prog.cellsOf 9) (List.drop 0 [c0, c1, c2, c3, c4, c5, c6, c7, c8, c9, c10])) = some x0 := this
    rw [ocells9] at this
    exact this
  have e1 : DataW.trod enc Try.prog w 0 (fun _ => true) true n 2 [c1] = some x1 := by
    have := hf 1 _ rfl
    replace this : DataW.trod enc Try.prog w 0 (fun _ => true) true n 2 (List.take (Try.prog.cellsOf 2) (List.drop 1 [c0, c1, c2, c3, c4, c5, c6, c7, c8, c9, c10])) = some x1 := this
    rw [ocells2] at this
    exact this
  have e2 : DataW.trod enc Try.prog w 0 (fun _ => true) true n 9 [c2] = some x2 := by
    have := hf 2 _ rfl
    replace this : DataW.trod enc Try.prog w 0 (fun _ => true) true n 9 (List.take (Try.prog.cellsOf 9) (List.drop 2 [c0, c1, c2, c3, c4, c5, c6, c7, c8, c9, c10])) = some x2 := this
    rw [ocells9] at this
    exact this
  have e3 : DataW.trod enc Try.prog w 0 (fun _ => true) true n 9 [c3] = some x3 := by
    have := hf 3 _ rfl
    replace this : DataW.trod enc Try.prog w 0 (fun _ => true) true n 9 (List.take (Try.prog.cellsOf 9) (List.drop 3 [c0, c1, c2, c3, c4, c5, c6, c7, c8, c9, c10])) = some x3 := this
    rw [ocells9] at this
    exact this
  have e4 : DataW.trod enc Try.prog w 0 (fun _ => true) true n 3 [c4] = some x4 := by
    have := hf 4 _ rfl
    replace this : DataW.trod enc Try.prog w 0 (fun _ => true) true n 3 (List.take (Try.prog.cellsOf 3) (List.drop 4 [c0, c1, c2, c3, c4, c5, c6, c7, c8, c9, c10])) = some x4 := this
    rw [ocells3] at this
    exact this
  have e5 : DataW.trod enc Try.prog w 0 (fun _ => true) true n 23 [c5] = some x5 := by
    have := hf 5 _ rfl
    replace this : DataW.trod enc Try.prog w 0 (fun _ => true) true n 23 (List.take (Try.prog.cellsOf 23) (List.drop 5 [c0, c1, c2, c3, c4, c5, c6, c7, c8, c9, c10])) = some x5 := this
    rw [ocellsS] at this
    exact this
  have e6 : DataW.trod enc Try.prog w 0 (fun _ => true) true n 2 [c6] = some x6 := by
    have := hf 6 _ rfl
    replace this : DataW.trod enc Try.prog w 0 (fun _ => true) true n 2 (List.take (Try.prog.cellsOf 2) (List.drop 6 [c0, c1, c2, c3, c4, c5, c6, c7, c8, c9, c10])) = some x6 := this
    rw [ocells2] at this
    exact this
  have e7 : DataW.trod enc Try.prog w 0 (fun _ => true) true n 2 [c7] = some x7 := by
    have := hf 7 _ rfl
    replace this : DataW.trod enc Try.prog w 0 (fun _ => true) true n 2 (List.take (Try.prog.cellsOf 2) (List.drop 7 [c0, c1, c2, c3, c4, c5, c6, c7, c8, c9, c10])) = some x7 := this
    rw [ocells2] at this
    exact this
  have e8 : DataW.trod enc Try.prog w 0 (fun _ => true) true n 2 [c8] = some x8 := by
    have := hf 8 _ rfl
    replace this : DataW.trod enc Try.prog w 0 (fun _ => true) true n 2 (List.take (Try.prog.cellsOf 2) (List.drop 8 [c0, c1, c2, c3, c4, c5, c6, c7, c8, c9, c10])) = some x8 := this
    rw [ocells2] at this
    exact this
  have e9 : DataW.trod enc Try.prog w 0 (fun _ => true) true n 4 [c9] = some x9 := by
    have := hf 9 _ rfl
    replace this : DataW.trod enc Try.prog w 0 (fun _ => true) true n 4 (List.take (Try.prog.cellsOf 4) (List.drop 9 [c0, c1, c2, c3, c4, c5, c6, c7, c8, c9, c10])) = some x9 := this
    rw [ocells4] at this
    exact this
  have e10 : DataW.trod enc Try.prog w 0 (fun _ => true) true n 4 [c10] = some x10 := by
    have := hf 10 _ rfl
    replace this : DataW.trod enc Try.prog w 0 (fun _ => true) true n 4 (List.take (Try.prog.cellsOf 4) (List.drop 10 [c0, c1, c2, c3, c4, c5, c6, c7, c8, c9, c10])) = some x10 := this
    rw [ocells4] at this
    exact this
  obtain ⟨s0, h0, _, m0⟩ := DataW.trod_string Try.underlying9 e0
  obtain ⟨s1, h1, _, m1⟩ := DataW.trod_int Try.underlying2 e1
  obtain ⟨s2, h2, _, m2⟩ := DataW.trod_string Try.underlying9 e2
  obtain ⟨s3, h3, _, m3⟩ := DataW.trod_string Try.underlying9 e3
  obtain ⟨s4, h4, _, m4⟩ := DataW.trod_int Try.underlying3 e4
  obtain ⟨ao, l5, cap5, g, h5, hs5, m5⟩ := strs_open e5
  obtain ⟨s6, h6, _, m6⟩ := DataW.trod_int Try.underlying2 e6
  obtain ⟨s7, h7, _, m7⟩ := DataW.trod_int Try.underlying2 e7
  obtain ⟨s8, h8, _, m8⟩ := DataW.trod_int Try.underlying2 e8
  obtain ⟨s9, h9, _⟩ := DataW.trod_bool Try.underlying4 e9
  obtain ⟨s10, h10, _⟩ := DataW.trod_bool Try.underlying4 e10
  simp only [List.cons.injEq, and_true] at h0 h1 h2 h3 h4 h5 h6 h7 h8 h9 h10
  subst h0 h1 h2 h3 h4 h5 h6 h7 h8 h9 h10
  exact ⟨⟨s0, s1, s2, s3, s4, ao, l5, cap5, s6, s7, s8, s9, s10⟩, g, rfl, hs5, m5, m0⟩

theorem file_val {z : ZF} {v : Value} (h : v.cells.toList = cellsZ z) (hv : ∃ vs, v = .agg vs) : v = fileVal z z.ha z.hc := by
  obtain ⟨vs, rfl⟩ := hv
  have : vs.toList = cellsZ z := h
  obtain ⟨vs⟩ := vs
  simp only at this
  rw [this]

theorem files_open {H : Type} {enc : TypeId × Value → H} {w : World} {d : DataW H} {p : List MemPlace} {v : Value} (h : DataW.Trod enc Try.prog w 0 (fun _ => true) true 22 v d p) (hv : ∃ a len cap, v = .slice a len cap) :
    ∃ n Z G, FilesAt w v n Z G ∧ n ≤ 9223372036854775807 ∧ (∀ i, i < n → (Z i).hl ≤ 9223372036854775807) ∧ ∀ i, i < n → (Z i).nm.size ≤ maxLen := by
  obtain ⟨fuel, hf⟩ := h
  obtain ⟨a0, len0, cap0, rfl⟩ := hv
  rcases open_slice Try.underlying22 hf with ⟨hcs, _⟩ | ⟨a, len, cap, m, q, D, Pl, hcs, _, hl, hm, hmm, _, hx⟩
  · simp [Value.cells] at hcs
    obtain ⟨rfl, rfl, rfl⟩ := hcs
    exact ⟨0, fun _ => default, fun _ _ => ByteArray.empty, ⟨none, 0, 0, 0, rfl, fun _ => ⟨rfl, rfl⟩, Nat.le_refl _, fun h => absurd h (by omega), fun k hk => absurd hk (by omega), fun k hk => absurd hk (by omega)⟩, by omega, fun k hk => absurd hk (by omega), fun k hk => absurd hk (by omega)⟩
  · simp [Value.cells] at hcs
    obtain ⟨rfl, rfl, rfl⟩ := hcs
    simp only [if_true] at hmm
    subst hmm
    rw [ocellsZ] at hx
    have hcell : ∀ i, i < len0 → ∃ zg : ZF × (Nat → ByteArray), (∀ k, k < 11 → w.cell? (a.add (i * 11 + k)) = (cellsZ zg.1)[k]?) ∧ StrsAt 0 w zg.1.ha zg.1.hl zg.1.hc zg.2 ∧ zg.1.hl ≤ maxLen ∧ zg.1.nm.size ≤ maxLen := by
      intro i hi
      obtain ⟨cs', h1, h2⟩ := hx i (by omega)
      obtain ⟨_, hlen, hc⟩ := World.cells?_some h1
      obtain ⟨z, g, hz, hs, m1, m2⟩ := file_open h2
      refine ⟨(z, g), fun k hk => ?_, hs, m1, m2⟩
      have := hc k hk
      rw [add_add, hz] at this
      exact this
    obtain ⟨ZG, hff⟩ := choose_lt hcell
    obtain ⟨b, off, spot⟩ := a
    refine ⟨len0, fun i => (ZG i).1, fun i => (ZG i).2, ⟨_, _, b, off, rfl, fun h => by simp at h, hl, fun hpos => ?_, fun i hi => ?_, fun i hi => (hff i hi).2.1⟩, by unfold maxLen at hm; omega, fun i hi => ?_, fun i hi => (hff i hi).2.2.2⟩
    · have h0 := (hff 0 hpos).1 0 (by omega)
      have hspot : spot = none := by simpa [Addr.add] using World.cell?_spot h0
      rw [hspot]
    · have h0 := (hff i hi).1
      have hspot : spot = none := by simpa [Addr.add] using World.cell?_spot ((hff 0 (by omega)).1 0 (by omega))
      subst hspot
      have hh : ∀ k, k < 11 → w.cell? ⟨b, off + i * 11 + k, none⟩ = (cellsZ (ZG i).1)[k]? := by
        intro k hk
        rw [Nat.add_assoc, ← Go.WideShapes.add_plain]; exact h0 k hk
      exact ⟨hh 0 (by omega), hh 1 (by omega), hh 2 (by omega), hh 3 (by omega), hh 4 (by omega), hh 5 (by omega), hh 6 (by omega), hh 7 (by omega), hh 8 (by omega), hh 9 (by omega), hh 10 (by omega)⟩
    · have := (hff i hi).2.2.1
      unfold maxLen at this; omega

end Go.Proofs.Qxb6612566a.st
