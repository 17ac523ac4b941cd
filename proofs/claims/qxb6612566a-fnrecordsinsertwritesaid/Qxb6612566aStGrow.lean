/-
  The grown list's row; the look-ups in the two maps.
-/
import Derived.Test.Qxb6612566aStPlain
namespace Go.Proofs.Qxb6612566a.st
open Go.RowKit Go.Maps Go.WideMaps

abbrev cellsW (x : ZW) : List Value := [.int .i64 x.ver, .string x.wr, .pointer x.rp]

/-- The cells of the first k writes. -/
def rowW (X : Nat → ZW) : Nat → List Value
  | 0 => []
  | k + 1 => rowW X k ++ cellsW (X k)

theorem rowW_len (X : Nat → ZW) : ∀ k, (rowW X k).length = k * 3
  | 0 => rfl
  | k + 1 => by simp [rowW, rowW_len X k]; omega

theorem rowW_get (X : Nat → ZW) (i j : Nat) (hj : j < 3) : ∀ k, i < k → (rowW X k)[i * 3 + j]? = (cellsW (X i))[j]?
  | 0, h => absurd h (by omega)
  | k + 1, h => by
    show (rowW X k ++ cellsW (X k))[_]? = _
    rcases (show i < k ∨ i = k by omega) with h' | rfl
    · rw [List.getElem?_append_left (by rw [rowW_len]; omega)]; exact rowW_get X i j hj k h'
    · rw [List.getElem?_append_right (by rw [rowW_len]; omega), rowW_len]; congr 1; omega

theorem newsW (x : ZW) : ∀ u ∈ cellsW x, u.oneCell' = true := by
  intro u hu
  simp only [List.mem_cons, List.not_mem_nil, or_false] at hu
  rcases hu with rfl | rfl | rfl <;> rfl

theorem info27 : (Try.prog.info? 27).map (fun i => (i.zero, i.size, i.bytes)) = some (some (.agg #[.int .i64 0, .string ByteArray.empty, .pointer none]), 3, 32) := by kernel_rfl

theorem writes_of_own {w : World} {base : Nat} {v : Value} {n : Nat} {X : Nat → ZW} (h : w.ownsRow base 27 3 v n (rowW X n)) (hr : ∀ i, i < n → RepAt w (X i)) : ∃ ao cap, v = .slice ao n cap ∧ WritesAt w ao n cap X := by
  rcases h.2 with ⟨rfl, rfl⟩ | ⟨g, cap, cur, rfl, _, hg, hcap, _, hs, ht⟩
  · exact ⟨none, 0, rfl, fun _ => ⟨rfl, rfl⟩, Nat.le_refl _, 0, 0, fun h => absurd h (by omega), fun i hi => absurd hi (by omega), fun i hi => absurd hi (by omega)⟩
  · refine ⟨_, cap, rfl, fun h => by simp at h, hcap, g, 0, fun _ => rfl, fun i hi => ?_, hr⟩
    have c : ∀ j, j < 3 → w.cell? ⟨g, 0 + i * 3 + j, none⟩ = (cellsW (X i))[j]? := fun j hj => by
      rw [cell_of_row w g _ cur 27 (0, 0) hg, ← rowW_get X i j hj n hi, ← ht, List.getElem?_take_of_lt (by omega)]
      simp
    exact ⟨c 0 (by omega), c 1 (by omega), c 2 (by omega)⟩

/-- What the list is that the law looks at: the last one under the name, else none. -/
def ListIs (m : Nat) (nm : Nat → ByteArray) (s : ByteArray) (N : Nat → Nat) (X : Nat → Nat → ZW) (nL : Nat) (XL : Nat → ZW) : Prop :=
  (nL = 0 ∧ ∀ j, j < m → nm j ≠ s) ∨ ∃ i, i < m ∧ nm i = s ∧ (∀ j, i < j → j < m → nm j ≠ s) ∧ nL = N i ∧ XL = X i

theorem zero40_run (w : World) : (zeroValue 40).run Try.prog w = .ok (.slice none 0 0) w := by kernel_rfl
theorem zero52_run (w : World) : (zeroValue 52).run Try.prog w = .ok zero52 w := by kernel_rfl

/-- A look-up in a map of slices, in every world that has left the map's block as it was. -/
theorem look38 {w : World} {m n : Nat} {D : DataW Value} (h : w.ownsMap Try.prog 9 heldR m n D) (s : ByteArray) (hs : s.size ≤ maxLen) (v : Value) (hv : ∀ z, D.atKey (keyS s) z = .held v ∨ (D.atKey (keyS s) z = z ∧ v = .slice none 0 0)) :
    ∀ w', w'.heap[m]? = w.heap[m]? → (Instr.lookup 38 (.map (some m)) (.string s) false).run Try.prog w' = .ok v w' := by
  intro w' hw
  have h' : w'.ownsMap Try.prog 9 heldR m n D := by
    obtain ⟨es, clock, hb, r⟩ := h
    exact ⟨es, clock, hw.trans hb, r⟩
  obtain ⟨v', ps, hrun, hR⟩ := h'.lookup law9 Try.underlying38 (zero40_run w') (show heldR (.slice none 0 0) = some (.held (.slice none 0 0), []) from rfl) (keyOf_string_mk Try.underlying9 hs)
  have e : v' = v := by
    have e1 : DataW.held v' = D.atKey (keyS s) (.held (.slice none 0 0)) := by
      have := hR
      unfold heldR at this
      simp only [Option.some.injEq, Prod.mk.injEq] at this
      exact this.1
    rcases hv (.held (.slice none 0 0)) with h1 | ⟨h1, h2⟩
    · rw [h1] at e1; cases e1; rfl
    · rw [h1] at e1; cases e1; exact h2.symm
  rw [← e]; exact hrun

theorem look36 {w : World} {m n : Nat} {D : DataW Value} (h : w.ownsMap Try.prog 9 heldR m n D) (s : ByteArray) (hs : s.size ≤ maxLen) (v : Value) (hv : ∀ z, D.atKey (keyS s) z = .held v ∨ (D.atKey (keyS s) z = z ∧ v = zero52)) :
    ∀ w', w'.heap[m]? = w.heap[m]? → (Instr.lookup 36 (.map (some m)) (.string s) true).run Try.prog w' = .ok (.tuple #[v, .bool (Maps.has D (keyS s))]) w' := by
  intro w' hw
  have h' : w'.ownsMap Try.prog 9 heldR m n D := by
    obtain ⟨es, clock, hb, r⟩ := h
    exact ⟨es, clock, hw.trans hb, r⟩
  obtain ⟨v', ps, hrun, hR⟩ := h'.look_ok law9 Try.underlying36 (zero52_run w') (show heldR zero52 = some (.held zero52, []) from rfl) (keyOf_string_mk Try.underlying9 hs)
  have e : v' = v := by
    have e1 : DataW.held v' = D.atKey (keyS s) (.held zero52) := by
      have := hR
      unfold heldR at this
      simp only [Option.some.injEq, Prod.mk.injEq] at this
      exact this.1
    rcases hv (.held zero52) with h1 | ⟨h1, h2⟩
    · rw [h1] at e1; cases e1; rfl
    · rw [h1] at e1; cases e1; exact h2.symm
  rw [← e]; exact hrun

/-- The unended writes of the name, looked up. -/
theorem un_look {w wr : World} {m : Nat} {nm : Nat → ByteArray} {N : Nat → Nat} {X : Nat → Nat → ZW} {V : Nat → Value} {s : ByteArray} {nL : Nat} {XL : Nat → ZW} (h : UnBuild w wr m nm N X V) (hs : s.size ≤ maxLen) (hl : ListIs m nm s N X nL XL) :
    ∃ vu, OutAt 0 wr vu nL XL ∧ ∀ w', w'.heap[w.heap.size]? = wr.heap[w.heap.size]? → (Instr.lookup 38 (.map (some w.heap.size)) (.string s) false).run Try.prog w' = .ok vu w' := by
  rcases hl with ⟨rfl, hno⟩ | ⟨i, hi, he, hla, rfl, rfl⟩
  · exact ⟨.slice none 0 0, out_nil _ _ _, look38 h.1 s hs _ (fun x => Or.inr ⟨atKey_of_not_has (Mfold_no nm V s m hno) x, rfl⟩)⟩
  · obtain ⟨_, r2⟩ := Mfold_last nm V s i he m hi hla
    exact ⟨V i, (h.2.1 i hi).mono (Nat.zero_le _), look38 h.1 s hs _ (fun x => Or.inl (r2 x))⟩

/-- The record of the name, looked up. -/
theorem file_look {w wr : World} {n : Nat} {Z : Nat → ZF} {G : Nat → Nat → ByteArray} {V : Nat → Value} {s : ByteArray} (h : Build w wr n Z G V) (hs : s.size ≤ maxLen) {i : Nat} (hi : i < n) (he : (Z i).nm = s) (hla : ∀ j, i < j → j < n → (Z j).nm ≠ s) :
    ∃ zf, Like wr zf (Z i, G i) ∧ ∀ w', w'.heap[w.heap.size]? = wr.heap[w.heap.size]? → (Instr.lookup 36 (.map (some w.heap.size)) (.string s) true).run Try.prog w' = .ok (.tuple #[fileVal zf zf.ha zf.hc, .bool true]) w' := by
  obtain ⟨ao, cap, e1, e2, e3⟩ := h.2.1 i hi
  obtain ⟨r1, r2⟩ := Mfold_last (fun j => (Z j).nm) V s i he n hi hla
  refine ⟨{ Z i with ha := ao, hc := cap }, ⟨ao, cap, rfl, e2.mono (Nat.zero_le _), e3⟩, fun w' hw => ?_⟩
  have := look36 h.1 s hs (V i) (fun x => Or.inl (r2 x)) w' hw
  rw [r1, e1] at this; exact this
theorem file_look_no {w wr : World} {n : Nat} {Z : Nat → ZF} {G : Nat → Nat → ByteArray} {V : Nat → Value} {s : ByteArray} (h : Build w wr n Z G V) (hs : s.size ≤ maxLen) (hno : ∀ j, j < n → (Z j).nm ≠ s) :
    ∀ w', w'.heap[w.heap.size]? = wr.heap[w.heap.size]? → (Instr.lookup 36 (.map (some w.heap.size)) (.string s) true).run Try.prog w' = .ok (.tuple #[zero52, .bool false]) w' := by
  intro w' hw
  have hn := Mfold_no (fun j => (Z j).nm) V s n hno
  have := look36 h.1 s hs zero52 (fun x => Or.inr ⟨atKey_of_not_has hn x, rfl⟩) w' hw
  rw [hn] at this; exact this

/-- One store more into the map of the unended writes. -/
theorem put38 {w7 w8 : World} {m n : Nat} {D : DataW Value} (h : w7.ownsMap Try.prog 9 heldR m n D) (hb : Below w7.heap.size w7 w8) (hn : n ≤ 65536) (s : ByteArray) (hs : s.size ≤ maxLen) (v : Value) :
    ∃ w9, (Instr.mapUpdate 38 (.map (some m)) (.string s) v).run Try.prog w8 = .ok () w9 ∧ w8.grownBy w9 (some m) ∧ w9.ownsMap Try.prog 9 heldR m (n + 1) (D.put (keyS s) (.held v)) := by
  have hlt : m < w7.heap.size := h.lt
  have h8 : w8.ownsMap Try.prog 9 heldR m n D := by
    obtain ⟨es, clock, hbk, r⟩ := h
    exact ⟨es, clock, (hb.block m hlt).trans hbk, r⟩
  obtain ⟨w9, hrun, hown, hg⟩ := h8.update law9 Try.underlying38 (by unfold maxLen; omega) (keyOf_string_mk Try.underlying9 hs) (show heldR v = some (.held v, []) from rfl)
  exact ⟨w9, hrun, hg, hown⟩

theorem last_exists (n : Nat) (nm : Nat → ByteArray) (s : ByteArray) : (∀ j, j < n → nm j ≠ s) ∨ ∃ i, i < n ∧ nm i = s ∧ ∀ j, i < j → j < n → nm j ≠ s := by
  induction n with
  | zero => exact Or.inl fun j h => absurd h (by omega)
  | succ n ih =>
    by_cases h : nm n = s
    · exact Or.inr ⟨n, by omega, h, fun j h1 h2 => absurd h1 (by omega)⟩
    · rcases ih with h' | ⟨i, h1, h2, h3⟩
      · refine Or.inl fun j hj => ?_
        rcases (show j < n ∨ j = n by omega) with h1 | rfl
        · exact h' j h1
        · exact h
      · refine Or.inr ⟨i, by omega, h2, fun j h4 h5 => ?_⟩
        rcases (show j < n ∨ j = n by omega) with h6 | rfl
        · exact h3 j h4 h6
        · exact h

end Go.Proofs.Qxb6612566a.st
