/-
  buildFiles: the map that it makes, by what each key holds.
-/
import Derived.Test.Qxb6612566aStFile
import Derived.Maps.OwnSet
namespace Go.Proofs.Qxb6612566a.st
open Go.RowKit Go.Maps Go.ChangeMaps Go.WideMaps
attribute [local go_sem ↓] Go.wp_at_zero Go.wp_at_succ

/-- An element read as itself. -/
def heldR (v : Value) : Option (DataW Value × List MemPlace) := some (.held v, [])

theorem law9 : Keyed Try.prog 9 := string_keyed Try.underlying9

/-- The key of a string. -/
abbrev keyS (s : ByteArray) : Lit := .string s.data.toList

/-- The map as the stores left it. -/
def Mfold (nm : Nat → ByteArray) (V : Nat → Value) : Nat → DataW Value
  | 0 => .map []
  | k + 1 => (Mfold nm V k).put (keyS (nm k)) (.held (V k))

theorem Mfold_congr (nm : Nat → ByteArray) (V V' : Nat → Value) : ∀ k, (∀ j, j < k → V j = V' j) → Mfold nm V k = Mfold nm V' k
  | 0, _ => rfl
  | k + 1, h => by
    unfold Mfold
    rw [Mfold_congr nm V V' k (fun j hj => h j (by omega)), h k (by omega)]

theorem Mfold_isMap (nm : Nat → ByteArray) (V : Nat → Value) : ∀ k, IsMap (Mfold nm V k)
  | 0 => isMap_empty
  | k + 1 => (Mfold_isMap nm V k).put _ _

theorem key_ne {a b : ByteArray} (h : a ≠ b) : keyS a ≠ keyS b := by
  intro e
  simp only [Lit.string.injEq] at e
  exact h (ByteArray.ext (Array.ext' e))

/-- No store at this key: it is not there. -/
theorem Mfold_no (nm : Nat → ByteArray) (V : Nat → Value) (s : ByteArray) : ∀ k, (∀ j, j < k → nm j ≠ s) → Maps.has (Mfold nm V k) (keyS s) = false
  | 0, _ => rfl
  | k + 1, h => by
    unfold Mfold
    rw [has_put_other (key_ne (fun e => h k (by omega) e.symm))]
    exact Mfold_no nm V s k (fun j hj => h j (by omega))

/-- The last store at this key is what it holds. -/
theorem Mfold_last (nm : Nat → ByteArray) (V : Nat → Value) (s : ByteArray) (i : Nat) (hs : nm i = s) : ∀ k, i < k → (∀ j, i < j → j < k → nm j ≠ s) →
    Maps.has (Mfold nm V k) (keyS s) = true ∧ ∀ z, (Mfold nm V k).atKey (keyS s) z = .held (V i)
  | 0, h, _ => absurd h (by omega)
  | k + 1, h, hl => by
    unfold Mfold
    rcases (show i = k ∨ i < k by omega) with rfl | hlt
    · rw [hs]
      exact ⟨has_put_same (Mfold_isMap nm V i) (show WideAt.IsKeyLit (keyS s) from trivial) _, fun z => atKey_put_same (Mfold_isMap nm V i) (show WideAt.IsKeyLit (keyS s) from trivial) _ z⟩
    · have hne := key_ne (fun e => hl k hlt (by omega) e.symm)
      obtain ⟨r1, r2⟩ := Mfold_last nm V s i hs k hlt (fun j h1 h2 => hl j h1 (by omega))
      exact ⟨by rw [has_put_other hne]; exact r1, fun z => by rw [atKey_put_other hne]; exact r2 z⟩

theorem FileAt.grown {w w' : World} {b o B : Nat} {z : ZF} (h : FileAt w b o z) (hg : w.grownBy w' (some B)) (hne : b ≠ B) : FileAt w' b o z := by
  obtain ⟨h0, h1, h2, h3, h4, h5, h6, h7, h8, h9, h10⟩ := h
  have c : ∀ {o : Nat} {x : Value}, w.cell? ⟨b, o, none⟩ = some x → w'.cell? ⟨b, o, none⟩ = some x := fun e => hg.cell e (by simp [hne])
  exact ⟨c h0, c h1, c h2, c h3, c h4, c h5, c h6, c h7, c h8, c h9, c h10⟩

/-- What the map's elements are: the files, their holders cloned. -/
def Elems (lo : Nat) (w : World) (k : Nat) (Z : Nat → ZF) (G : Nat → Nat → ByteArray) (V : Nat → Value) : Prop :=
  ∀ j, j < k → ∃ ao cap, V j = fileVal (Z j) ao cap ∧ StrsAt lo w ao (Z j).hl cap (G j) ∧ (ao = none ↔ (Z j).ha = none)

theorem Elems.kept {lo : Nat} {w w' : World} {k : Nat} {Z : Nat → ZF} {G : Nat → Nat → ByteArray} {V : Nat → Value} (h : Elems lo w k Z G V) (hk : ∀ i, lo ≤ i → i < w.heap.size → w'.heap[i]? = w.heap[i]?) : Elems lo w' k Z G V := by
  intro j hj
  obtain ⟨ao, cap, h1, h2, h3⟩ := h j hj
  exact ⟨ao, cap, h1, h2.kept hk, h3⟩

/-- The state of the loop that fills the map of block B. -/
def Build (w wr : World) (k : Nat) (Z : Nat → ZF) (G : Nat → Nat → ByteArray) (V : Nat → Value) : Prop :=
  wr.ownsMap Try.prog 9 heldR w.heap.size k (Mfold (fun j => (Z j).nm) V k) ∧ Elems (w.heap.size + 1) wr k Z G V ∧ Below w.heap.size w wr

theorem build_start (w : World) (Z : Nat → ZF) (G : Nat → Nat → ByteArray) : Build w (w.alloc (.map #[] 0)) 0 Z G (fun _ => undef) :=
  ⟨World.ownsMap_made w Try.prog 9 heldR, fun j hj => absurd hj (by omega), (Below.refl _ _).alloc (Nat.le_refl _) _⟩

/-- The round's store. -/
theorem build_step {w wr w1 : World} {k : Nat} {Z : Nat → ZF} {G : Nat → Nat → ByteArray} {V : Nat → Value} (h : Build w wr k Z G V) (hb : Below wr.heap.size wr w1) (hk : k ≤ 65536) {ao : Option Addr} {cap : Nat}
    (hs : StrsAt wr.heap.size w1 ao (Z k).hl cap (G k)) (hn : ao = none ↔ (Z k).ha = none) (hm : (Z k).nm.size ≤ maxLen) :
    ∃ w2, (Instr.mapUpdate 36 (.map (some w.heap.size)) (.string (Z k).nm) (fileVal (Z k) ao cap)).run Try.prog w1 = .ok () w2 ∧ w1.grownBy w2 (some w.heap.size) ∧ ∃ V', Build w w2 (k + 1) Z G V' := by
  obtain ⟨h1, h2, h3⟩ := h
  have hsz : w.heap.size < wr.heap.size := h1.lt
  have hown1 : w1.ownsMap Try.prog 9 heldR w.heap.size k (Mfold (fun j => (Z j).nm) V k) := by
    obtain ⟨es, clock, hbk, r⟩ := h1
    exact ⟨es, clock, (hb.block _ hsz).trans hbk, r⟩
  obtain ⟨w2, hrun, hown2, hg2⟩ := hown1.update law9 Try.underlying36 (by unfold maxLen; omega) (keyOf_string_mk Try.underlying9 hm) (show heldR (fileVal (Z k) ao cap) = some (.held (fileVal (Z k) ao cap), []) from rfl)
  refine ⟨w2, hrun, hg2, fun j => if j = k then fileVal (Z k) ao cap else V j, ?_, ?_, ?_⟩
  · have e : Mfold (fun j => (Z j).nm) (fun j => if j = k then fileVal (Z k) ao cap else V j) (k + 1) = (Mfold (fun j => (Z j).nm) V k).put (keyS (Z k).nm) (.held (fileVal (Z k) ao cap)) := by
      show (Mfold (fun j => (Z j).nm) (fun j => if j = k then fileVal (Z k) ao cap else V j) k).put _ (.held (if k = k then fileVal (Z k) ao cap else V k)) = _
      rw [if_pos rfl, Mfold_congr (fun j => (Z j).nm) (fun j => if j = k then fileVal (Z k) ao cap else V j) V k (fun j hj => by simp [Nat.ne_of_lt hj])]
    rw [e]; exact hown2
  · intro j hj
    rcases (show j < k ∨ j = k by omega) with hlt | rfl
    · obtain ⟨ao', cap', e1, e2, e3⟩ := h2 j hlt
      refine ⟨ao', cap', by simp [Nat.ne_of_lt hlt, e1], ?_, e3⟩
      exact e2.kept fun i h1 h2 => (hg2.block i (by have := hb.size; omega) (by simp; omega)).trans (hb.block i h2)
    · refine ⟨ao, cap, by simp, ?_, hn⟩
      have hs' : StrsAt (w.heap.size + 1) w1 ao (Z j).hl cap (G j) := hs.mono (by omega)
      exact hs'.kept fun i h1 h2 => hg2.block i h2 (by simp; omega)
  · exact (h3.trans (hb.mono (by omega))).grown hg2 (by have := hb.size; omega) (fun i e => by cases e; exact Nat.le_refl _)

set_option maxRecDepth 100000 in
set_option maxHeartbeats 4000000 in
theorem build_any (v : Value) (n : Nat) (Z : Nat → ZF) (G : Nat → Nat → ByteArray) (w : World) (hv : FilesAt w v n Z G) (hn : n ≤ 65536) (hh : ∀ i, i < n → (Z i).hl ≤ 65536) (hm : ∀ i, i < n → (Z i).nm.size ≤ maxLen) :
    Calls Try.prog 13 #[v] w fun e w' => e = .returned (.map (some w.heap.size)) ∧ ∃ V, Build w w' n Z G V := by
  obtain ⟨ao, cap, b, off, rfl, _, hcap, hao, hc, hs⟩ := hv
  have HA : Hid (0 < n → ao = some ⟨b, off, none⟩) := hao
  have HC : Hid (∀ i, i < n → FileAt w b (off + i * 11) (Z i)) := hc
  have HS : Hid (∀ i, i < n → StrsAt 0 w (Z i).ha (Z i).hl (Z i).hc (G i)) := hs
  have HH : Hid (∀ i, i < n → (Z i).hl ≤ 65536) := hh
  have HM : Hid (∀ i, i < n → (Z i).nm.size ≤ maxLen) := hm
  clear hao hc hs hh hm
  have hmm := @run_makeMap Try.prog
  go_enter Try.func13, Try.ntmps13
  go_wp2
  have H0 : Hid (Build w _ 0 Z G _) := build_start w Z G
  go_loopw [4] (fun i wr => ∃ (k : Nat) (V : Nat → Value), k ≤ n ∧ i = .int .i64 k ∧ Hid (Build w wr k Z G V)) (fun i _ => n - (intOf i).toNat)
  case atStart => exact ⟨0, _, Nat.zero_le _, rfl, H0⟩
  case round =>
    clear H0
    obtain ⟨k, V, hk, rfl, hB⟩ := hrel
    by_cases hlt : k < n
    · obtain rfl := HA.out (Nat.lt_of_le_of_lt (Nat.zero_le _) hlt)
      have HF : Hid (FileAt wr.drew b (off + k * 11) (Z k)) := (HC.out k hlt).over hB.out.2.2.drew (Nat.le_refl _)
      have HSk : Hid (StrsAt 0 wr.drew (Z k).ha (Z k).hl (Z k).hc (G k)) := (HS.out k hlt).over hB.out.2.2.drew (Nat.le_refl _)
      have hBd : Hid (Build w wr.drew k Z G V) := ⟨hB.out.1, hB.out.2.1, hB.out.2.2.drew⟩
      have hbl : b < w.heap.size := World.block_lt_of_cell? w _ (HC.out k hlt).1
      have hne : b ≠ w.heap.size := by omega
      have hlt' : (k : Int) < (n : Int) := by omega
      clear hbl
      go_wp2
      go_region_held3 (fun w' => w'.cell? ⟨b, off + k * 11, none⟩ = some (.string (Z k).nm) ∧ w'.cell? ⟨b, off + k * 11 + 1, none⟩ = some (.int .i64 (Z k).sz) ∧ w'.cell? ⟨b, off + k * 11 + 2, none⟩ = some (.string (Z k).sha) ∧ w'.cell? ⟨b, off + k * 11 + 3, none⟩ = some (.string (Z k).md) ∧ w'.cell? ⟨b, off + k * 11 + 4, none⟩ = some (.int .i64 (Z k).rep) ∧ w'.cell? ⟨b, off + k * 11 + 5, none⟩ = some (.slice (Z k).ha (Z k).hl (Z k).hc) ∧ w'.cell? ⟨b, off + k * 11 + 6, none⟩ = some (.int .i64 (Z k).ver) ∧ w'.cell? ⟨b, off + k * 11 + 7, none⟩ = some (.int .i64 (Z k).ep) ∧ w'.cell? ⟨b, off + k * 11 + 8, none⟩ = some (.int .i64 (Z k).rem) ∧ w'.cell? ⟨b, off + k * 11 + 9, none⟩ = some (.bool (Z k).ptr) ∧ w'.cell? ⟨b, off + k * 11 + 10, none⟩ = some (.bool (Z k).dam))
        (first | exact HF.out | exact FileAt.over HF.out hbl1 (Nat.le_refl _) | exact FileAt.grown (FileAt.over HF.out hbl1 (Nat.le_refl _)) hgr2 hne)
        (first | (go_at_call 29; refine (toFile_any (Z k) (G k) wr.drew HSk.out (HH.out k hlt)).mono ?_; rintro e w1 ⟨ao1, cap1, rfl, hs1, hn1, hbl1⟩; obtain ⟨w2, hrun2, hgr2, V2, hB2⟩ := build_step hBd.out hbl1 (Nat.le_trans (Nat.le_of_lt hlt) hn) hs1 hn1 (HM.out k hlt)))
      go_wp2
      go_roundw
      case rel => exact ⟨k + 1, V2, hlt, step_num k, hB2⟩
      case measure => exact step_down n k hlt
    · obtain rfl : k = n := by omega
      go_wp2
      go_ret
      exact ⟨rfl, V, hB.out⟩

/-- What 'lastFile' answers. -/
def LastIs (n : Nat) (nm : Nat → ByteArray) (s : ByteArray) (r : Int) : Prop :=
  (r = -1 ∧ ∀ j, j < n → nm j ≠ s) ∨ ∃ i, i < n ∧ r = (i : Int) ∧ nm i = s ∧ ∀ j, i < j → j < n → nm j ≠ s

theorem ne_of_false {a b : ByteArray} (h : (a.toList == b.toList) = false) : a ≠ b := by
  intro e; subst e; simp at h
theorem eq_of_true {a b : ByteArray} (h : (a.toList == b.toList) = true) : a = b := by
  rw [← beq_toListBytes] at h; exact (MapKept.bytes_beq a b).1 h

set_option maxHeartbeats 1000000 in
theorem last_any (v : Value) (n : Nat) (Z : Nat → ZF) (G : Nat → Nat → ByteArray) (s : ByteArray) (w : World) (hv : FilesAt w v n Z G) (hn : n ≤ 65536) :
    Calls Try.prog 17 #[v, .string s] w fun e w' => SomeInt (LastIs n (fun j => (Z j).nm) s) e ∧ w' = w := by
  obtain ⟨ao, cap, b, off, rfl, _, hcap, hao, hc, _⟩ := hv
  have HA : Hid (0 < n → ao = some ⟨b, off, none⟩) := hao
  have HC : Hid (∀ i, i < n → w.cell? ⟨b, off + i * 11, none⟩ = some (.string (Z i).nm)) := fun i hi => (hc i hi).1
  clear hao hc
  go_enter Try.func17, Try.ntmps17
  go_wp2
  go_loop [5] (fun i => ∃ k : Nat, k ≤ n ∧ i = .int .i64 ((k : Int) - 1) ∧ Hid (∀ j, k ≤ j → j < n → (Z j).nm ≠ s)) (fun i => (intOf i + 1).toNat)
  case atStart => exact ⟨n, Nat.le_refl _, rfl, fun j h1 h2 => absurd h1 (by omega)⟩
  case round =>
    obtain ⟨k, hk, rfl, hno⟩ := hrel
    by_cases hpos : 0 < k
    · obtain rfl := HA.out (by omega)
      obtain ⟨m, rfl⟩ : ∃ m, k = m + 1 := ⟨k - 1, by omega⟩
      have c0 := HC.out m (by omega)
      have e1 : (((m + 1 : Nat) : Int) - 1) = (m : Int) := by omega
      rw [e1]
      have hm1 : (m : Int) < (n : Int) := by omega
      cases hq : ((Z m).nm.toList == s.toList)
      · go_wp2
        go_round
        case rel => exact ⟨m, by omega, by simp, fun j h1 h2 => by
          rcases (show j = m ∨ m + 1 ≤ j by omega) with rfl | h'
          · exact ne_of_false hq
          · exact hno.out j h' h2⟩
        case measure => simp [intOf]
      · go_wp2
        go_ret
        exact ⟨⟨_, rfl, Or.inr ⟨m, by omega, rfl, eq_of_true hq, fun j h1 h2 => hno.out j (by omega) h2⟩⟩, rfl⟩
    · obtain rfl : k = 0 := by omega
      go_wp2
      go_ret
      exact ⟨⟨_, rfl, Or.inl ⟨rfl, fun j h => hno.out j (by omega) h⟩⟩, rfl⟩

end Go.Proofs.Qxb6612566a.st
