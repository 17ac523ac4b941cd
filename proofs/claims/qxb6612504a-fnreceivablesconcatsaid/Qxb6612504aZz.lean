/-
  The walk of ZZreceivables (7).
-/
import Derived.Test.Qxb6612504aRecv
import Derived.Deep.RegionHeld3
import Derived.Deep.DrawnRows
import Derived.Deep.DeepCutAuto
namespace Go.Proofs.Qxb6612504a.rcv
open Go.RowKit
attribute [local go_sem ↓] Go.wp_at_zero Go.wp_at_succ

theorem info44 : (Try.prog.info? 44).map (fun i => (i.zero, i.size, i.bytes)) = some (some (.agg #[.string ByteArray.empty, .string ByteArray.empty, .string ByteArray.empty, .string ByteArray.empty]), 4, 64) := by kernel_rfl
theorem info46 : (Try.prog.info? 46).map (fun i => (i.zero, i.size, i.bytes)) = some (some (.agg #[.string ByteArray.empty, .string ByteArray.empty, .string ByteArray.empty, .string ByteArray.empty]), 4, 64) := by kernel_rfl

/-- The book file's block: its two lists. -/
def BookAt (w : World) (g : Nat) (vd vc : Value) : Prop := ∃ cur : Array Value, w.heap[g]? = some (.cells cur 42 (0, 0)) ∧ cur[9]? = some vd ∧ cur[10]? = some vc

theorem BookAt.same {w w' : World} {g : Nat} {vd vc : Value} (h : BookAt w g vd vc) (hh : w'.heap[g]? = w.heap[g]?) : BookAt w' g vd vc := by
  obtain ⟨cur, h1, h2, h3⟩ := h; exact ⟨cur, hh.trans h1, h2, h3⟩
theorem BookAt.nine {w : World} {g : Nat} {vd vc : Value} (h : BookAt w g vd vc) : w.cell? ⟨g, 9, none⟩ = some vd ∧ w.frozen? ⟨g, 9, none⟩ = false := by
  obtain ⟨cur, h1, h2, h3⟩ := h; exact ⟨(cell_of_row w g 9 cur 42 _ h1).trans h2, frozen_of_row w g 9 cur 42 h1⟩
theorem BookAt.ten {w : World} {g : Nat} {vd vc : Value} (h : BookAt w g vd vc) : w.cell? ⟨g, 10, none⟩ = some vc ∧ w.frozen? ⟨g, 10, none⟩ = false := by
  obtain ⟨cur, h1, h2, h3⟩ := h; exact ⟨(cell_of_row w g 10 cur 42 _ h1).trans h3, frozen_of_row w g 10 cur 42 h1⟩
theorem BookAt.set9 {w : World} {g : Nat} {vd vc : Value} (h : BookAt w g vd vc) (x : Value) : BookAt (w.setCell ⟨g, 9, none⟩ x) g x vc := by
  obtain ⟨cur, h1, h2, h3⟩ := h
  have hl : 9 < cur.size := (Array.getElem?_eq_some_iff.1 h2).1
  exact ⟨_, heap_setCell_same w g 9 cur 42 x h1, by simp [hl], by simpa using h3⟩
theorem BookAt.set10 {w : World} {g : Nat} {vd vc : Value} (h : BookAt w g vd vc) (x : Value) : BookAt (w.setCell ⟨g, 10, none⟩ x) g vd x := by
  obtain ⟨cur, h1, h2, h3⟩ := h
  have hl : 10 < cur.size := (Array.getElem?_eq_some_iff.1 h3).1
  exact ⟨_, heap_setCell_same w g 10 cur 42 x h1, by simpa using h2, by simp [hl]⟩

/-- The state between the statements: the book file's block, the result's block, all else as it was. -/
def St (w wc : World) (vd vc : Value) : Prop :=
  BookAt wc (w.heap.size + 1) vd vc ∧ wc.heap[w.heap.size]? = some (.cells #[.slice none 0 0, .slice none 0 0] 25 (0, 0)) ∧ Below w.heap.size w wc ∧ w.heap.size + 2 ≤ wc.heap.size

theorem st_start (w : World) : St w ((w.alloc (.cells #[.slice none 0 0, .slice none 0 0] 25)).alloc
    (.cells #[.string ⟨#[]⟩, .string ⟨#[]⟩, .string ⟨#[]⟩, .slice none 0 0, .pointer none, .slice none 0 0, .pointer none, .slice none 0 0, .slice none 0 0, .slice none 0 0, .slice none 0 0, .slice none 0 0] 42)) (.slice none 0 0) (.slice none 0 0) := by
  refine ⟨⟨#[.string ⟨#[]⟩, .string ⟨#[]⟩, .string ⟨#[]⟩, .slice none 0 0, .pointer none, .slice none 0 0, .pointer none, .slice none 0 0, .slice none 0 0, .slice none 0 0, .slice none 0 0, .slice none 0 0], ?_, rfl, rfl⟩, ?_, ((Below.refl _ _).alloc (Nat.le_refl _) _).alloc (by simp) _, by simp⟩
  · have h := heap_alloc_new (w.alloc (.cells #[.slice none 0 0, .slice none 0 0] 25)) (.cells #[.string ⟨#[]⟩, .string ⟨#[]⟩, .string ⟨#[]⟩, .slice none 0 0, .pointer none, .slice none 0 0, .pointer none, .slice none 0 0, .slice none 0 0, .slice none 0 0, .slice none 0 0, .slice none 0 0] 42)
    simpa using h
  · rw [Below.heap_alloc _ _ _ (by simp)]; exact heap_alloc_new w _

/-- Behind what turns none of the old blocks. -/
theorem St.same {w wc wd : World} {vd vc : Value} (h : St w wc vd vc) (hb : Below wc.heap.size wc wd) : St w wd vd vc :=
  ⟨h.1.same (hb.block _ (by have := h.2.2.2; omega)), (hb.block _ (by have := h.2.2.2; omega)).trans h.2.1, h.2.2.1.trans (hb.mono (by have := h.2.2.2; omega)), Nat.le_trans h.2.2.2 hb.size⟩

theorem St.set9 {w wc : World} {vd vc : Value} (h : St w wc vd vc) (x : Value) : St w (wc.setCell ⟨w.heap.size + 1, 9, none⟩ x) x vc :=
  ⟨h.1.set9 x, (heap_setCell_other wc ⟨w.heap.size + 1, 9, none⟩ w.heap.size x (by simp)).trans h.2.1, h.2.2.1.setCell (p := ⟨w.heap.size + 1, 9, none⟩) (by simp) x, by simpa [World.setCell] using h.2.2.2⟩
theorem St.set10 {w wc : World} {vd vc : Value} (h : St w wc vd vc) (x : Value) : St w (wc.setCell ⟨w.heap.size + 1, 10, none⟩ x) vd x :=
  ⟨h.1.set10 x, (heap_setCell_other wc ⟨w.heap.size + 1, 10, none⟩ w.heap.size x (by simp)).trans h.2.1, h.2.2.1.setCell (p := ⟨w.heap.size + 1, 10, none⟩) (by simp) x, by simpa [World.setCell] using h.2.2.2⟩

/-- A store of four cells into a block beyond the two. -/
theorem set4_other {w : World} {g o i : Nat} {x0 x1 x2 x3 : Value} (h : i ≠ g) : ((((w.setCell ⟨g, o, none⟩ x0).setCell ⟨g, o + 1, none⟩ x1).setCell ⟨g, o + 2, none⟩ x2).setCell ⟨g, o + 3, none⟩ x3).heap[i]? = w.heap[i]? := by
  rw [heap_setCell_other _ ⟨g, o + 3, none⟩ i x3 h, heap_setCell_other _ ⟨g, o + 2, none⟩ i x2 h, heap_setCell_other _ ⟨g, o + 1, none⟩ i x1 h, heap_setCell_other _ ⟨g, o, none⟩ i x0 h]
theorem St.set4 {w wc : World} {vd vc : Value} {g o : Nat} (h : St w wc vd vc) (hg : w.heap.size + 2 ≤ g) (x0 x1 x2 x3 : Value) :
    St w ((((wc.setCell ⟨g, o, none⟩ x0).setCell ⟨g, o + 1, none⟩ x1).setCell ⟨g, o + 2, none⟩ x2).setCell ⟨g, o + 3, none⟩ x3) vd vc :=
  ⟨h.1.same (set4_other (by omega)), (set4_other (by omega)).trans h.2.1, below4 h.2.2.1 (by omega) _ _ _ _, by simpa [World.setCell] using h.2.2.2⟩

theorem St.drew {w wc : World} {vd vc : Value} (h : St w wc vd vc) : St w wc.drew vd vc := ⟨h.1, h.2.1, h.2.2.1.drew, h.2.2.2⟩
theorem Fill.drew {w : World} {g e N k : Nat} {F : Nat → ByteArray} (h : Fill w g e N k F) : Fill w.drew g e N k F := h

/-- Of the blocks that were there none but L has turned. -/
def Kp (W wr : World) (L : Nat) : Prop := ∀ i, i < W.heap.size → i ≠ L → wr.heap[i]? = W.heap[i]?
theorem Kp.set4 {W wr : World} {L g o : Nat} (h : Kp W wr L) (hg : W.heap.size ≤ g) (x0 x1 x2 x3 : Value) :
    Kp W ((((wr.setCell ⟨g, o, none⟩ x0).setCell ⟨g, o + 1, none⟩ x1).setCell ⟨g, o + 2, none⟩ x2).setCell ⟨g, o + 3, none⟩ x3) L := fun i hi hne => (set4_other (by omega)).trans (h i hi hne)
theorem Kp.drew {W wr : World} {L : Nat} (h : Kp W wr L) : Kp W wr.drew L := h
theorem Kp.setL {W wr : World} {L o : Nat} (h : Kp W wr L) (x : Value) : Kp W (wr.setCell ⟨L, o, none⟩ x) L := fun i hi hne => (heap_setCell_other wr ⟨L, o, none⟩ i x hne).trans (h i hi hne)
theorem Kp.ofBelow {W wr : World} (L : Nat) (h : Below W.heap.size W wr) : Kp W wr L := fun i hi _ => h.block i hi
theorem Kp.rows {W wr : World} {L lo : Nat} {v : Value} {n : Nat} {f : Nat → ByteArray} (h : Kp W wr L) (hr : RowsAt lo W v n f) (hl : L < lo) : RowsAt lo wr v n f := hr.kept fun i h1 h2 => h i h2 (by omega)

/-- The two lists, by their number. -/
def Fam (w4 : World) (lo : Nat) (A : Nat → Option Addr) (C N : Nat → Nat) (F : Nat → Nat → ByteArray) : Prop :=
  ∀ k, k < 2 → RowsAt lo w4 (.slice (A k) (N k) (C k)) (N k) (F k) ∧ N k ≤ 131072 ∧ (A k = none ↔ N k = 0)

theorem nil_iff {lo : Nat} {w : World} {ao : Option Addr} {n cap : Nat} {f : Nat → ByteArray} (h : RowsAt lo w (.slice ao n cap) n f) (hn : Value.slice ao n cap = .slice none 0 0 ↔ n = 0) : ao = none ↔ n = 0 := by
  obtain ⟨ao', cap', b, off, h1, h2, _⟩ := h
  simp only [Value.slice.injEq, true_and] at h1
  obtain ⟨rfl, rfl⟩ := h1
  refine ⟨fun h => (h2 h).1, fun h => ?_⟩
  have := hn.2 h
  simp only [Value.slice.injEq] at this
  exact this.1

theorem fam_of {w4 : World} {lo n n' : Nat} {l l' : Value} {f f' : Nat → ByteArray} (h : RowsAt lo w4 l n f) (h' : RowsAt lo w4 l' n' f') (hn : n ≤ 131072) (hn' : n' ≤ 131072) (hl : l = .slice none 0 0 ↔ n = 0) (hl' : l' = .slice none 0 0 ↔ n' = 0) :
    ∃ (A : Nat → Option Addr) (C N : Nat → Nat) (F : Nat → Nat → ByteArray), Hid (N 0 = n ∧ N 1 = n' ∧ F 0 = f ∧ F 1 = f') ∧ l = .slice (A 0) (N 0) (C 0) ∧ l' = .slice (A 1) (N 1) (C 1) ∧ Hid (Fam w4 lo A C N F) := by
  obtain ⟨ao, cap, rfl⟩ := h.len
  obtain ⟨ao', cap', rfl⟩ := h'.len
  have e := nil_iff h hl
  have e' := nil_iff h' hl'
  refine ⟨fun k => if k = 0 then ao else ao', fun k => if k = 0 then cap else cap', fun k => if k = 0 then n else n', fun k => if k = 0 then f else f', ⟨rfl, rfl, rfl, rfl⟩, rfl, rfl, ?_⟩
  intro k hk
  rcases (show k = 0 ∨ k = 1 by omega) with rfl | rfl
  · exact ⟨h, hn, e⟩
  · exact ⟨h', hn', e'⟩

/-- Between two rounds: the lists' block, the rows handed out so far. -/
def Out (w4 wr : World) (A : Nat → Option Addr) (C N : Nat → Nat) (F : Nat → Nat → ByteArray) (k : Nat) : Prop :=
  Below w4.heap.size w4 wr ∧ wr.heap[w4.heap.size]? = some (.cells #[.slice (A 0) (N 0) (C 0), .slice (A 1) (N 1) (C 1)] 48 (0, 0)) ∧ w4.heap.size + 2 ≤ wr.heap.size ∧
    ∃ oc : Array Value, wr.heap[w4.heap.size + 1]? = some (.cells oc 25 (0, 0)) ∧ oc.size = 2 ∧ (∀ j, j < k → ∃ x, oc[j]? = some x ∧ RowsAt (w4.heap.size + 2) wr x (N j) (F j) ∧ (x = .slice none 0 0 ↔ N j = 0)) ∧ ∀ j, k ≤ j → j < 2 → oc[j]? = some (.slice none 0 0)

theorem out_start (w4 : World) (A : Nat → Option Addr) (C N : Nat → Nat) (F : Nat → Nat → ByteArray) :
    Out w4 ((w4.alloc (.cells #[.slice (A 0) (N 0) (C 0), .slice (A 1) (N 1) (C 1)] 48)).alloc (.cells #[.slice none 0 0, .slice none 0 0] 25)) A C N F 0 := by
  refine ⟨((Below.refl _ _).alloc (Nat.le_refl _) _).alloc (by simp) _, ?_, by simp, #[.slice none 0 0, .slice none 0 0], ?_, rfl, fun j hj => absurd hj (by omega), fun j _ hj => ?_⟩
  · rw [Below.heap_alloc _ _ _ (by simp)]; exact heap_alloc_new w4 _
  · have h := heap_alloc_new (w4.alloc (.cells #[.slice (A 0) (N 0) (C 0), .slice (A 1) (N 1) (C 1)] 48)) (.cells #[.slice none 0 0, .slice none 0 0] 25)
    simpa using h
  · rcases (show j = 0 ∨ j = 1 by omega) with rfl | rfl <;> rfl

theorem Out.list {w4 wr : World} {A : Nat → Option Addr} {C N : Nat → Nat} {F : Nat → Nat → ByteArray} {k : Nat} (h : Out w4 wr A C N F k) (j : Nat) (hj : j < 2) : wr.cell? ⟨w4.heap.size, j, none⟩ = some (.slice (A j) (N j) (C j)) := by
  rw [cell_of_row wr _ j _ _ _ h.2.1]
  rcases (show j = 0 ∨ j = 1 by omega) with rfl | rfl <;> rfl

/-- The list was nil: the round leaves all as it is. -/
theorem Out.skip {w4 wr : World} {A : Nat → Option Addr} {C N : Nat → Nat} {F : Nat → Nat → ByteArray} {k : Nat} (h : Out w4 wr A C N F k) (hk : k < 2) (hn : N k = 0) : Out w4 wr A C N F (k + 1) := by
  obtain ⟨h1, h2, h3, oc, h4, h5, h6, h7⟩ := h
  refine ⟨h1, h2, h3, oc, h4, h5, fun j hj => ?_, fun j hj => h7 j (by omega)⟩
  rcases (show j < k ∨ j = k by omega) with hlt | rfl
  · exact h6 j hlt
  · exact ⟨_, h7 j (Nat.le_refl _) hk, by rw [hn]; exact RowsAt.nil _ _ _, by simp [hn]⟩

/-- The out cell of this round, behind a 'make'. -/
theorem Out.cell {w4 wr w1 : World} {A : Nat → Option Addr} {C N : Nat → Nat} {F : Nat → Nat → ByteArray} {k : Nat} (h : Out w4 wr A C N F k) (hk : k < 2) (hg : wr.grownBy w1 none) : w1.cell? ⟨w4.heap.size + 1, k, none⟩ = some (.slice none 0 0) ∧ w1.frozen? ⟨w4.heap.size + 1, k, none⟩ = false := by
  obtain ⟨h1, h2, h3, oc, h4, h5, h6, h7⟩ := h
  have h4' := (hg.block (w4.heap.size + 1) (by omega) (by simp)).trans h4
  exact ⟨(cell_of_row w1 _ k _ _ _ h4').trans (h7 k (Nat.le_refl _) hk), frozen_of_row w1 _ k _ _ h4'⟩

/-- While the rows of round k are filled: W0: the world at the round's head; its next block, g, is being filled; the out cell k holds the new slice. -/
def Mid (w4 W0 wr : World) (k m : Nat) : Prop :=
  W0.heap.size < wr.heap.size ∧ wr.os = W0.os ∧ wr.tape = W0.tape ∧ wr.output = W0.output ∧ (∀ i, i < W0.heap.size → i ≠ w4.heap.size + 1 → wr.heap[i]? = W0.heap[i]?) ∧
    ∀ oc, W0.heap[w4.heap.size + 1]? = some (.cells oc 25 (0, 0)) → wr.heap[w4.heap.size + 1]? = some (.cells (oc.setIfInBounds k (.slice (some ⟨W0.heap.size, 0, none⟩) m m)) 25 (0, 0))

theorem mid_start {w4 W0 w1 : World} {k m : Nat} (hs : w4.heap.size + 2 ≤ W0.heap.size) (hg : W0.grownBy w1 none) (hlt : W0.heap.size < w1.heap.size) : Mid w4 W0 (w1.setCell ⟨w4.heap.size + 1, k, none⟩ (.slice (some ⟨W0.heap.size, 0, none⟩) m m)) k m := by
  refine ⟨by simpa [World.setCell] using hlt, hg.os, hg.tape, hg.output, fun i hi hne => ?_, fun oc hoc => ?_⟩
  · rw [heap_setCell_other w1 ⟨w4.heap.size + 1, k, none⟩ i _ hne]; exact hg.block i hi (by simp)
  · exact heap_setCell_same w1 _ k oc 25 _ ((hg.block _ (by omega) (by simp)).trans hoc)

theorem size4 {w : World} {g o : Nat} {x0 x1 x2 x3 : Value} : ((((w.setCell ⟨g, o, none⟩ x0).setCell ⟨g, o + 1, none⟩ x1).setCell ⟨g, o + 2, none⟩ x2).setCell ⟨g, o + 3, none⟩ x3).heap.size = w.heap.size := by simp [World.setCell]

theorem mid_step {w4 W0 wr : World} {k m o : Nat} (h : Mid w4 W0 wr k m) (hs : w4.heap.size + 2 ≤ W0.heap.size) (ob : Obj) (x0 x1 x2 x3 : Value) :
    Mid w4 W0 (((((wr.setCell ⟨W0.heap.size, o, none⟩ x0).setCell ⟨W0.heap.size, o + 1, none⟩ x1).setCell ⟨W0.heap.size, o + 2, none⟩ x2).setCell ⟨W0.heap.size, o + 3, none⟩ x3).alloc ob) k m := by
  obtain ⟨h1, h2, h3, h4, h5, h6⟩ := h
  refine ⟨by simp [World.setCell]; omega, h2, h3, h4, fun i hi hne => ?_, fun oc hoc => ?_⟩
  · rw [Below.heap_alloc _ _ _ (by rw [size4]; omega), set4_other (by omega)]; exact h5 i hi hne
  · rw [Below.heap_alloc _ _ _ (by rw [size4]; omega), set4_other (by omega)]; exact h6 oc hoc

theorem Mid.drew {w4 W0 wr : World} {k m : Nat} (h : Mid w4 W0 wr k m) : Mid w4 W0 wr.drew k m := ⟨h.1, h.2.1, h.2.2.1, h.2.2.2.1, h.2.2.2.2.1, h.2.2.2.2.2⟩

theorem Mid.cell {w4 W0 wr : World} {k m : Nat} (h : Mid w4 W0 wr k m) {A : Nat → Option Addr} {C N : Nat → Nat} {F : Nat → Nat → ByteArray} (ho : Out w4 W0 A C N F k) (hk : k < 2) : wr.cell? ⟨w4.heap.size + 1, k, none⟩ = some (.slice (some ⟨W0.heap.size, 0, none⟩) m m) := by
  obtain ⟨h1, h2, h3, oc, h4, h5, h6, h7⟩ := ho
  rw [cell_of_row wr _ k _ _ _ (h.2.2.2.2.2 oc h4)]
  simp [h5, hk]

theorem Mid.below {w4 W0 wr : World} {k m : Nat} (h : Mid w4 W0 wr k m) {A : Nat → Option Addr} {C N : Nat → Nat} {F : Nat → Nat → ByteArray} (ho : Out w4 W0 A C N F k) : Below w4.heap.size w4 wr := by
  refine ho.1.trans ⟨h.2.1, h.2.2.1, h.2.2.2.1, Nat.le_of_lt h.1, fun i hi => h.2.2.2.2.1 i (by have := ho.2.2.1; omega) (by omega)⟩

theorem Mid.list {w4 W0 wr : World} {k m : Nat} (h : Mid w4 W0 wr k m) {A : Nat → Option Addr} {C N : Nat → Nat} {F : Nat → Nat → ByteArray} (ho : Out w4 W0 A C N F k) (hk : k < 2) : wr.cell? ⟨w4.heap.size, k, none⟩ = some (.slice (A k) (N k) (C k)) := by
  have e : wr.heap[w4.heap.size]? = W0.heap[w4.heap.size]? := h.2.2.2.2.1 _ (by have := ho.2.2.1; omega) (by omega)
  rw [World.cell?_of_block (w := W0) (w' := wr) e]; exact ho.list k hk

theorem mid_done {w4 W0 wr : World} {k : Nat} {A : Nat → Option Addr} {C N : Nat → Nat} {F : Nat → Nat → ByteArray} (h : Mid w4 W0 wr k (N k)) (ho : Out w4 W0 A C N F k) (hk : k < 2) (hn : N k ≠ 0) (hF : Fill wr W0.heap.size 30 (N k) (N k) (F k)) : Out w4 wr A C N F (k + 1) := by
  have hb := h.below ho
  have hc := h.list ho
  obtain ⟨h1, h2, h3, oc, h4, h5, h6, h7⟩ := ho
  have e : wr.heap[w4.heap.size]? = W0.heap[w4.heap.size]? := h.2.2.2.2.1 _ (by omega) (by omega)
  refine ⟨hb, e.trans h2, by have := h.1; omega, _, h.2.2.2.2.2 oc h4, by simpa using h5, fun j hj => ?_, fun j hj hj2 => ?_⟩
  · rcases (show j < k ∨ j = k by omega) with hlt | rfl
    · obtain ⟨x, e1, e2, e3⟩ := h6 j hlt
      refine ⟨x, ?_, e2.kept (fun i hi1 hi2 => h.2.2.2.2.1 i hi2 (by omega)), e3⟩
      rw [Array.getElem?_setIfInBounds, if_neg (by omega)]; exact e1
    · refine ⟨_, ?_, rows_of_fill hF (by omega), ?_⟩
      · rw [Array.getElem?_setIfInBounds, if_pos rfl, if_pos (by omega)]
      · simp [hn]
  · rw [Array.getElem?_setIfInBounds, if_neg (by omega)]; exact h7 j (by omega) hj2

theorem out_end {w4 wr : World} {A : Nat → Option Addr} {C N : Nat → Nat} {F : Nat → Nat → ByteArray} (h : Out w4 wr A C N F 2) :
    ∃ x y, wr.cell? ⟨w4.heap.size + 1, 0, none⟩ = some x ∧ wr.cell? ⟨w4.heap.size + 1, 1, none⟩ = some y ∧ RowsAt (w4.heap.size + 2) wr x (N 0) (F 0) ∧ RowsAt (w4.heap.size + 2) wr y (N 1) (F 1) ∧
      (x = .slice none 0 0 ↔ N 0 = 0) ∧ (y = .slice none 0 0 ↔ N 1 = 0) ∧ Below w4.heap.size w4 wr := by
  obtain ⟨h1, h2, h3, oc, h4, h5, h6, h7⟩ := h
  obtain ⟨x, x1, x2, x3⟩ := h6 0 (by omega)
  obtain ⟨y, y1, y2, y3⟩ := h6 1 (by omega)
  exact ⟨x, y, (cell_of_row wr _ 0 _ _ _ h4).trans x1, (cell_of_row wr _ 1 _ _ _ h4).trans y1, x2, y2, x3, y3, h1⟩

set_option maxRecDepth 100000 in
set_option maxHeartbeats 4000000 in
theorem zz_any {lo lo' : Nat} (v v' : Value) (n n' : Nat) (f f' : Nat → ByteArray) (w : World) (hv : RowsAt lo w v n f) (hv' : RowsAt lo' w v' n' f') (hn : n ≤ 131072) (hn' : n' ≤ 131072) :
    Calls Try.prog 7 #[v, v'] w fun e w' => ∃ l l', e = .returned (.agg #[l, l']) ∧ RowsAt w.heap.size w' l n f ∧ RowsAt w.heap.size w' l' n' f' ∧ (l = .slice none 0 0 ↔ n = 0) ∧ (l' = .slice none 0 0 ↔ n' = 0) ∧ Below w.heap.size w w' := by
  obtain ⟨ao, cap, b, off, rfl, hnone, hcap, _, hao, hc⟩ := hv
  obtain ⟨ao', cap', b', off', rfl, hnone', hcap', _, hao', hc'⟩ := hv'
  have HC : Hid (∀ k, k < 4 * n → w.cell? ⟨b, off + k, none⟩ = some (.string (f k))) := hc
  have HC' : Hid (∀ k, k < 4 * n' → w.cell? ⟨b', off' + k, none⟩ = some (.string (f' k))) := hc'
  have HA : Hid (0 < n → ao = some ⟨b, off, none⟩) := hao
  have HA' : Hid (0 < n' → ao' = some ⟨b', off', none⟩) := hao'
  have HO : Hid (ao = none → n = 0 ∧ cap = 0) := hnone
  have HO' : Hid (ao' = none → n' = 0 ∧ cap' = 0) := hnone'
  clear hc hc' hao hao' hnone hnone'
  obtain ⟨i44, hi, hz0, hz1, hz2⟩ := info_parts info44
  have q22 : ∀ (w : World) (a : Option Addr) (n c n' c' : Nat), (binOp .neq 22 (.slice a n c) (.slice none n' c')).run Try.prog w = .ok (.bool (!a.isNone)) w := fun w a n c n' c' => run_neq_slice_nil_any w _ _ a n c n' c' Try.underlying22
  go_enter Try.func7, Try.ntmps7
  go_upto_if 16 with fail
  have HS0 : Hid (St w _ _ _) := st_start w
  generalize (w.alloc (.cells #[.slice none 0 0, .slice none 0 0] 25)).alloc (.cells #[.string ⟨#[]⟩, .string ⟨#[]⟩, .string ⟨#[]⟩, .slice none 0 0, .pointer none, .slice none 0 0, .pointer none, .slice none 0 0, .slice none 0 0, .slice none 0 0, .slice none 0 0, .slice none 0 0] 42) = W0 at HS0 ⊢
  go_cut [6] (fun _ wc => ∃ vd, Hid (St w wc vd (.slice none 0 0)) ∧ Hid (RowsAt (w.heap.size + 2) wc vd n f))
  case first =>
    cases ao with
    | none =>
      obtain ⟨rfl, rfl⟩ := HO.out rfl
      go_wp2_with fail
      go_meet
      case rel => exact ⟨_, HS0, RowsAt.nil _ _ _⟩
    | some a =>
      go_wp2_with (at_make; refine wpList_make_full _ rfl (.tmp 19) (.tmp 19) 38 rfl W0.heap.size 44 i44 _ 4 Try.underlying38 hi hz0 hz1 .i64 .i64 _ _ n rfl rfl rfl rfl (by rw [hz2]; omega) (by unfold maxLen; omega) (Nat.le_refl _) ?_; intro w1 hown hgrow; have hS1 := HS0.out.same ((Below.refl _ _).grown hgrow (Nat.le_refl _) (fun _ h => by cases h)); have k9 := hS1.1.nine.1; have z9 := hS1.1.nine.2; have HS1 : Hid (St w w1 (.slice none 0 0) (.slice none 0 0)) := hS1; have HF1 : Hid (Fill w1 W0.heap.size 44 n 0 f) := fill_made hown f; clear hS1 hown hgrow)
      have hG : w.heap.size + 2 ≤ W0.heap.size := HS0.out.2.2.2
      go_loopw [6] (fun i wr => ∃ k : Nat, k ≤ n ∧ i = .int .i64 k ∧ Hid (Fill wr W0.heap.size 44 n k f) ∧ Hid (St w wr (.slice (some ⟨W0.heap.size, 0, none⟩) n n) (.slice none 0 0))) (fun i _ => n - (intOf i).toNat)
      case atStart => exact ⟨0, Nat.zero_le _, rfl, HF1.out.same (heap_setCell_other _ ⟨w.heap.size + 1, 9, none⟩ _ _ (by show W0.heap.size ≠ w.heap.size + 1; omega)), HS1.out.set9 _⟩
      case round =>
        clear HS1 HF1 k9 z9
        obtain ⟨k, hk, rfl, hF, hS⟩ := hrel
        by_cases hlt : k < n
        · cases HA.out (Nat.lt_of_le_of_lt (Nat.zero_le _) hlt)
          obtain ⟨c0, c1, c2, c3⟩ := row4 HC.out hS.out.2.2.1 k hlt
          obtain ⟨x0, x1, x2, x3, d0, d1, d2, d3, z0, z1, z2, z3⟩ := hF.out.there4 k hlt
          have k9 := hS.out.1.nine.1
          have hlt' : (k : Int) < (n : Int) := by omega
          have hbl : b < w.heap.size := World.block_lt_of_cell? w _ (HC.out (4 * k) (by omega))
          have hne1 : W0.heap.size ≠ b := by omega
          have hne2 : W0.heap.size ≠ w.heap.size + 1 := by omega
          clear hbl
          go_wp2
          go_region_held3 (fun w' => w'.cell? ⟨w.heap.size + 1, 9, none⟩ = some (.slice (some ⟨W0.heap.size, 0, none⟩) n n) ∧ w'.cell? ⟨b, off + k * 4, none⟩ = some (.string (f (4 * k))) ∧ w'.cell? ⟨b, off + k * 4 + 1, none⟩ = some (.string (f (4 * k + 1))) ∧ w'.cell? ⟨b, off + k * 4 + 2, none⟩ = some (.string (f (4 * k + 2))) ∧ w'.cell? ⟨b, off + k * 4 + 3, none⟩ = some (.string (f (4 * k + 3)))) (go_keep) (fail)
          go_wp2
          go_roundw
          case rel => exact ⟨k + 1, hlt, step_num k, (fill_step hF.out hlt (Nat.mul_comm _ _) _ _ _ _ rfl rfl rfl rfl).drew, (hS.out.set4 hG _ _ _ _).drew⟩
          case measure => exact step_down n k hlt
        · obtain rfl : k = n := by omega
          go_wp2_with fail
          go_meet
          case rel => exact ⟨_, hS, rows_of_fill hF.out hG⟩
  case rest =>
    clear HS0 HC HA HO hi hz0 hz1 hz2
    obtain ⟨vd, HS0, HR0⟩ := hcut
    obtain ⟨i46, hi, hz0, hz1, hz2⟩ := info_parts info46
    obtain ⟨W1, hW1⟩ : ∃ W1, W1 = wc := ⟨_, rfl⟩
    subst hW1
    go_upto_if 57 with fail
    go_cut [7] (fun _ wc => ∃ vc, Hid (St w wc vd vc) ∧ Hid (RowsAt (w.heap.size + 2) wc vd n f) ∧ Hid (RowsAt (w.heap.size + 2) wc vc n' f'))
    case first =>
      cases ao' with
      | none =>
        obtain ⟨rfl, rfl⟩ := HO'.out rfl
        go_wp2_with fail
        go_meet
        case rel => exact ⟨_, HS0, HR0, RowsAt.nil _ _ _⟩
      | some a =>
        go_wp2_with (at_make; refine wpList_make_full _ rfl (.tmp 60) (.tmp 60) 39 rfl W1.heap.size 46 i46 _ 4 Try.underlying39 hi hz0 hz1 .i64 .i64 _ _ n' rfl rfl rfl rfl (by rw [hz2]; omega) (by unfold maxLen; omega) (Nat.le_refl _) ?_; intro w1 hown hgrow; have hB1 : Below W1.heap.size W1 w1 := (Below.refl _ _).grown hgrow (Nat.le_refl _) (fun _ h => by cases h); have hS1 := HS0.out.same hB1; have k9 := hS1.1.ten.1; have z9 := hS1.1.ten.2; have HS1 : Hid (St w w1 vd (.slice none 0 0)) := hS1; have HF1 : Hid (Fill w1 W1.heap.size 46 n' 0 f') := fill_made hown f'; have HB1 : Hid (Below W1.heap.size W1 w1) := hB1; clear hS1 hown hgrow hB1)
        have hG : w.heap.size + 2 ≤ W1.heap.size := HS0.out.2.2.2
        go_loopw [7] (fun i wr => ∃ k : Nat, k ≤ n' ∧ i = .int .i64 k ∧ Hid (Fill wr W1.heap.size 46 n' k f') ∧ Hid (St w wr vd (.slice (some ⟨W1.heap.size, 0, none⟩) n' n')) ∧ Hid (Kp W1 wr (w.heap.size + 1))) (fun i _ => n' - (intOf i).toNat)
        case atStart => exact ⟨0, Nat.zero_le _, rfl, HF1.out.same (heap_setCell_other _ ⟨w.heap.size + 1, 10, none⟩ _ _ (by show W1.heap.size ≠ w.heap.size + 1; omega)), HS1.out.set10 _, (Kp.ofBelow _ HB1.out).setL _⟩
        case round =>
          clear HS1 HF1 k9 z9 HB1
          obtain ⟨k, hk, rfl, hF, hS, hR⟩ := hrel
          by_cases hlt : k < n'
          · cases HA'.out (Nat.lt_of_le_of_lt (Nat.zero_le _) hlt)
            obtain ⟨c0, c1, c2, c3⟩ := row4 HC'.out hS.out.2.2.1 k hlt
            obtain ⟨x0, x1, x2, x3, d0, d1, d2, d3, z0, z1, z2, z3⟩ := hF.out.there4 k hlt
            have k9 := hS.out.1.ten.1
            have hlt' : (k : Int) < (n' : Int) := by omega
            have hbl : b' < w.heap.size := World.block_lt_of_cell? w _ (HC'.out (4 * k) (by omega))
            have hne1 : W1.heap.size ≠ b' := by omega
            have hne2 : W1.heap.size ≠ w.heap.size + 1 := by omega
            clear hbl
            go_wp2
            go_region_held3 (fun w' => w'.cell? ⟨w.heap.size + 1, 10, none⟩ = some (.slice (some ⟨W1.heap.size, 0, none⟩) n' n') ∧ w'.cell? ⟨b', off' + k * 4, none⟩ = some (.string (f' (4 * k))) ∧ w'.cell? ⟨b', off' + k * 4 + 1, none⟩ = some (.string (f' (4 * k + 1))) ∧ w'.cell? ⟨b', off' + k * 4 + 2, none⟩ = some (.string (f' (4 * k + 2))) ∧ w'.cell? ⟨b', off' + k * 4 + 3, none⟩ = some (.string (f' (4 * k + 3)))) (go_keep) (fail)
            go_wp2
            go_roundw
            case rel => exact ⟨k + 1, hlt, step_num k, (fill_step hF.out hlt (Nat.mul_comm _ _) _ _ _ _ rfl rfl rfl rfl).drew, (hS.out.set4 hG _ _ _ _).drew, (hR.out.set4 (Nat.le_refl _) _ _ _ _).drew⟩
            case measure => exact step_down n' k hlt
          · obtain rfl : k = n' := by omega
            go_wp2_with fail
            go_meet
            case rel => exact ⟨_, hS, hR.out.rows HR0.out (by omega), rows_of_fill hF.out hG⟩
    case rest =>
      clear HS0 HR0 HC' HA' HO' hi hz0 hz1 hz2
      obtain ⟨vc, HS0, HR0, HR1⟩ := hcut
      have HB0 : Hid (Below w.heap.size w wc ∧ w.heap.size + 2 ≤ wc.heap.size) := ⟨HS0.out.2.2.1, HS0.out.2.2.2⟩
      have HB1 : Hid (wc.heap[w.heap.size]? = some (.cells #[.slice none 0 0, .slice none 0 0] 25 (0, 0))) := HS0.out.2.1
      go_wp2_with fail
      refine (recv_any (w.heap.size + 1) vd vc n n' f f' _ HS0.out.1.nine.1 HS0.out.1.ten.1 HR0.out HR1.out hn hn').mono ?_
      clear HS0 HR0 HR1
      rintro e w4 ⟨l, l', rfl, hl, hl', hnl, hnl', hb4⟩
      obtain ⟨A, C, N, F, HE, rfl, rfl, HFam⟩ := fam_of hl hl' hn hn' hnl hnl'
      have HB4 : Hid (Below wc.heap.size wc w4) := hb4
      clear hl hl' hnl hnl' hb4
      have q47 : ∀ (w : World) (a : Option Addr) (n c n' c' : Nat), (binOp .neq 47 (.slice a n c) (.slice none n' c')).run Try.prog w = .ok (.bool (!a.isNone)) w := fun w a n c n' c' => run_neq_slice_nil_any w _ _ a n c n' c' Try.underlying47
      obtain ⟨i30, hi, hz0, hz1, hz2⟩ := info_parts info30
      go_wp2
      have HO : Hid (Out w4 _ A C N F 0) := out_start w4 A C N F
      go_loopw [10] (fun i wr => ∃ k : Nat, k ≤ 2 ∧ i = .int .i64 k ∧ Hid (Out w4 wr A C N F k)) (fun i _ => 2 - (intOf i).toNat)
      case atStart => exact ⟨0, Nat.zero_le _, rfl, HO⟩
      case round =>
        clear HO
        obtain ⟨k, hk, rfl, hO⟩ := hrel
        by_cases hlt : k < 2
        · have lk := hO.out.list k hlt
          have hlt' : (k : Int) < 2 := by omega
          have hfam := HFam.out k hlt
          have hNk : N k ≤ 131072 := hfam.2.1
          obtain ⟨Ak, hAk⟩ : ∃ Ak, Ak = A k := ⟨_, rfl⟩
          obtain ⟨m, hm⟩ : ∃ m, m = N k := ⟨_, rfl⟩
          obtain ⟨ck, hck⟩ : ∃ ck, ck = C k := ⟨_, rfl⟩
          rw [← hAk, ← hm, ← hck] at lk
          rw [← hm] at hNk
          have HAk : Hid (Ak = A k) := hAk
          have Hm : Hid (m = N k) := hm
          have Hck : Hid (ck = C k) := hck
          clear hAk hm hck hfam
          cases Ak with
          | none =>
            have R : Hid (Out w4 wr A C N F (k + 1)) := hO.out.skip hlt ((HFam.out k hlt).2.2.1 HAk.out.symm)
            go_wp2
            go_roundw
            case rel => exact ⟨k + 1, hlt, step_num k, R⟩
            case measure => exact step_down 2 k hlt
          | some a =>
            have hn0 : N k ≠ 0 := fun h => by have := (HFam.out k hlt).2.2.2 h; rw [← HAk.out] at this; cases this
            have hR := (HFam.out k hlt).1
            rw [← HAk.out, ← Hm.out, ← Hck.out] at hR
            obtain ⟨ao, cap, b, off, e1, e2, e3, e4, e5, e6⟩ := hR
            simp only [Value.slice.injEq, true_and] at e1
            obtain ⟨rfl, rfl⟩ := e1
            have hmpos : 0 < m := by rw [Hm.out]; omega
            cases e5 hmpos
            have HC : Hid (∀ j, j < 4 * m → w4.cell? ⟨b, off + j, none⟩ = some (.string (F k j))) := e6
            clear e2 e3 e4 e5 e6
            obtain ⟨W0, hW0⟩ : ∃ W0, W0 = wr := ⟨_, rfl⟩
            subst hW0
            go_wp2_with (at_make; refine wpList_make_full _ rfl (.tmp 111) (.tmp 111) 22 rfl W0.heap.size 30 i30 _ 4 Try.underlying22 hi hz0 hz1 .i64 .i64 _ _ m rfl rfl rfl rfl (by rw [hz2]; omega) (by unfold maxLen; omega) (Nat.le_refl _) ?_; intro w1 hown hgrow; have k9 := (hO.out.cell hlt hgrow).1; have z9 := (hO.out.cell hlt hgrow).2; have HF1 : Hid (Fill w1 W0.heap.size 30 m 0 (F k)) := fill_made hown (F k); have HM1 : Hid (Mid w4 W0 (w1.setCell ⟨w4.heap.size + 1, k, none⟩ (.slice (some ⟨W0.heap.size, 0, none⟩) m m)) k m) := mid_start hO.out.2.2.1 hgrow HF1.out.lt; clear hown hgrow)
            have hG : w4.heap.size + 2 ≤ W0.heap.size := hO.out.2.2.1
            go_loopw [11] (fun i wr => ∃ j : Nat, j ≤ m ∧ i = .int .i64 j ∧ Hid (Fill wr W0.heap.size 30 m j (F k)) ∧ Hid (Mid w4 W0 wr k m)) (fun i _ => m - (intOf i).toNat)
            case atStart => exact ⟨0, Nat.zero_le _, rfl, HF1.out.same (heap_setCell_other _ ⟨w4.heap.size + 1, k, none⟩ _ _ (by show W0.heap.size ≠ w4.heap.size + 1; omega)), HM1⟩
            case round =>
              clear HF1 HM1 k9 z9 lk
              obtain ⟨j, hj, rfl, hF, hM⟩ := hrel
              have lk := hM.out.list hO.out hlt
              rw [← HAk.out, ← Hm.out, ← Hck.out] at lk
              by_cases hjt : j < m
              · obtain ⟨c0, c1, c2, c3⟩ := row4 HC.out (hM.out.below hO.out) j hjt
                obtain ⟨x0, x1, x2, x3, d0, d1, d2, d3, z0, z1, z2, z3⟩ := hF.out.there4 j hjt
                have k9 := hM.out.cell hO.out hlt
                have hjt' : (j : Int) < (m : Int) := by omega
                have hwr : W0.heap.size < wr.heap.size := hM.out.1
                have h9 : w4.heap.size + 1 < wr.heap.size := by omega
                have h9' : w4.heap.size + 1 ≠ W0.heap.size := by omega
                have hne1 : W0.heap.size ≠ wr.heap.size := by omega
                have hne2 : W0.heap.size ≠ w4.heap.size + 1 := by omega
                clear h9'
                go_wp2
                go_region_held3 (fun w' => w'.cell? ⟨w4.heap.size + 1, k, none⟩ = some (.slice (some ⟨W0.heap.size, 0, none⟩) m m) ∧ w'.cell? ⟨wr.heap.size, 0, none⟩ = some (.string (F k (4 * j))) ∧ w'.cell? ⟨wr.heap.size, 1, none⟩ = some (.string (F k (4 * j + 1))) ∧ w'.cell? ⟨wr.heap.size, 2, none⟩ = some (.string (F k (4 * j + 2))) ∧ w'.cell? ⟨wr.heap.size, 3, none⟩ = some (.string (F k (4 * j + 3)))) (first | (go_keep; done) | (refine ⟨?_, ?_, ?_, ?_, ?_⟩ <;> first | (go_keep; done) | (rw [World.cell?_drew, World.cell?_alloc_at _ _ _ _ size4.symm]; rfl))) (fail)
                go_wp2
                go_roundw
                case rel => exact ⟨j + 1, hjt, step_num j, ((fill_step hF.out hjt (Nat.mul_comm _ _) _ _ _ _ rfl rfl rfl rfl).same (Below.heap_alloc _ _ _ (by rw [size4]; exact hwr))).drew, (mid_step hM.out hG _ _ _ _ _).drew⟩
                case measure => exact step_down m j hjt
              · obtain rfl : j = m := by omega
                have R : Hid (Out w4 wr A C N F (k + 1)) := by
                  have hM' := hM.out
                  have hF' := hF.out
                  rw [Hm.out] at hM' hF'
                  exact mid_done hM' hO.out hlt hn0 hF'
                go_wp2
                go_roundw
                case rel => exact ⟨k + 1, hlt, step_num k, R⟩
                case measure => exact step_down 2 k hlt
        · obtain rfl : k = 2 := by omega
          obtain ⟨x, y, l0, l1, hx, hy, nx, ny, hb⟩ := out_end hO.out
          obtain ⟨aox, cpx, rfl⟩ := hx.len
          obtain ⟨aoy, cpy, rfl⟩ := hy.len
          have hR : wr.heap[w.heap.size]? = some (.cells #[.slice none 0 0, .slice none 0 0] 25 (0, 0)) := by
            rw [hb.block _ (by have := HB4.out.size; have := HB0.out.2; omega), HB4.out.block _ (by have := HB0.out.2; omega)]; exact HB1.out
          have r0 : wr.cell? ⟨w.heap.size, 0, none⟩ = some (.slice none 0 0) := cell_of_row wr _ 0 _ _ _ hR
          have r1 : wr.cell? ⟨w.heap.size, 1, none⟩ = some (.slice none 0 0) := cell_of_row wr _ 1 _ _ _ hR
          have z0 : wr.frozen? ⟨w.heap.size, 0, none⟩ = false := frozen_of_row wr _ 0 _ _ hR
          have z1 : wr.frozen? ⟨w.heap.size, 1, none⟩ = false := frozen_of_row wr _ 1 _ _ hR
          have hBig : w.heap.size + 2 ≤ w4.heap.size := by have := HB4.out.size; have := HB0.out.2; omega
          have HX : Hid (RowsAt (w4.heap.size + 2) wr (.slice aox (N 0) cpx) (N 0) (F 0) ∧ RowsAt (w4.heap.size + 2) wr (.slice aoy (N 1) cpy) (N 1) (F 1) ∧ (Value.slice aox (N 0) cpx = .slice none 0 0 ↔ N 0 = 0) ∧ (Value.slice aoy (N 1) cpy = .slice none 0 0 ↔ N 1 = 0)) := ⟨hx, hy, nx, ny⟩
          have HBf : Hid (Below w.heap.size w wr) := (HB0.out.1.trans (HB4.out.mono (by have := HB0.out.2; omega))).trans (hb.mono (by omega))
          clear hx hy nx ny hb hR hO q47 hi hz0 hz1 hz2
          go_wp2
          refine bodyPost_ret (v := .agg #[.slice aox (N 0) cpx, .slice aoy (N 1) cpy]) (by simp [results, Try.results7, go_sem, r0, r1]) rfl ⟨_, _, rfl, ?_, ?_, ?_, ?_, ?_⟩
          · have h := (HX.out.1.kept (w' := (wr.setCell ⟨w.heap.size, 0, none⟩ (.slice aox (N 0) cpx)).setCell ⟨w.heap.size, 1, none⟩ (.slice aoy (N 1) cpy)) (fun i h1 _ => set2_other (by omega))).mono (lo' := w.heap.size) (by omega)
            exact HE.out.1 ▸ HE.out.2.2.1 ▸ h
          · have h := (HX.out.2.1.kept (w' := (wr.setCell ⟨w.heap.size, 0, none⟩ (.slice aox (N 0) cpx)).setCell ⟨w.heap.size, 1, none⟩ (.slice aoy (N 1) cpy)) (fun i h1 _ => set2_other (by omega))).mono (lo' := w.heap.size) (by omega)
            exact HE.out.2.1 ▸ HE.out.2.2.2 ▸ h
          · have h := HX.out.2.2.1; exact HE.out.1 ▸ h
          · have h := HX.out.2.2.2; exact HE.out.2.1 ▸ h
          · exact (HBf.out.setCell (p := ⟨w.heap.size, 0, none⟩) (Nat.le_refl _) _).setCell (p := ⟨w.heap.size, 1, none⟩) (Nat.le_refl _) _

end Go.Proofs.Qxb6612504a.rcv
