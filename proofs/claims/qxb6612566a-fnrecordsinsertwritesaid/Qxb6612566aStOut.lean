/-
  toWrites: the writes as the store holds them.
-/
import Derived.Test.Qxb6612566aStWr
import Derived.Test.Qxb6612566aStMap
namespace Go.Proofs.Qxb6612566a.st
open Go.RowKit

/-- The file z, its holders cloned, in the block b from offset o on; all of it in blocks from lo on. -/
def RecAt (lo : Nat) (w : World) (b o : Nat) (z : ZF) (g : Nat → ByteArray) : Prop :=
  lo ≤ b ∧ ∃ ao cap, FileAt w b o { z with ha := ao, hc := cap } ∧ StrsAt lo w ao z.hl cap g ∧ (ao = none ↔ z.ha = none)

theorem cell_kept {lo : Nat} {w w' : World} (hk : ∀ i, lo ≤ i → i < w.heap.size → w'.heap[i]? = w.heap[i]?) {a : Addr} {x : Value} (hl : lo ≤ a.block) (h : w.cell? a = some x) : w'.cell? a = some x := by
  rw [World.cell?_of_block (w := w) (w' := w') (hk _ hl (World.block_lt_of_cell? w _ h))]; exact h

theorem FileAt.kept {lo : Nat} {w w' : World} {b o : Nat} {z : ZF} (h : FileAt w b o z) (hl : lo ≤ b) (hk : ∀ i, lo ≤ i → i < w.heap.size → w'.heap[i]? = w.heap[i]?) : FileAt w' b o z := by
  obtain ⟨h0, h1, h2, h3, h4, h5, h6, h7, h8, h9, h10⟩ := h
  have c : ∀ {o : Nat} {x : Value}, w.cell? ⟨b, o, none⟩ = some x → w'.cell? ⟨b, o, none⟩ = some x := fun e => cell_kept hk hl e
  exact ⟨c h0, c h1, c h2, c h3, c h4, c h5, c h6, c h7, c h8, c h9, c h10⟩

theorem RecAt.kept {lo : Nat} {w w' : World} {b o : Nat} {z : ZF} {g : Nat → ByteArray} (h : RecAt lo w b o z g) (hk : ∀ i, lo ≤ i → i < w.heap.size → w'.heap[i]? = w.heap[i]?) : RecAt lo w' b o z g := by
  obtain ⟨h0, ao, cap, h1, h2, h3⟩ := h
  exact ⟨h0, ao, cap, h1.kept h0 hk, h2.kept hk, h3⟩
theorem RecAt.mono {lo lo' : Nat} {w : World} {b o : Nat} {z : ZF} {g : Nat → ByteArray} (h : RecAt lo w b o z g) (hl : lo' ≤ lo) : RecAt lo' w b o z g := by
  obtain ⟨h0, ao, cap, h1, h2, h3⟩ := h
  exact ⟨Nat.le_trans hl h0, ao, cap, h1, h2.mono hl, h3⟩

/-- The pointer of a write to the record that it replaced. -/
def PtrOut (lo : Nat) (w : World) (x : ZW) (v : Value) : Prop :=
  (x.rp = none ∧ v = .pointer none) ∨ (x.rp ≠ none ∧ ∃ b, v = .pointer (some ⟨b, 0, none⟩) ∧ RecAt lo w b 0 x.z x.g)

theorem PtrOut.kept {lo : Nat} {w w' : World} {x : ZW} {v : Value} (h : PtrOut lo w x v) (hk : ∀ i, lo ≤ i → i < w.heap.size → w'.heap[i]? = w.heap[i]?) : PtrOut lo w' x v := by
  rcases h with h | ⟨h1, b, h2, h3⟩
  · exact Or.inl h
  · exact Or.inr ⟨h1, b, h2, h3.kept hk⟩
theorem PtrOut.mono {lo lo' : Nat} {w : World} {x : ZW} {v : Value} (h : PtrOut lo w x v) (hl : lo' ≤ lo) : PtrOut lo' w x v := by
  rcases h with h | ⟨h1, b, h2, h3⟩
  · exact Or.inl h
  · exact Or.inr ⟨h1, b, h2, h3.mono hl⟩

/-- The slice of n writes as the store holds them. -/
def OutAt (lo : Nat) (w : World) (v : Value) (n : Nat) (X : Nat → ZW) : Prop :=
  ∃ ao cap b, v = .slice ao n cap ∧ n ≤ cap ∧ (0 < n → ao = some ⟨b, 0, none⟩) ∧ lo ≤ b ∧ ∀ i, i < n → ∃ u, w.cell? ⟨b, i * 3, none⟩ = some (.int .i64 (X i).ver) ∧ w.cell? ⟨b, i * 3 + 1, none⟩ = some (.string (X i).wr) ∧ w.cell? ⟨b, i * 3 + 2, none⟩ = some u ∧ PtrOut lo w (X i) u

theorem OutAt.kept {lo : Nat} {w w' : World} {v : Value} {n : Nat} {X : Nat → ZW} (h : OutAt lo w v n X) (hk : ∀ i, lo ≤ i → i < w.heap.size → w'.heap[i]? = w.heap[i]?) : OutAt lo w' v n X := by
  obtain ⟨ao, cap, b, h1, h2, h3, h4, h5⟩ := h
  refine ⟨ao, cap, b, h1, h2, h3, h4, fun i hi => ?_⟩
  obtain ⟨u, c0, c1, c2, hp⟩ := h5 i hi
  exact ⟨u, cell_kept hk h4 c0, cell_kept hk h4 c1, cell_kept hk h4 c2, hp.kept hk⟩
theorem OutAt.mono {lo lo' : Nat} {w : World} {v : Value} {n : Nat} {X : Nat → ZW} (h : OutAt lo w v n X) (hl : lo' ≤ lo) : OutAt lo' w v n X := by
  obtain ⟨ao, cap, b, h1, h2, h3, h4, h5⟩ := h
  refine ⟨ao, cap, b, h1, h2, h3, Nat.le_trans hl h4, fun i hi => ?_⟩
  obtain ⟨u, c0, c1, c2, hp⟩ := h5 i hi
  exact ⟨u, c0, c1, c2, hp.mono hl⟩

theorem info85 : (Try.prog.info? 85).map (fun i => (i.zero, i.size, i.bytes)) = some (some (.agg #[.int .i64 0, .string ByteArray.empty, .pointer none]), 3, 32) := by kernel_rfl

/-- The block B of N writes, whose first k are filled. -/
def FillW (w : World) (B N k : Nat) (X : Nat → ZW) : Prop :=
  ∃ cur : Array Value, w.heap[B]? = some (.cells cur 85 (0, 0)) ∧ cur.size = N * 3 ∧ ∀ c, c < k → ∃ u, cur[c * 3]? = some (.int .i64 (X c).ver) ∧ cur[c * 3 + 1]? = some (.string (X c).wr) ∧ cur[c * 3 + 2]? = some u ∧ PtrOut (B + 1) w (X c) u

theorem fillW_made {w : World} {base g n : Nat} {xs : List Value} (h : w.ownsRow base 85 3 (.slice (some ⟨g, 0, none⟩) n n) n xs) (X : Nat → ZW) : FillW w g n 0 X := by
  rcases h.2 with ⟨h', _⟩ | ⟨g', cap', cur, h', _, hg, _, _, hs, _⟩
  · simp at h'
  · simp only [Value.slice.injEq, Option.some.injEq, Addr.mk.injEq, and_true, true_and] at h'
    obtain ⟨rfl, rfl⟩ := h'
    exact ⟨cur, hg, by omega, fun c hc => absurd hc (by omega)⟩

theorem FillW.there {w : World} {B N k : Nat} {X : Nat → ZW} (h : FillW w B N k X) (c : Nat) (hc : c < N * 3) : (∃ v, w.cell? ⟨B, c, none⟩ = some v) ∧ w.frozen? ⟨B, c, none⟩ = false := by
  obtain ⟨cur, h1, h2, h3⟩ := h
  refine ⟨⟨cur[c]'(by omega), ?_⟩, frozen_of_row w B c cur 85 h1⟩
  rw [cell_of_row w B c cur 85 (0, 0) h1]
  exact Array.getElem?_eq_getElem (by omega)

theorem FillW.over {w w' : World} {B N k : Nat} {X : Nat → ZW} (h : FillW w B N k X) (hb : Below w.heap.size w w') : FillW w' B N k X := by
  obtain ⟨cur, h1, h2, h3⟩ := h
  have hB : B < w.heap.size := by
    rcases Nat.lt_or_ge B w.heap.size with h | h
    · exact h
    · simp [Array.getElem?_eq_none h] at h1
  refine ⟨cur, (hb.block B hB).trans h1, h2, fun c hc => ?_⟩
  obtain ⟨u, c0, c1, c2, hp⟩ := h3 c hc
  exact ⟨u, c0, c1, c2, hp.kept fun i _ hi => hb.block i hi⟩

theorem fillW_step {w w' : World} {B N k : Nat} {X : Nat → ZW} {u : Value} (h : FillW w B N k X) (hk : k < N)
    (hrow : ∀ cur, w.heap[B]? = some (.cells cur 85 (0, 0)) → w'.heap[B]? = some (.cells (((cur.setIfInBounds (k * 3) (.int .i64 (X k).ver)).setIfInBounds (k * 3 + 1) (.string (X k).wr)).setIfInBounds (k * 3 + 2) u) 85 (0, 0)))
    (hkeep : ∀ i, B + 1 ≤ i → i < w.heap.size → w'.heap[i]? = w.heap[i]?) (hu : PtrOut (B + 1) w' (X k) u) : FillW w' B N (k + 1) X := by
  obtain ⟨cur, h1, h2, h3⟩ := h
  refine ⟨_, hrow cur h1, by simpa using h2, fun c hc => ?_⟩
  rcases (show c < k ∨ c = k by omega) with h' | rfl
  · obtain ⟨v, c0, c1, c2, hp⟩ := h3 c h'
    refine ⟨v, ?_, ?_, ?_, hp.kept hkeep⟩
    · rw [Array.getElem?_setIfInBounds, if_neg (by omega), Array.getElem?_setIfInBounds, if_neg (by omega), Array.getElem?_setIfInBounds, if_neg (by omega)]; exact c0
    · rw [Array.getElem?_setIfInBounds, if_neg (by omega), Array.getElem?_setIfInBounds, if_neg (by omega), Array.getElem?_setIfInBounds, if_neg (by omega)]; exact c1
    · rw [Array.getElem?_setIfInBounds, if_neg (by omega), Array.getElem?_setIfInBounds, if_neg (by omega), Array.getElem?_setIfInBounds, if_neg (by omega)]; exact c2
  · refine ⟨u, ?_, ?_, ?_, hu⟩
    · rw [Array.getElem?_setIfInBounds, if_neg (by omega), Array.getElem?_setIfInBounds, if_neg (by omega), Array.getElem?_setIfInBounds, if_pos rfl, if_pos (by omega)]
    · rw [Array.getElem?_setIfInBounds, if_neg (by omega), Array.getElem?_setIfInBounds, if_pos rfl, if_pos (by simp; omega)]
    · rw [Array.getElem?_setIfInBounds, if_pos rfl, if_pos (by simp; omega)]

/-- The three stores of a round. -/
theorem set3_row {w : World} {B k : Nat} {x y u : Value} {o : Obj} {cur : Array Value} (h : w.heap[B]? = some (.cells cur 85 (0, 0))) :
    ((((w.setCell ⟨B, k * 3, none⟩ x).setCell ⟨B, k * 3 + 1, none⟩ y).setCell ⟨B, k * 3 + 2, none⟩ u).alloc o).heap[B]? = some (.cells (((cur.setIfInBounds (k * 3) x).setIfInBounds (k * 3 + 1) y).setIfInBounds (k * 3 + 2) u) 85 (0, 0)) := by
  have h3 := heap_setCell_same _ B (k * 3 + 2) _ 85 u (heap_setCell_same _ B (k * 3 + 1) _ 85 y (heap_setCell_same w B (k * 3) cur 85 x h))
  rw [Below.heap_alloc _ _ _ ?_]
  · exact h3
  · rcases Nat.lt_or_ge B (((w.setCell ⟨B, k * 3, none⟩ x).setCell ⟨B, k * 3 + 1, none⟩ y).setCell ⟨B, k * 3 + 2, none⟩ u).heap.size with h' | h'
    · exact h'
    · simp [Array.getElem?_eq_none h'] at h3
theorem set3_other {w : World} {B k i : Nat} {x y u : Value} (h : i ≠ B) : (((w.setCell ⟨B, k * 3, none⟩ x).setCell ⟨B, k * 3 + 1, none⟩ y).setCell ⟨B, k * 3 + 2, none⟩ u).heap[i]? = w.heap[i]? := by
  rw [heap_setCell_other _ ⟨B, k * 3 + 2, none⟩ i u h, heap_setCell_other _ ⟨B, k * 3 + 1, none⟩ i _ h, heap_setCell_other _ ⟨B, k * 3, none⟩ i _ h]
theorem set3_size {w : World} {B k : Nat} {x y u : Value} : (((w.setCell ⟨B, k * 3, none⟩ x).setCell ⟨B, k * 3 + 1, none⟩ y).setCell ⟨B, k * 3 + 2, none⟩ u).heap.size = w.heap.size := by simp [World.setCell]
theorem set3_below {w0 w : World} {C B k : Nat} {x y u : Value} (o : Obj) (h : Below C w0 w) (hB : C ≤ B) (hC : C ≤ w.heap.size) : Below C w0 ((((w.setCell ⟨B, k * 3, none⟩ x).setCell ⟨B, k * 3 + 1, none⟩ y).setCell ⟨B, k * 3 + 2, none⟩ u).alloc o) :=
  (((h.setCell (p := ⟨B, k * 3, none⟩) hB _).setCell (p := ⟨B, k * 3 + 1, none⟩) hB _).setCell (p := ⟨B, k * 3 + 2, none⟩) hB _).alloc (by rw [set3_size]; exact hC) o

theorem out_of_fill {w : World} {B n : Nat} {X : Nat → ZW} (h : FillW w B n n X) : OutAt B w (.slice (some ⟨B, 0, none⟩) n n) n X := by
  obtain ⟨cur, h1, h2, h3⟩ := h
  refine ⟨_, n, B, rfl, Nat.le_refl _, fun _ => rfl, Nat.le_refl _, fun i hi => ?_⟩
  obtain ⟨u, c0, c1, c2, hp⟩ := h3 i hi
  exact ⟨u, by rw [cell_of_row w B _ cur 85 (0, 0) h1]; exact c0, by rw [cell_of_row w B _ cur 85 (0, 0) h1]; exact c1, by rw [cell_of_row w B _ cur 85 (0, 0) h1]; exact c2, hp.mono (by omega)⟩

theorem out_nil (w : World) (X : Nat → ZW) (lo : Nat) : OutAt lo w (.slice none 0 0) 0 X := ⟨none, 0, lo, rfl, Nat.le_refl _, fun h => absurd h (by omega), Nat.le_refl _, fun i hi => absurd hi (by omega)⟩

/-- A file in a new block. -/
theorem file_new (w : World) (z : ZF) (t : TypeId) : FileAt (w.alloc (.cells #[.string z.nm, .int .i64 z.sz, .string z.sha, .string z.md, .int .i64 z.rep, .slice z.ha z.hl z.hc, .int .i64 z.ver, .int .i64 z.ep, .int .i64 z.rem, .bool z.ptr, .bool z.dam] t)) w.heap.size 0 z := by
  have c1 : ∀ j, (w.alloc (.cells #[.string z.nm, .int .i64 z.sz, .string z.sha, .string z.md, .int .i64 z.rep, .slice z.ha z.hl z.hc, .int .i64 z.ver, .int .i64 z.ep, .int .i64 z.rem, .bool z.ptr, .bool z.dam] t)).cell? ⟨w.heap.size, j, none⟩ = (#[.string z.nm, .int .i64 z.sz, .string z.sha, .string z.md, .int .i64 z.rep, .slice z.ha z.hl z.hc, .int .i64 z.ver, .int .i64 z.ep, .int .i64 z.rem, .bool z.ptr, .bool z.dam] : Array Value)[j]? := fun j => cell_of_row _ _ j _ _ _ (heap_alloc_new w _)
  exact ⟨c1 0, c1 1, c1 2, c1 3, c1 4, c1 5, c1 6, c1 7, c1 8, c1 9, c1 10⟩

theorem rec_new {w4 w5 : World} {lo L : Nat} {z : ZF} {g : Nat → ByteArray} {ao : Option Addr} {cap : Nat} (hsz : w4.heap.size = w5.heap.size) (hk : ∀ i, L ≤ i → i < w5.heap.size → w4.heap[i]? = w5.heap[i]?) (hs : StrsAt L w5 ao z.hl cap g) (hn : ao = none ↔ z.ha = none) (hB : lo ≤ L) (hL : L ≤ w5.heap.size) :
    RecAt lo (w4.alloc (.cells #[.string z.nm, .int .i64 z.sz, .string z.sha, .string z.md, .int .i64 z.rep, .slice ao z.hl cap, .int .i64 z.ver, .int .i64 z.ep, .int .i64 z.rem, .bool z.ptr, .bool z.dam] 52)) w5.heap.size 0 z g := by
  refine ⟨by omega, ao, cap, ?_, ?_, hn⟩
  · rw [← hsz]; exact file_new w4 { z with ha := ao, hc := cap } 52
  · exact ((hs.kept hk).over ((Below.refl w4.heap.size w4).alloc (Nat.le_refl _) _) (Nat.le_refl _)).mono hB

set_option maxRecDepth 100000 in
set_option maxHeartbeats 4000000 in
theorem toWrites_any (ao : Option Addr) (n cap : Nat) (X : Nat → ZW) (w : World) (hv : WritesAt w ao n cap X) (hn : n ≤ 65537) (hx : ∀ i, i < n → Few (X i)) :
    Calls Try.prog 15 #[.slice ao n cap] w fun e w' => ∃ v, e = .returned v ∧ OutAt w.heap.size w' v n X ∧ Below w.heap.size w w' := by
  obtain ⟨hnone, hcap, b, off, hao, hc, hs⟩ := hv
  have HA : Hid (0 < n → ao = some ⟨b, off, none⟩) := hao
  have HC : Hid (∀ i, i < n → WriteAt w b (off + i * 3) (X i)) := hc
  have HS : Hid (∀ i, i < n → RepAt w (X i)) := hs
  have HX : Hid (∀ i, i < n → Few (X i)) := hx
  clear hao hc hs hx
  obtain ⟨i0, hi, hz0, hz1, hz2⟩ := info_parts info85
  have q32 : ∀ (w : World) (a : Option Addr) (n c n' c' : Nat), (binOp .eql 32 (.slice a n c) (.slice none n' c')).run Try.prog w = .ok (.bool a.isNone) w := fun w a n c n' c' => Lib.run_eql_slice_nil w _ _ a n c n' c' Try.underlying32
  cases ao with
  | none =>
    obtain ⟨rfl, rfl⟩ := hnone rfl
    go_enter Try.func15, Try.ntmps15
    go_wp2
    go_ret
    exact ⟨_, rfl, out_nil _ _ _, Below.refl _ _⟩
  | some a =>
    clear hnone
    go_enter Try.func15, Try.ntmps15
    go_wp2_with (at_make; refine wpList_make_full _ rfl (.tmp 10) (.tmp 10) 40 rfl w.heap.size 85 i0 _ 3 Try.underlying40 hi hz0 hz1 .i64 .i64 _ _ n rfl rfl rfl rfl (by rw [hz2]; omega) (by unfold maxLen; omega) (Nat.le_refl _) ?_; intro w1 hown hgrow)
    have HF : Hid (FillW w1 w.heap.size n 0 X) := fillW_made hown X
    have HB : Hid (Below w.heap.size w w1) := (Below.refl _ _).grown hgrow (Nat.le_refl _) (fun _ h => by cases h)
    clear hown hgrow
    go_loopw [4] (fun i wr => ∃ k : Nat, k ≤ n ∧ i = .int .i64 k ∧ Hid (FillW wr w.heap.size n k X) ∧ Hid (Below w.heap.size w wr)) (fun i _ => n - (intOf i).toNat)
    case atStart => exact ⟨0, Nat.zero_le _, rfl, HF, HB⟩
    case round =>
      clear HF HB
      obtain ⟨k, hk, rfl, hF, hB⟩ := hrel
      by_cases hlt : k < n
      · cases HA.out (Nat.lt_of_le_of_lt (Nat.zero_le _) hlt)
        obtain ⟨c0, c1, c2⟩ := (HC.out k hlt).over hB.out (Nat.le_refl _)
        have hlt' : (k : Int) < (n : Int) := by omega
        have hbl : b < wr.heap.size := World.block_lt_of_cell? wr _ c0
        have hrep := (HS.out k hlt).over hB.out (Nat.le_refl _)
        have hBs := hB.out.size
        have hwl : w.heap.size < wr.heap.size := by
          obtain ⟨⟨x0, d0⟩, _⟩ := hF.out.there (k * 3) (by omega)
          exact World.block_lt_of_cell? wr _ d0
        rcases hrep with hno | ⟨b4, o4, hyes, hf4, hst4⟩
        · rw [hno] at c2
          obtain ⟨⟨x0, d0⟩, z0⟩ := hF.out.there (k * 3) (by omega)
          obtain ⟨⟨x1, d1⟩, z1⟩ := hF.out.there (k * 3 + 1) (by omega)
          obtain ⟨⟨x2, d2⟩, z2⟩ := hF.out.there (k * 3 + 2) (by omega)
          go_wp2
          go_roundw
          case rel =>
            refine ⟨k + 1, hlt, step_num k, fillW_step hF.out hlt (fun cur h => set3_row h) (fun i h1 h2 => ?_) (Or.inl ⟨hno, rfl⟩), set3_below _ hB.out (Nat.le_refl _) hBs⟩
            rw [Below.heap_alloc _ _ _ (by rw [set3_size]; exact h2)]
            exact set3_other (by omega)
          case measure => exact step_down n k hlt
        · rw [hyes] at c2
          have hfew : (X k).z.hl ≤ 65536 := by rcases HX.out k hlt with h | h; (rw [hyes] at h; cases h); exact h
          obtain ⟨f0, f1, f2, f3, f4, f5, f6, f7, f8, f9, f10⟩ := hf4
          have hbl4 : b4 < wr.heap.size := World.block_lt_of_cell? wr _ f0
          go_wp2_with fail
          refine (toFile_any (X k).z (X k).g _ (hst4.over ((Below.refl wr.heap.size wr).alloc (Nat.le_refl _) _) (Nat.le_refl _)) hfew).mono ?_
          rintro e w5 ⟨ao5, cap5, rfl, hs5, hn5, hb5⟩
          have hrow : w5.heap[wr.heap.size]? = some (.cells #[.int .i64 (X k).ver, .string (X k).wr, .pointer none] 85 (0, 0)) := (hb5.block wr.heap.size (by simp)).trans (heap_alloc_new wr _)
          have k0 : w5.cell? ⟨wr.heap.size, 0, none⟩ = some (.int .i64 (X k).ver) := cell_of_row w5 _ 0 _ _ _ hrow
          have k1 : w5.cell? ⟨wr.heap.size, 1, none⟩ = some (.string (X k).wr) := cell_of_row w5 _ 1 _ _ _ hrow
          have k2 : w5.cell? ⟨wr.heap.size, 2, none⟩ = some (.pointer none) := cell_of_row w5 _ 2 _ _ _ hrow
          have kz : w5.frozen? ⟨wr.heap.size, 2, none⟩ = false := frozen_of_row w5 _ 2 _ _ hrow
          have h5s : wr.heap.size + 1 ≤ w5.heap.size := by have := hb5.size; simp at this; omega
          have hb6 : Below wr.heap.size wr w5 := ((Below.refl wr.heap.size wr).alloc (Nat.le_refl _) _).trans (hb5.mono (by simp))
          have HF5 : Hid (FillW w5 w.heap.size n k X) := hF.out.over hb6
          have HS5 : Hid (StrsAt (wr.heap.size + 1) w5 ao5 (X k).z.hl cap5 (X k).g) := hs5.mono (by simp)
          have HN5 : Hid (ao5 = none ↔ (X k).z.ha = none) := hn5
          have HB6 : Hid (Below w.heap.size w w5) := hB.out.trans (hb6.mono hBs)
          obtain ⟨⟨x0, d0⟩, z0⟩ := HF5.out.there (k * 3) (by omega)
          obtain ⟨⟨x1, d1⟩, z1⟩ := HF5.out.there (k * 3 + 1) (by omega)
          obtain ⟨⟨x2, d2⟩, z2⟩ := HF5.out.there (k * 3 + 2) (by omega)
          have hne : w.heap.size ≠ wr.heap.size := by omega
          have hlt5 : w.heap.size < w5.heap.size := by omega
          have hltq : wr.heap.size < w5.heap.size := by omega
          have HX5 : Hid (Below wr.heap.size wr w5) := hb6
          clear hs5 hn5 hb5 hrow hb6 f0 f1 f2 f3 f4 f5 f6 f7 f8 f9 f10 c0 c1 c2 hst4
          go_wp2
          go_roundw
          case rel =>
            have hsz : (w5.setCell ⟨wr.heap.size, 2, none⟩ (.pointer (some ⟨w5.heap.size, 0, none⟩))).heap.size = w5.heap.size := by simp [World.setCell]
            refine ⟨k + 1, hlt, step_num k, fillW_step hF.out hlt (fun cur h => set3_row ?_) (fun i h1 h2 => ?_) (Or.inr ⟨by rw [hyes]; simp, w5.heap.size, rfl, rec_new (by rw [set3_size, hsz]) (fun i h1 h2 => ?_) HS5.out HN5.out (by omega) h5s⟩), set3_below _ (HB6.out.setCell (p := ⟨wr.heap.size, 2, none⟩) hBs _) (Nat.le_refl _) (by rw [hsz]; omega)⟩
            · rw [heap_setCell_other w5 ⟨wr.heap.size, 2, none⟩ _ _ hne]
              exact (HX5.out.block _ hwl).trans h
            · rw [Below.heap_alloc _ _ _ (by rw [set3_size, hsz]; omega), set3_other (by omega), heap_setCell_other w5 ⟨wr.heap.size, 2, none⟩ _ _ (by show i ≠ wr.heap.size; omega)]
              exact HX5.out.block _ h2
            · rw [set3_other (by omega), heap_setCell_other w5 ⟨wr.heap.size, 2, none⟩ _ _ (by show i ≠ wr.heap.size; omega)]
          case measure => exact step_down n k hlt
      · obtain rfl : k = n := by omega
        go_wp2
        go_ret
        exact ⟨_, rfl, out_of_fill hF.out, hB.out⟩

end Go.Proofs.Qxb6612566a.st
