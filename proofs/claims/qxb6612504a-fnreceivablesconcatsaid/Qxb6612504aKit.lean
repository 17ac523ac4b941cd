/-
  Rows of four strings in memory: what is read (RowsAt), what is being filled (Fill); 'copy' of whole rows.
-/
import Derived.Test.Qxb6612504aRows
import Derived.WalkKit
import Derived.ProofKit
import Derived.WalkSpells
import Derived.Laws.CopyOwn
import Derived.Deep.QuietTactic
import Derived.BigQuiet
namespace Go.Proofs.Qxb6612504a.rcv
open Go.RowKit

/-- The slice value v holds n rows of four strings, in a block from number lo on; flat: cell k holds 'f k'. -/
def RowsAt (lo : Nat) (w : World) (v : Value) (n : Nat) (f : Nat → ByteArray) : Prop :=
  ∃ (ao : Option Addr) (cap b off : Nat), v = .slice ao n cap ∧ (ao = none → n = 0 ∧ cap = 0) ∧ n ≤ cap ∧ lo ≤ b ∧ (0 < n → ao = some ⟨b, off, none⟩) ∧ ∀ k, k < 4 * n → w.cell? ⟨b, off + k, none⟩ = some (.string (f k))

theorem RowsAt.nil (lo : Nat) (w : World) (f : Nat → ByteArray) : RowsAt lo w (.slice none 0 0) 0 f :=
  ⟨none, 0, lo, 0, rfl, fun _ => ⟨rfl, rfl⟩, Nat.le_refl _, Nat.le_refl _, fun h => absurd h (by omega), fun k hk => absurd hk (by omega)⟩

theorem RowsAt.congr {lo : Nat} {w : World} {v : Value} {n : Nat} {f g : Nat → ByteArray} (h : RowsAt lo w v n f) (e : ∀ k, k < 4 * n → f k = g k) : RowsAt lo w v n g := by
  obtain ⟨ao, cap, b, off, h1, h2, h3, h4, h5, h6⟩ := h
  exact ⟨ao, cap, b, off, h1, h2, h3, h4, h5, fun k hk => by rw [h6 k hk, e k hk]⟩

theorem RowsAt.mono {lo lo' : Nat} {w : World} {v : Value} {n : Nat} {f : Nat → ByteArray} (h : RowsAt lo w v n f) (hl : lo' ≤ lo) : RowsAt lo' w v n f := by
  obtain ⟨ao, cap, b, off, h1, h2, h3, h4, h5, h6⟩ := h
  exact ⟨ao, cap, b, off, h1, h2, h3, by omega, h5, h6⟩

/-- What was there stays, behind whatever turns no block that was there (but blocks below lo). -/
theorem RowsAt.kept {lo : Nat} {w w' : World} {v : Value} {n : Nat} {f : Nat → ByteArray} (h : RowsAt lo w v n f) (hk : ∀ i, lo ≤ i → i < w.heap.size → w'.heap[i]? = w.heap[i]?) : RowsAt lo w' v n f := by
  obtain ⟨ao, cap, b, off, h1, h2, h3, h4, h5, h6⟩ := h
  refine ⟨ao, cap, b, off, h1, h2, h3, h4, h5, fun k hk' => ?_⟩
  have h := h6 k hk'
  rw [World.cell?_of_block (w := w) (w' := w') (hk _ h4 (World.block_lt_of_cell? w _ h))]
  exact h

theorem RowsAt.below {lo B : Nat} {w w' : World} {v : Value} {n : Nat} {f : Nat → ByteArray} (h : RowsAt lo w v n f) (hb : Below B w w') (hB : w.heap.size ≤ B) : RowsAt lo w' v n f :=
  h.kept fun i _ hi => hb.block i (by omega)

theorem RowsAt.drewN {lo : Nat} {w : World} {v : Value} {n : Nat} {f : Nat → ByteArray} (h : RowsAt lo w v n f) (m : Nat) : RowsAt lo (w.drewN m) v n f := h

theorem RowsAt.len {lo : Nat} {w : World} {v : Value} {n : Nat} {f : Nat → ByteArray} (h : RowsAt lo w v n f) : ∃ ao cap, v = .slice ao n cap := by
  obtain ⟨ao, cap, b, off, h1, _⟩ := h; exact ⟨ao, cap, h1⟩

theorem at4 {w : World} {b off n : Nat} {f : Nat → ByteArray} (h : ∀ k, k < 4 * n → w.cell? ⟨b, off + k, none⟩ = some (.string (f k))) (i j : Nat) (hi : i < n) (hj : j < 4) :
    w.cell? ⟨b, off + i * 4 + j, none⟩ = some (.string (f (4 * i + j))) := by
  rw [show off + i * 4 + j = off + (4 * i + j) by omega]; exact h _ (by omega)

/-- Row i's four cells, in a world that has left what was there as it was. -/
theorem row4 {w wr : World} {b off n : Nat} {f : Nat → ByteArray} (h : ∀ k, k < 4 * n → w.cell? ⟨b, off + k, none⟩ = some (.string (f k))) (hB : Below w.heap.size w wr) (i : Nat) (hi : i < n) :
    wr.cell? ⟨b, off + i * 4, none⟩ = some (.string (f (4 * i))) ∧ wr.cell? ⟨b, off + i * 4 + 1, none⟩ = some (.string (f (4 * i + 1))) ∧ wr.cell? ⟨b, off + i * 4 + 2, none⟩ = some (.string (f (4 * i + 2))) ∧ wr.cell? ⟨b, off + i * 4 + 3, none⟩ = some (.string (f (4 * i + 3))) := by
  have g : ∀ {a : Addr} {x : Value}, w.cell? a = some x → wr.cell? a = some x := fun {a} {x} e => (hB.cell (World.block_lt_of_cell? w a e)).trans e
  exact ⟨g (at4 h i 0 hi (by omega)), g (at4 h i 1 hi (by omega)), g (at4 h i 2 hi (by omega)), g (at4 h i 3 hi (by omega))⟩

/-- The block g, of N rows, whose first k rows are filled by F. -/
def Fill (w : World) (g e N k : Nat) (F : Nat → ByteArray) : Prop :=
  ∃ cur : Array Value, w.heap[g]? = some (.cells cur e (0, 0)) ∧ cur.size = 4 * N ∧ ∀ c, c < 4 * k → cur[c]? = some (.string (F c))

theorem Fill.same {w w' : World} {g e N k : Nat} {F : Nat → ByteArray} (h : Fill w g e N k F) (hh : w'.heap[g]? = w.heap[g]?) : Fill w' g e N k F := by
  obtain ⟨cur, h1, h2, h3⟩ := h
  exact ⟨cur, hh.trans h1, h2, h3⟩

theorem Fill.lt {w : World} {g e N k : Nat} {F : Nat → ByteArray} (h : Fill w g e N k F) : g < w.heap.size := by
  obtain ⟨cur, h1, h2, h3⟩ := h
  exact (Array.getElem?_eq_some_iff.1 h1).1

theorem fill_made {w : World} {base e g n : Nat} {xs : List Value} (h : w.ownsRow base e 4 (.slice (some ⟨g, 0, none⟩) n n) n xs) (F : Nat → ByteArray) : Fill w g e n 0 F := by
  rcases h.2 with ⟨h', _⟩ | ⟨g', cap', cur, h', _, hg, _, _, hs, _⟩
  · simp at h'
  · simp only [Value.slice.injEq, Option.some.injEq, Addr.mk.injEq, and_true, true_and] at h'
    obtain ⟨rfl, rfl⟩ := h'
    exact ⟨cur, hg, by omega, fun c hc => absurd hc (by omega)⟩

/-- The cells that a store of row k meets. -/
theorem Fill.there {w : World} {g e N k : Nat} {F : Nat → ByteArray} (h : Fill w g e N k F) (c : Nat) (hc : c < 4 * N) : (∃ v, w.cell? ⟨g, c, none⟩ = some v) ∧ w.frozen? ⟨g, c, none⟩ = false := by
  obtain ⟨cur, h1, h2, h3⟩ := h
  refine ⟨⟨cur[c]'(by omega), ?_⟩, frozen_of_row w g c cur e h1⟩
  rw [cell_of_row w g c cur e (0, 0) h1]
  exact Array.getElem?_eq_getElem (by omega)

/-- .. at the four cells of one row. -/
theorem Fill.there4 {w : World} {g e N k : Nat} {F : Nat → ByteArray} (h : Fill w g e N k F) (i : Nat) (hi : i < N) :
    ∃ x0 x1 x2 x3, w.cell? ⟨g, i * 4, none⟩ = some x0 ∧ w.cell? ⟨g, i * 4 + 1, none⟩ = some x1 ∧ w.cell? ⟨g, i * 4 + 2, none⟩ = some x2 ∧ w.cell? ⟨g, i * 4 + 3, none⟩ = some x3 ∧
      w.frozen? ⟨g, i * 4, none⟩ = false ∧ w.frozen? ⟨g, i * 4 + 1, none⟩ = false ∧ w.frozen? ⟨g, i * 4 + 2, none⟩ = false ∧ w.frozen? ⟨g, i * 4 + 3, none⟩ = false := by
  obtain ⟨⟨x0, d0⟩, z0⟩ := h.there (i * 4) (by omega)
  obtain ⟨⟨x1, d1⟩, z1⟩ := h.there (i * 4 + 1) (by omega)
  obtain ⟨⟨x2, d2⟩, z2⟩ := h.there (i * 4 + 2) (by omega)
  obtain ⟨⟨x3, d3⟩, z3⟩ := h.there (i * 4 + 3) (by omega)
  exact ⟨x0, x1, x2, x3, d0, d1, d2, d3, z0, z1, z2, z3⟩

theorem fill_step {w : World} {g e N k o : Nat} {F : Nat → ByteArray} (h : Fill w g e N k F) (hk : k < N) (ho : o = 4 * k) (s0 s1 s2 s3 : ByteArray) (e0 : s0 = F (4 * k)) (e1 : s1 = F (4 * k + 1)) (e2 : s2 = F (4 * k + 2)) (e3 : s3 = F (4 * k + 3)) :
    Fill ((((w.setCell ⟨g, o, none⟩ (.string s0)).setCell ⟨g, o + 1, none⟩ (.string s1)).setCell ⟨g, o + 2, none⟩ (.string s2)).setCell ⟨g, o + 3, none⟩ (.string s3)) g e N (k + 1) F := by
  obtain ⟨cur, h1, h2, h3⟩ := h
  subst ho
  have a0 := heap_setCell_same w g (4 * k) cur e (.string s0) h1
  have a1 := heap_setCell_same _ g (4 * k + 1) _ e (.string s1) a0
  have a2 := heap_setCell_same _ g (4 * k + 2) _ e (.string s2) a1
  have a3 := heap_setCell_same _ g (4 * k + 3) _ e (.string s3) a2
  refine ⟨_, a3, by simpa using h2, fun c hc => ?_⟩
  subst e0 e1 e2 e3
  simp only [Array.getElem?_setIfInBounds, Array.size_setIfInBounds, h2]
  rcases Nat.lt_or_ge c (4 * k) with hlt | hge
  · rw [if_neg (by omega), if_neg (by omega), if_neg (by omega), if_neg (by omega)]; exact h3 c hlt
  · rcases (show c = 4 * k ∨ c = 4 * k + 1 ∨ c = 4 * k + 2 ∨ c = 4 * k + 3 by omega) with rfl | rfl | rfl | rfl
    · rw [if_neg (by omega), if_neg (by omega), if_neg (by omega), if_pos rfl, if_pos (by omega)]
    · rw [if_neg (by omega), if_neg (by omega), if_pos rfl, if_pos (by omega)]
    · rw [if_neg (by omega), if_pos rfl, if_pos (by omega)]
    · rw [if_pos rfl, if_pos (by omega)]

theorem below4 {B : Nat} {w wr : World} {g o : Nat} (h : Below B w wr) (hg : B ≤ g) (x0 x1 x2 x3 : Value) :
    Below B w ((((wr.setCell ⟨g, o, none⟩ x0).setCell ⟨g, o + 1, none⟩ x1).setCell ⟨g, o + 2, none⟩ x2).setCell ⟨g, o + 3, none⟩ x3) :=
  (((h.setCell (p := ⟨g, o, none⟩) hg x0).setCell (p := ⟨g, o + 1, none⟩) hg x1).setCell (p := ⟨g, o + 2, none⟩) hg x2).setCell (p := ⟨g, o + 3, none⟩) hg x3

theorem rows_of_fill {w : World} {lo g e n : Nat} {F : Nat → ByteArray} (h : Fill w g e n n F) (hl : lo ≤ g) : RowsAt lo w (.slice (some ⟨g, 0, none⟩) n n) n F := by
  obtain ⟨cur, h1, h2, h3⟩ := h
  refine ⟨some ⟨g, 0, none⟩, n, g, 0, rfl, fun h => by simp at h, Nat.le_refl _, hl, fun _ => rfl, fun k hk => ?_⟩
  rw [Nat.zero_add, cell_of_row w g k cur e (0, 0) h1]
  exact h3 k hk

/-- n rows, flat, as values. -/
def flat (F : Nat → ByteArray) (n : Nat) : List Value := (List.range (4 * n)).map fun k => .string (F k)

theorem flat_zero (F : Nat → ByteArray) : flat F 0 = [] := rfl
theorem flat_length (F : Nat → ByteArray) (n : Nat) : (flat F n).length = n * 4 := by unfold flat; simp; omega
theorem flat_get (F : Nat → ByteArray) (n k : Nat) (h : k < 4 * n) : (flat F n)[k]? = some (.string (F k)) := by unfold flat; simp [h]
theorem flat_oneCell (F : Nat → ByteArray) (n : Nat) : ∀ v ∈ flat F n, v.oneCell' = true := by
  intro v hv; unfold flat at hv; rw [List.mem_map] at hv; obtain ⟨k, _, rfl⟩ := hv; rfl
theorem flat_succ (F : Nat → ByteArray) (n : Nat) : flat F (n + 1) = flat F n ++ [.string (F (4 * n)), .string (F (4 * n + 1)), .string (F (4 * n + 2)), .string (F (4 * n + 3))] := by
  unfold flat
  rw [show 4 * (n + 1) = 4 * n + 1 + 1 + 1 + 1 by omega, List.range_succ, List.range_succ, List.range_succ, List.range_succ]
  simp

theorem rows_of_own {w : World} {lo e n : Nat} {v : Value} {F : Nat → ByteArray} (h : w.ownsRow lo e 4 v n (flat F n)) : RowsAt lo w v n F := by
  rcases h.2 with ⟨rfl, rfl⟩ | ⟨g, cap, cur, rfl, hb, hg, hnc, _, hs, ht⟩
  · exact RowsAt.nil lo w F
  · refine ⟨some ⟨g, 0, none⟩, cap, g, 0, rfl, fun h => by simp at h, hnc, hb, fun _ => rfl, fun k hk => ?_⟩
    rw [Nat.zero_add, cell_of_row w g k cur e (0, 0) hg]
    have := flat_get F n k hk
    rw [← ht, List.getElem?_take, if_pos (by omega)] at this
    simpa using this

/-- 'copy' of n whole elements into a row of just that many. -/
theorem run_copy_rows {P : Program} (w : World) (dT sT ty elem : TypeId) (sz g n dCap : Nat) (sp : Option Addr) (sCap : Nat) (cur : Array Value) (t : TypeId) (cs : List Value)
    (hu : P.underlying dT = some (.slice elem)) (hs : (P.info? elem).map (·.size) = some sz)
    (hg : w.heap[g]? = some (.cells cur t (0, 0))) (hn : cs.length = n * sz) (hcur : cur.size = n * sz)
    (hsrc : 0 < n → ∃ a, sp = some a ∧ ∀ j v, cs[j]? = some v → w.cell? (a.add j) = some v) (h1 : ∀ v ∈ cs, v.oneCell' = true) :
    (Builtin.copy_ #[dT, sT] ty #[.slice (some ⟨g, 0, none⟩) n dCap, .slice sp n sCap]).run P w = .ok (goInt n) (w.setRow g cs.toArray) := by
  cases hq : P.info? elem with
  | none => simp [hq] at hs
  | some i =>
    have hi : i.size = sz := by simpa [hq] using hs
    have hst := run_storeCells_at P g 0 t cs 0 cur w hg (by omega) h1
    have hrow : (cur.toList.take (0 + 0) ++ cs ++ cur.toList.drop (0 + 0 + cs.length)).toArray = cs.toArray := by
      rw [List.drop_eq_nil_of_le (by simp; omega)]; simp
    rw [hrow] at hst
    rcases Nat.eq_zero_or_pos n with rfl | hpos
    · obtain rfl : cs = [] := List.eq_nil_of_length_eq_zero (by simpa using hn)
      have hc0 : cur = #[] := Array.eq_empty_of_size_eq_zero (by simpa using hcur)
      subst hc0
      have hw : w.setRow g #[] = w := setRow_self w g #[] t (0, 0) hg
      cases sp with
      | none => simp [Builtin.copy_, run_underlying hu, Builtin.lenOf, Builtin.firstCells, sizeOf, typeInfo, hq, storeCells, hw]
      | some a =>
        have hl := run_loadCells_list (P := P) w a [] (fun j v h => by simp at h)
        simp only [List.length_nil] at hl
        simp [Builtin.copy_, run_underlying hu, Builtin.lenOf, Builtin.firstCells, sizeOf, typeInfo, hq, hl, storeCells, hw]
    · obtain ⟨a, rfl, hsrc'⟩ := hsrc hpos
      have hl := run_loadCells_list (P := P) w a cs hsrc'
      rw [hn] at hl
      simp [Builtin.copy_, run_underlying hu, Builtin.lenOf, Builtin.firstCells, sizeOf, typeInfo, hq, hi, hl, hst]

theorem wpList_copy_rows {P : Program} {w : World} {ops : Array Oper} {rest : List Oper} {o : Oper} {a : Act} {Q : Exit → Act → World → Prop} (hgd : o.guard = none) (d s : Operand) (dT sT : TypeId)
    (ho : o.op = .call { callee := .builtin .copy, args := #[d, s], argTypes := #[dT, sT] }) (elem : TypeId) (sz : Nat) (hu : P.underlying dT = some (.slice elem)) (hs : (P.info? elem).map (·.size) = some sz)
    (g n dCap : Nat) (sp : Option Addr) (sCap : Nat) (hd : a.eval d = .slice (some ⟨g, 0, none⟩) n dCap) (hse : a.eval s = .slice sp n sCap)
    (cur : Array Value) (t : TypeId) (hg : w.heap[g]? = some (.cells cur t (0, 0))) (cs : List Value) (hn : cs.length = n * sz) (hcur : cur.size = n * sz)
    (hsrc : 0 < n → ∃ ad, sp = some ad ∧ ∀ j v, cs[j]? = some v → w.cell? (ad.add j) = some v) (h1 : ∀ v ∈ cs, v.oneCell' = true)
    (h : wpList P ops Q rest (a.put o.dst (goInt n)) (w.setRow g cs.toArray)) : wpList P ops Q (o :: rest) a w := by
  refine wpList_plain hgd fun K hK => ?_
  have hrun := run_copy_rows (P := P) w dT sT o.type elem sz g n dCap sp sCap cur t cs hu hs hg hn hcur hsrc h1
  unfold Oper.wp
  simp [execOp, ho, resolve, invoke, builtin, hd, hse, hrun, Result.andThen]
  exact hK _ _ h

end Go.Proofs.Qxb6612504a.rcv
