/-
  The walk of (*bookFile).receivables (11).
-/
import Derived.Test.Qxb6612504aReads
namespace Go.Proofs.Qxb6612504a.rcv
open Go.RowKit

theorem info51 : (Try.prog.info? 51).map (fun i => (i.zero, i.size, i.bytes)) = some (some (.agg #[.string ByteArray.empty, .string ByteArray.empty, .string ByteArray.empty, .string ByteArray.empty]), 4, 64) := by kernel_rfl

/-- What a round of a gathering loop keeps: the block L holds the list v among its cells; v owns the rows gathered so far; of what was there at the loop's start only L has turned. -/
def Inv (w0 wr : World) (L : Nat) (cells : Value → Array Value) (f : Nat → ByteArray) (k : Nat) (v : Value) : Prop :=
  wr.heap[L]? = some (.cells (cells v) 48 (0, 0)) ∧ wr.ownsRow w0.heap.size 51 4 v k (flat f k) ∧ w0.grownBy wr (some L) ∧ (v = .slice none 0 0 ↔ k = 0)

theorem inv_start {w0 : World} {L : Nat} {cells : Value → Array Value} (f : Nat → ByteArray) (h : w0.heap[L]? = some (.cells (cells (.slice none 0 0)) 48 (0, 0))) : Inv w0 w0 L cells f 0 (.slice none 0 0) :=
  ⟨h, World.ownsRow_nil _ _ _ _, World.grownBy.refl _ _, by simp⟩

/-- The list's block behind the append. -/
theorem inv_kept {w0 wr w2 : World} {L : Nat} {cells : Value → Array Value} {f : Nat → ByteArray} {k : Nat} {v : Value} {o1 o2 : Obj} (h : Inv w0 wr L cells f k v) (hL : L < w0.heap.size)
    (hg : ((wr.alloc o1).alloc o2).grownBy w2 v.ownBlock) : w2.heap[L]? = some (.cells (cells v) 48 (0, 0)) := by
  have hs : w0.heap.size ≤ wr.heap.size := h.2.2.1.size
  rw [hg.block L (by simp; omega) (fun e => by have := h.2.1.lt L e.symm; omega), Below.heap_alloc _ _ _ (by simp; omega), Below.heap_alloc _ _ _ (by omega)]
  exact h.1

theorem inv_step {w0 wr w2 : World} {L i : Nat} {cells : Value → Array Value} {f : Nat → ByteArray} {k : Nat} {v v1 : Value} {o1 o2 : Obj} (h : Inv w0 wr L cells f k v) (hL : L < w0.heap.size)
    (hset : (cells v).setIfInBounds i v1 = cells v1)
    (hown : w2.ownsRow w0.heap.size 51 4 v1 (k + 1) (flat f k ++ [.string (f (4 * k)), .string (f (4 * k + 1)), .string (f (4 * k + 2)), .string (f (4 * k + 3))]))
    (hg : ((wr.alloc o1).alloc o2).grownBy w2 v.ownBlock) (hnil : ¬ v1 = .slice none 0 0) : Inv w0 (w2.setCell ⟨L, i, none⟩ v1) L cells f (k + 1) v1 := by
  have hk := inv_kept h hL hg
  have hs : w0.heap.size ≤ wr.heap.size := h.2.2.1.size
  refine ⟨?_, ?_, ?_, ?_⟩
  · rw [heap_setCell_same w2 L i (cells v) 48 v1 hk, hset]
  · rw [flat_succ]
    exact ownsRow_setCell_below hown hL v1
  · refine ⟨hg.os.trans h.2.2.1.os, hg.tape.trans h.2.2.1.tape, hg.output.trans h.2.2.1.output, ?_, fun j hj hne => ?_⟩
    · have := hg.size; simp at this; simp [World.setCell]; omega
    · rw [heap_setCell_other w2 ⟨L, i, none⟩ j v1 (fun e => hne (by simp [e])), hg.block j (by simp; omega) (fun e => by have := h.2.1.lt j e.symm; omega), Below.heap_alloc _ _ _ (by simp; omega), Below.heap_alloc _ _ _ (by omega)]
      exact h.2.2.1.block j hj hne
  · exact ⟨fun h => absurd h hnil, fun h => absurd h (by omega)⟩

/-- The four cells of a new block. -/
theorem news4 (W : World) (t : TypeId) (s0 s1 s2 s3 : ByteArray) : ∀ j u, [Value.string s0, .string s1, .string s2, .string s3][j]? = some u → (W.alloc (.cells #[.string s0, .string s1, .string s2, .string s3] t)).cell? ((⟨W.heap.size, 0, none⟩ : Addr).add j) = some u := by
  intro j u hj
  rw [show (⟨W.heap.size, 0, none⟩ : Addr).add j = ⟨W.heap.size, j, none⟩ by unfold Addr.add; split <;> simp_all, World.cell?_alloc_new]
  simpa using hj

theorem news1 (s0 s1 s2 s3 : ByteArray) : ∀ u ∈ [Value.string s0, .string s1, .string s2, .string s3], u.oneCell' = true := by
  intro u hu
  simp only [List.mem_cons, List.not_mem_nil, or_false] at hu
  rcases hu with rfl | rfl | rfl | rfl <;> rfl

theorem own_shape {w : World} {base e : Nat} {v : Value} {n : Nat} {xs : List Value} (h : w.ownsRow base e 4 v n xs) : ∃ ao cap, v = .slice ao n cap := by
  rcases h.2 with ⟨rfl, rfl⟩ | ⟨g, cap, cur, rfl, _⟩
  · exact ⟨none, 0, rfl⟩
  · exact ⟨_, cap, rfl⟩

theorem Inv.below {w w0 wr : World} {L B : Nat} {cells : Value → Array Value} {f : Nat → ByteArray} {k : Nat} {v : Value} (h : Inv w0 wr L cells f k v) (hb : Below B w w0) (hB : B ≤ w0.heap.size) (hL : B ≤ L) : Below B w wr :=
  hb.grown h.2.2.1 hB (fun j e => by cases e; exact hL)

theorem set2_other {w : World} {g o o' i : Nat} {x y : Value} (h : i ≠ g) : ((w.setCell ⟨g, o, none⟩ x).setCell ⟨g, o', none⟩ y).heap[i]? = w.heap[i]? := by
  rw [heap_setCell_other _ ⟨g, o', none⟩ i y h, heap_setCell_other _ ⟨g, o, none⟩ i x h]

set_option maxHeartbeats 1000000 in
theorem recv_any {lo lo' : Nat} (p : Nat) (v v' : Value) (n n' : Nat) (f f' : Nat → ByteArray) (w : World)
    (h9 : w.cell? ⟨p, 9, none⟩ = some v) (h10 : w.cell? ⟨p, 10, none⟩ = some v')
    (hv : RowsAt lo w v n f) (hv' : RowsAt lo' w v' n' f') (hn : n ≤ 131072) (hn' : n' ≤ 131072) :
    Calls Try.prog 11 #[.pointer (some ⟨p, 0, none⟩)] w fun e w' => ∃ l l', e = .returned (.agg #[l, l']) ∧ RowsAt w.heap.size w' l n f ∧ RowsAt w.heap.size w' l' n' f' ∧ (l = .slice none 0 0 ↔ n = 0) ∧ (l' = .slice none 0 0 ↔ n' = 0) ∧ Below w.heap.size w w' := by
  obtain ⟨ao, cap, b, off, rfl, _, hcap, _, hao, hc⟩ := hv
  obtain ⟨ao', cap', b', off', rfl, _, hcap', _, hao', hc'⟩ := hv'
  have HC : Hid (∀ k, k < 4 * n → w.cell? ⟨b, off + k, none⟩ = some (.string (f k))) := hc
  have HC' : Hid (∀ k, k < 4 * n' → w.cell? ⟨b', off' + k, none⟩ = some (.string (f' k))) := hc'
  have HA : Hid (0 < n → ao = some ⟨b, off, none⟩) := hao
  have HA' : Hid (0 < n' → ao' = some ⟨b', off', none⟩) := hao'
  have H10 : Hid (w.cell? ⟨p, 10, none⟩ = some (.slice ao' n' cap')) := h10
  have hp : p < w.heap.size := World.block_lt_of_cell? w _ h10
  clear hc hc' hao hao' h10
  obtain ⟨i0, hi, hz0, hz1, hz2⟩ := info_parts info51
  go_enter Try.func11, Try.ntmps11
  go_wp2
  obtain ⟨W0, hW0⟩ : ∃ W0, W0 = (w.alloc (.cells #[.slice none 0 0, .slice none 0 0] 48)).alloc (.cells #[.slice none 0 0, .slice none 0 0] 48) := ⟨_, rfl⟩
  rw [← hW0]
  have hsz : W0.heap.size = w.heap.size + 2 := by rw [hW0]; simp
  have hB0 : Below w.heap.size w W0 := by rw [hW0]; exact ((Below.refl _ _).alloc (Nat.le_refl _) _).alloc (by simp) _
  have hL0 : W0.heap[w.heap.size + 1]? = some (.cells #[.slice none 0 0, .slice none 0 0] 48 (0, 0)) := by
    rw [hW0]; have := heap_alloc_new (w.alloc (.cells #[.slice none 0 0, .slice none 0 0] 48)) (.cells #[.slice none 0 0, .slice none 0 0] 48); simpa using this
  have hR0 : W0.heap[w.heap.size]? = some (.cells #[.slice none 0 0, .slice none 0 0] 48 (0, 0)) := by
    rw [hW0, Below.heap_alloc _ _ _ (by simp)]; exact heap_alloc_new w _
  have HI : Hid (Inv W0 W0 (w.heap.size + 1) (fun x => #[x, .slice none 0 0]) f 0 (.slice none 0 0)) := inv_start f hL0
  have HB0 : Hid (Below w.heap.size w W0) := hB0
  have HSZ : Hid (W0.heap.size = w.heap.size + 2) := hsz
  have HR0 : Hid (W0.heap[w.heap.size]? = some (.cells #[.slice none 0 0, .slice none 0 0] 48 (0, 0))) := hR0
  clear hW0 hL0 hR0 hB0 hsz
  go_loopw [13] (fun i wr => ∃ (k : Nat) (x : Value), k ≤ n ∧ i = .int .i64 k ∧ Hid (Inv W0 wr (w.heap.size + 1) (fun x => #[x, .slice none 0 0]) f k x)) (fun i _ => n - (intOf i).toNat)
  case atStart => exact ⟨0, _, Nat.zero_le _, rfl, HI⟩
  case round =>
    obtain ⟨k, x, hk, rfl, hI⟩ := hrel
    have hB := hI.out.below HB0.out (by rw [HSZ.out]; omega) (by omega)
    by_cases hlt : k < n
    · obtain rfl := HA.out (Nat.lt_of_le_of_lt (Nat.zero_le _) hlt)
      obtain ⟨c0, c1, c2, c3⟩ := row4 HC.out hB k hlt
      have hlt' : (k : Int) < (n : Int) := by omega
      have l0 : wr.cell? ⟨w.heap.size + 1, 0, none⟩ = some x := cell_of_row wr _ 0 _ _ _ hI.out.1
      have hlw : w.heap.size + 1 < wr.heap.size := by have := hI.out.2.2.1.size; rw [HSZ.out] at this; omega
      clear hB
      go_wp2_with (at_builtin; refine wpList_append_own _ rfl (.tmp 18) (.tmp 20) 47 rfl W0.heap.size 51 i0 _ 4 64 Try.underlying47 hi hz0 hz1 hz2 rfl (by decide) x k (flat f k) rfl ((hI.out.2.1.alloc _).alloc _) ⟨wr.heap.size + 1, 0, none⟩ 1 1 [.string (f (4 * k)), .string (f (4 * k + 1)), .string (f (4 * k + 2)), .string (f (4 * k + 3))] rfl rfl ?_ (news1 _ _ _ _) ?_ ?_ ?_ ?_)
      · unfold maxLen; omega
      · omega
      · have := hI.out.2.2.1.size; omega
      · intro v1 w2 hown' hgrow hnil'
        have hL : w.heap.size + 1 < W0.heap.size := by rw [HSZ.out]; omega
        have q := inv_kept hI.out hL hgrow
        have q1 : w2.cell? ⟨w.heap.size + 1, 0, none⟩ = some x := cell_of_row w2 _ 0 _ _ _ q
        have q2 : w2.frozen? ⟨w.heap.size + 1, 0, none⟩ = false := frozen_of_row w2 _ 0 _ _ q
        have R : Hid (Inv W0 (w2.setCell ⟨w.heap.size + 1, 0, none⟩ v1) (w.heap.size + 1) (fun x => #[x, .slice none 0 0]) f (k + 1) v1) := inv_step (i := 0) hI.out hL rfl hown' hgrow hnil'
        obtain ⟨ao1, cap1, rfl⟩ := own_shape hown'
        clear q hown' hgrow hnil' hL c0 c1 c2 c3 l0 hI
        go_wp2
        go_roundw
        case rel => exact ⟨k + 1, _, hlt, step_num k, R⟩
        case measure => exact step_down n k hlt
    · obtain rfl : k = n := by omega
      have HL : Hid (wr.heap[w.heap.size + 1]? = some (.cells #[x, .slice none 0 0] 48 (0, 0))) := hI.out.1
      have HX : Hid (RowsAt (w.heap.size + 2) wr x k f) := (rows_of_own hI.out.2.1).mono (by rw [HSZ.out]; omega)
      have HN : Hid (x = .slice none 0 0 ↔ k = 0) := hI.out.2.2.2
      have HR : Hid (wr.heap[w.heap.size]? = some (.cells #[.slice none 0 0, .slice none 0 0] 48 (0, 0))) := (hI.out.2.2.1.block _ (by rw [HSZ.out]; omega) (by simp)).trans HR0.out
      have HB1 : Hid (Below w.heap.size w wr) := hB
      have HS1 : Hid (w.heap.size + 2 ≤ wr.heap.size) := by have := hI.out.2.2.1.size; rw [HSZ.out] at this; exact this
      have h10 : wr.cell? ⟨p, 10, none⟩ = some (.slice ao' n' cap') := (hB.cell (p := ⟨p, 10, none⟩) hp).trans H10.out
      clear hI hB HI HB0 HSZ HR0 HC HA h9 H10
      go_wp2
      obtain ⟨W1, hW1⟩ : ∃ W1, W1 = wr := ⟨_, rfl⟩
      subst hW1
      have HI2 : Hid (Inv W1 W1 (w.heap.size + 1) (fun y => #[x, y]) f' 0 (.slice none 0 0)) := inv_start f' HL.out
      go_loopw [29] (fun i w3 => ∃ (j : Nat) (y : Value), j ≤ n' ∧ i = .int .i64 j ∧ Hid (Inv W1 w3 (w.heap.size + 1) (fun y => #[x, y]) f' j y)) (fun i _ => n' - (intOf i).toNat)
      case atStart => exact ⟨0, _, Nat.zero_le _, rfl, HI2⟩
      case round =>
        clear HI2
        obtain ⟨j, y, hj, rfl, hI⟩ := hrel
        have hB := hI.out.below HB1.out (by have := HS1.out; omega) (by omega)
        by_cases hjt : j < n'
        · obtain rfl := HA'.out (Nat.lt_of_le_of_lt (Nat.zero_le _) hjt)
          obtain ⟨c0, c1, c2, c3⟩ := row4 HC'.out hB j hjt
          have hjt' : (j : Int) < (n' : Int) := by omega
          have l0 : wr.cell? ⟨w.heap.size + 1, 1, none⟩ = some y := cell_of_row wr _ 1 _ _ _ hI.out.1
          have hlw : w.heap.size + 1 < wr.heap.size := by have := hI.out.2.2.1.size; have := HS1.out; omega
          clear hB h10
          go_wp2_with (at_builtin; refine wpList_append_own _ rfl (.tmp 34) (.tmp 36) 47 rfl W1.heap.size 51 i0 _ 4 64 Try.underlying47 hi hz0 hz1 hz2 rfl (by decide) y j (flat f' j) rfl ((hI.out.2.1.alloc _).alloc _) ⟨wr.heap.size + 1, 0, none⟩ 1 1 [.string (f' (4 * j)), .string (f' (4 * j + 1)), .string (f' (4 * j + 2)), .string (f' (4 * j + 3))] rfl rfl ?_ (news1 _ _ _ _) ?_ ?_ ?_ ?_)
          · unfold maxLen; omega
          · omega
          · have := hI.out.2.2.1.size; omega
          · intro v1 w2 hown' hgrow hnil'
            have hL : w.heap.size + 1 < W1.heap.size := by have := HS1.out; omega
            have q := inv_kept hI.out hL hgrow
            have q1 : w2.cell? ⟨w.heap.size + 1, 1, none⟩ = some y := cell_of_row w2 _ 1 _ _ _ q
            have q2 : w2.frozen? ⟨w.heap.size + 1, 1, none⟩ = false := frozen_of_row w2 _ 1 _ _ q
            have R : Hid (Inv W1 (w2.setCell ⟨w.heap.size + 1, 1, none⟩ v1) (w.heap.size + 1) (fun y => #[x, y]) f' (j + 1) v1) := inv_step (i := 1) hI.out hL rfl hown' hgrow hnil'
            obtain ⟨ao1, cap1, rfl⟩ := own_shape hown'
            clear q hown' hgrow hnil' hL c0 c1 c2 c3 l0 hI
            go_wp2
            go_roundw
            case rel => exact ⟨j + 1, _, hjt, step_num j, R⟩
            case measure => exact step_down n' j hjt
        · obtain rfl : j = n' := by omega
          have hxs : RowsAt (w.heap.size + 2) wr x k f := HX.out.kept (fun i h1 h2 => hI.out.2.2.1.block i h2 (by simp; omega))
          have hys : RowsAt (w.heap.size + 2) wr y j f' := (rows_of_own hI.out.2.1).mono HS1.out
          obtain ⟨aox, cpx, hx⟩ := hxs.len
          obtain ⟨aoy, cpy, hy⟩ := hys.len
          subst hx hy
          have l0 : wr.cell? ⟨w.heap.size + 1, 0, none⟩ = some (.slice aox k cpx) := cell_of_row wr _ 0 _ _ _ hI.out.1
          have l1 : wr.cell? ⟨w.heap.size + 1, 1, none⟩ = some (.slice aoy j cpy) := cell_of_row wr _ 1 _ _ _ hI.out.1
          have hR : wr.heap[w.heap.size]? = some (.cells #[.slice none 0 0, .slice none 0 0] 48 (0, 0)) := (hI.out.2.2.1.block _ (by have := HS1.out; omega) (by simp)).trans HR.out
          have r0 : wr.cell? ⟨w.heap.size, 0, none⟩ = some (.slice none 0 0) := cell_of_row wr _ 0 _ _ _ hR
          have r1 : wr.cell? ⟨w.heap.size, 1, none⟩ = some (.slice none 0 0) := cell_of_row wr _ 1 _ _ _ hR
          have z0 : wr.frozen? ⟨w.heap.size, 0, none⟩ = false := frozen_of_row wr _ 0 _ _ hR
          have z1 : wr.frozen? ⟨w.heap.size, 1, none⟩ = false := frozen_of_row wr _ 1 _ _ hR
          have HNy : Hid (Value.slice aoy j cpy = .slice none 0 0 ↔ j = 0) := hI.out.2.2.2
          have Hxs : Hid (RowsAt (w.heap.size + 2) wr (.slice aox k cpx) k f) := hxs
          have Hys : Hid (RowsAt (w.heap.size + 2) wr (.slice aoy j cpy) j f') := hys
          have HB2 : Hid (Below w.heap.size w wr) := hB
          clear hxs hys hR hI hB h10
          go_wp2
          refine bodyPost_ret (v := .agg #[.slice aox k cpx, .slice aoy j cpy]) (by simp [results, Try.results11, go_sem, r0, r1]) rfl ⟨_, _, rfl, ?_, ?_, HN.out, HNy.out, ?_⟩
          · exact (Hxs.out.kept (fun i h1 _ => set2_other (by omega))).mono (by omega)
          · exact (Hys.out.kept (fun i h1 _ => set2_other (by omega))).mono (by omega)
          · exact (HB2.out.setCell (p := ⟨w.heap.size, 0, none⟩) (Nat.le_refl _) _).setCell (p := ⟨w.heap.size, 1, none⟩) (Nat.le_refl _) _

end Go.Proofs.Qxb6612504a.rcv
