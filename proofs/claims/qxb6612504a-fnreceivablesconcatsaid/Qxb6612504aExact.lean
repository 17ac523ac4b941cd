/-
  The walk of FnReceivablesExact (3).
-/
import Derived.Test.Qxb6612504aZz
import Derived.Test.Qxb6612504aBytes
import Derived.Deep.MidRow
namespace Go.Proofs.Qxb6612504a.rcv
open Go.RowKit

/-- The copy's new row. -/
theorem rows_copied {w : World} {g e n cap : Nat} {f : Nat → ByteArray} {lo : Nat} {cur : Array Value} (hg : w.heap[g]? = some (.cells cur e (0, 0))) (hl : lo ≤ g) (hc : n ≤ cap) : RowsAt lo (w.setRow g (flat f n).toArray) (.slice (some ⟨g, 0, none⟩) n cap) n f := by
  refine ⟨some ⟨g, 0, none⟩, cap, g, 0, rfl, fun h => by simp at h, hc, hl, fun _ => rfl, fun k hk => ?_⟩
  rw [Nat.zero_add, cell_of_row _ g k _ e (0, 0) (setRow_heap w g cur _ e _ hg)]
  simpa using flat_get f n k hk

theorem made_row {w : World} {base e g n : Nat} {xs : List Value} (h : w.ownsRow base e 4 (.slice (some ⟨g, 0, none⟩) n n) n xs) : ∃ cur, w.heap[g]? = some (.cells cur e (0, 0)) ∧ cur.size = n * 4 := by
  rcases h.2 with ⟨h', _⟩ | ⟨g', cap', cur, h', _, hg, _, _, hs, _⟩
  · simp at h'
  · simp only [Value.slice.injEq, Option.some.injEq, Addr.mk.injEq, and_true, true_and] at h'
    obtain ⟨rfl, rfl⟩ := h'
    exact ⟨cur, hg, hs⟩

/-- The source of the copy, in a world that has left it as it was. -/
theorem copy_src {w w1 : World} {B n : Nat} {ao : Option Addr} {b off : Nat} {f : Nat → ByteArray} (hao : 0 < n → ao = some ⟨b, off, none⟩) (hc : ∀ k, k < 4 * n → w.cell? ⟨b, off + k, none⟩ = some (.string (f k))) (hb : Below B w w1) (hB : w.heap.size ≤ B) :
    0 < n → ∃ ad, ao = some ad ∧ ∀ j v, (flat f n)[j]? = some v → w1.cell? (ad.add j) = some v := by
  intro hpos
  refine ⟨_, hao hpos, fun j v hj => ?_⟩
  have hlt : j < 4 * n := by have := (List.getElem?_eq_some_iff.1 hj).1; rw [flat_length] at this; omega
  rw [flat_get f n j hlt] at hj
  cases hj
  rw [Addr.add_mid]
  have h := hc j hlt
  exact (hb.cell (by have := World.block_lt_of_cell? w _ h; exact Nat.lt_of_lt_of_le this hB)).trans h

theorem below_drewN' {B : Nat} {a b : World} (h : Below B a b) (m : Nat) : Below B a (b.drewN m) := ⟨h.os, h.tape, h.output, h.size, h.block⟩

theorem size30 : (Try.prog.info? 30).map (·.size) = some 4 := by kernel_rfl

theorem below_drew (w : World) (m : Nat) : Below w.heap.size w (w.drewN m) := ⟨rfl, rfl, rfl, Nat.le_refl _, fun _ _ => rfl⟩

set_option maxRecDepth 100000 in
set_option maxHeartbeats 4000000 in
theorem exact_any {lo lo' : Nat} (v v' : Value) (n n' : Nat) (f f' : Nat → ByteArray) (w : World) (hv : RowsAt lo w v n f) (hv' : RowsAt lo' w v' n' f') (hn : n ≤ 9223372036854775807) (hn' : n' ≤ 9223372036854775807) :
    Calls Try.prog 3 #[v, v'] w fun e w' => e = .returned (.bool true) ∧ Below w.heap.size w w' := by
  obtain ⟨ao, cap, hvs⟩ := hv.len
  obtain ⟨ao', cap', hvs'⟩ := hv'.len
  subst hvs hvs'
  have HV : Hid (RowsAt lo w (.slice ao n cap) n f) := hv
  have HV' : Hid (RowsAt lo' w (.slice ao' n' cap') n' f') := hv'
  clear hv hv'
  obtain ⟨i30, hi, hz0, hz1, hz2⟩ := info_parts info30
  have q22 : ∀ (w : World) (a : Option Addr) (n c n' c' : Nat), (binOp .neq 22 (.slice a n c) (.slice none n' c')).run Try.prog w = .ok (.bool (!a.isNone)) w := fun w a n c n' c' => run_neq_slice_nil_any w _ _ a n c n' c' Try.underlying22
  go_enter Try.func3, Try.ntmps3
  go_wp2_with fail
  refine (bytes5_any _ _ _ _ _ _ _ HV.out HV'.out hn hn').mono ?_
  rintro e w1 ⟨⟨bb, rfl⟩, hw1⟩
  obtain rfl := hw1.symm
  go_wp2_with fail
  any_goals (go_ret; exact ⟨rfl, Below.refl _ _⟩)
  refine (rowsBytes_any _ n f _ HV.out (by omega)).mono ?_
  rintro e w2 ⟨r1, rfl, m1, rfl⟩
  go_wp2_with fail
  refine (rowsBytes_any _ n' f' _ (HV'.out.drewN m1) (by omega)).mono ?_
  rintro e w3 ⟨r2, rfl, m2, rfl⟩
  go_upto_if 27 with fail
  · go_ret
    exact ⟨rfl, below_drew _ _⟩
  rename_i hbig _ _
  clear hbig
  have HB0 : Hid (Below w.heap.size w (w.drewN (m1 + m2))) := below_drew _ _
  have HV2 : Hid (RowsAt 0 w (.slice ao' n' cap') n' f') := HV'.out.mono (Nat.zero_le _)
  have hn1 : n ≤ 65536 := by omega
  have hn2 : n' ≤ 65536 := by omega
  clear hn hn'
  go_cut [0, 5] (fun x _ wc => Hid (RowsAt 0 wc x n f) ∧ Hid (Below w.heap.size w wc))
  case first =>
    obtain ⟨ao1, cap1, b, off, e1, hnone, hcap, _, hao, hc⟩ := HV.out
    simp only [Value.slice.injEq, true_and] at e1
    obtain ⟨rfl, rfl⟩ := e1
    have HA : Hid (0 < n → ao = some ⟨b, off, none⟩) := hao
    have HC : Hid (∀ k, k < 4 * n → w.cell? ⟨b, off + k, none⟩ = some (.string (f k))) := hc
    clear hnone hao hc
    cases ao with
    | none =>
      go_wp2_with fail
      go_meet
      case rel => exact ⟨(HV.out.mono (Nat.zero_le _)).drewN _, HB0⟩
    | some a =>
      go_wp2_with (first
        | (at_make; refine wpList_make_full _ rfl (.tmp 29) (.tmp 29) 22 rfl w.heap.size 30 i30 _ 4 Try.underlying22 hi hz0 hz1 .i64 .i64 _ _ n rfl rfl rfl rfl (by rw [hz2]; omega) (by unfold maxLen; omega) (Nat.le_refl _) ?_; intro w5 hown hgrow; obtain ⟨cur, hcur, hcs⟩ := made_row hown; have HB5 : Hid (Below w.heap.size w w5) := (below_drew w (m1 + m2)).grown hgrow (Nat.le_refl _) (fun _ h => by cases h); have HCUR : Hid (w5.heap[w.heap.size]? = some (.cells cur 30 (0, 0)) ∧ cur.size = n * 4) := ⟨hcur, hcs⟩; clear hown hgrow hcur hcs)
        | (refine wpList_copy_rows rfl (.tmp 31) (.tmp 32) 22 22 rfl 30 4 Try.underlying22 size30 w.heap.size n n (some a) cap rfl rfl cur 30 HCUR.out.1 (flat f n) (flat_length f n) HCUR.out.2 (copy_src HA.out HC.out HB5.out (Nat.le_refl _)) (flat_oneCell f n) ?_))
      go_meet
      case rel => exact ⟨rows_copied HCUR.out.1 (Nat.zero_le _) (Nat.le_refl _), below_setRow HB5.out (Nat.le_refl _) _⟩
  case rest =>
    clear HV HB0
    obtain ⟨HV, HB⟩ := hcut
    obtain ⟨W1, hW1⟩ : ∃ W1, W1 = wc := ⟨_, rfl⟩
    subst hW1
    go_upto_if 36 with fail
    have hle : w.heap.size ≤ W1.heap.size := HB.out.size
    go_cut [1, 6] (fun x _ wc => Hid (RowsAt 0 wc u0 n f) ∧ Hid (RowsAt 0 wc x n' f') ∧ Hid (Below w.heap.size w wc))
    case first =>
      obtain ⟨ao1, cap1, b, off, e1, hnone, hcap, _, hao, hc⟩ := HV2.out
      simp only [Value.slice.injEq, true_and] at e1
      obtain ⟨rfl, rfl⟩ := e1
      have HA : Hid (0 < n' → ao' = some ⟨b, off, none⟩) := hao
      have HC : Hid (∀ k, k < 4 * n' → w.cell? ⟨b, off + k, none⟩ = some (.string (f' k))) := hc
      clear hnone hao hc
      cases ao' with
      | none =>
        go_wp2_with fail
        go_meet
        case rel => exact ⟨HV, HV2.out.below HB.out (Nat.le_refl _), HB⟩
      | some a =>
        go_wp2_with (first
          | (at_make; refine wpList_make_full _ rfl (.tmp 38) (.tmp 38) 22 rfl W1.heap.size 30 i30 _ 4 Try.underlying22 hi hz0 hz1 .i64 .i64 _ _ n' rfl rfl rfl rfl (by rw [hz2]; omega) (by unfold maxLen; omega) (Nat.le_refl _) ?_; intro w5 hown hgrow; obtain ⟨cur, hcur, hcs⟩ := made_row hown; have HB5 : Hid (Below W1.heap.size W1 w5) := (Below.refl _ _).grown hgrow (Nat.le_refl _) (fun _ h => by cases h); have HCUR : Hid (w5.heap[W1.heap.size]? = some (.cells cur 30 (0, 0)) ∧ cur.size = n' * 4) := ⟨hcur, hcs⟩; clear hown hgrow hcur hcs)
          | (refine wpList_copy_rows rfl (.tmp 40) (.tmp 41) 22 22 rfl 30 4 Try.underlying22 size30 W1.heap.size n' n' (some a) cap' rfl rfl cur 30 HCUR.out.1 (flat f' n') (flat_length f' n') HCUR.out.2 (copy_src HA.out HC.out (HB.out.trans (HB5.out.mono hle)) (Nat.le_refl _)) (flat_oneCell f' n') ?_))
        go_meet
        case rel => exact ⟨HV.out.below (below_setRow HB5.out (Nat.le_refl _) _) (Nat.le_refl _), rows_copied HCUR.out.1 (Nat.zero_le _) (Nat.le_refl _), HB.out.trans ((below_setRow HB5.out (Nat.le_refl _) _).mono hle)⟩
    case rest =>
      clear HV HB hle HV2 HV' hi hz0 hz1 hz2
      obtain ⟨HV, HV2, HB⟩ := hcut
      go_wp2_with fail
      refine (zz_any _ _ n n' f f' _ HV.out HV2.out (by omega) (by omega)).mono ?_
      rintro e w4 ⟨l, l', rfl, hl, hl', hnl, hnl', hb4⟩
      obtain ⟨aol, capl, rfl⟩ := hl.len
      obtain ⟨aol', capl', rfl⟩ := hl'.len
      have HL : Hid (RowsAt wc.heap.size w4 (.slice aol n capl) n f ∧ RowsAt wc.heap.size w4 (.slice aol' n' capl') n' f' ∧ (Value.slice aol n capl = .slice none 0 0 ↔ n = 0) ∧ (Value.slice aol' n' capl' = .slice none 0 0 ↔ n' = 0)) := ⟨hl, hl', hnl, hnl'⟩
      have HB4 : Hid (Below wc.heap.size wc w4) := hb4
      clear hl hl' hnl hnl' hb4
      go_wp2_with fail
      have HB5 : Hid (∀ o, Below w4.heap.size w4 (w4.alloc o)) := fun o => (Below.refl _ _).alloc (Nat.le_refl _) o
      refine (sameRows_any _ _ n f _ (HL.out.1.below (HB5.out _) (Nat.le_refl _)) ((HV.out.below HB4.out (Nat.le_refl _)).below (HB5.out _) (Nat.le_refl _)) HL.out.2.2.1 (by omega)).mono ?_
      rintro e w6 ⟨rfl, m3, rfl⟩
      go_wp2_with fail
      refine (sameRows_any _ _ n' f' _ ((HL.out.2.1.below (HB5.out _) (Nat.le_refl _)).drewN m3) (((HV2.out.below HB4.out (Nat.le_refl _)).below (HB5.out _) (Nat.le_refl _)).drewN m3) HL.out.2.2.2 (by omega)).mono ?_
      rintro e w7 ⟨rfl, m4, rfl⟩
      go_wp2_with fail
      go_ret
      exact ⟨rfl, below_drewN' ((HB.out.trans (HB4.out.mono HB.out.size)).alloc (Nat.le_trans HB.out.size HB4.out.size) _) _⟩

end Go.Proofs.Qxb6612504a.rcv
