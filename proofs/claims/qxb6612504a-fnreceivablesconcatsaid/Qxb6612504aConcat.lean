/-
  The walk of FnReceivablesConcat (4).
-/
import Derived.Test.Qxb6612504aExact
import Derived.Test.Qxb6612504aBytes4
import Derived.Test.Qxb6612504aCat
namespace Go.Proofs.Qxb6612504a.rcv
open Go.RowKit
attribute [local go_sem ↓] Go.wp_at_zero Go.wp_at_succ

theorem pair_cells (w : World) (x y : Value) (t : TypeId) {w' : World} (hb : Below (w.alloc (.cells #[x, y] t)).heap.size (w.alloc (.cells #[x, y] t)) w') : w'.cell? ⟨w.heap.size, 0, none⟩ = some x ∧ w'.cell? ⟨w.heap.size, 1, none⟩ = some y := by
  have h := (hb.block w.heap.size (by simp)).trans (heap_alloc_new w _)
  exact ⟨cell_of_row w' _ 0 _ _ _ h, cell_of_row w' _ 1 _ _ _ h⟩

theorem cell_over {B : Nat} {w w' : World} {a : Addr} {x : Value} (hb : Below B w w') (hB : w.heap.size ≤ B) (h : w.cell? a = some x) : w'.cell? a = some x :=
  (hb.cell (Nat.lt_of_lt_of_le (World.block_lt_of_cell? w a h) hB)).trans h

theorem below_chain {B m : Nat} {w W6 w7 w8 : World} (h : Below B w W6) (h1 : Below W6.drew.heap.size W6.drew w7) (h2 : Below (w7.drewN m).heap.size (w7.drewN m) w8) (hB : B = w.heap.size := by rfl) : Below B w w8 := by
  have s0 : w.heap.size ≤ W6.heap.size := h.size
  have s1 : W6.heap.size ≤ w7.heap.size := h1.size
  refine ((h.drew).trans (h1.mono (by show B ≤ W6.heap.size; omega))).trans ?_
  exact (below_drewN' (Below.refl _ _) m).trans (h2.mono (by show B ≤ w7.heap.size; omega))

/-- The six lists, read in one world. -/
def Good (w : World) (l0 l1 p0 p1 q0 q1 : Value) (n0 n1 n2 n3 : Nat) (f0 f1 f2 f3 : Nat → ByteArray) : Prop :=
  RowsAt 0 w l0 (n0 + n1) (catf n0 f0 f1) ∧ RowsAt 0 w l1 (n2 + n3) (catf n2 f2 f3) ∧ RowsAt 0 w p0 n0 f0 ∧ RowsAt 0 w p1 n3 f3 ∧ RowsAt 0 w q0 n1 f1 ∧ RowsAt 0 w q1 n2 f2

theorem held_kept {w w' : World} {A0 A1 A2 A3 A4 A5 : Addr} {l0 l1 p0 p1 q0 q1 : Value} {n0 n1 n2 n3 : Nat} {f0 f1 f2 f3 : Nat → ByteArray} (hb : Below w.heap.size w w')
    (h : w.cell? A0 = some l0 ∧ w.cell? A1 = some l1 ∧ w.cell? A2 = some p0 ∧ w.cell? A3 = some p1 ∧ w.cell? A4 = some q0 ∧ w.cell? A5 = some q1 ∧ Good w l0 l1 p0 p1 q0 q1 n0 n1 n2 n3 f0 f1 f2 f3) :
    w'.cell? A0 = some l0 ∧ w'.cell? A1 = some l1 ∧ w'.cell? A2 = some p0 ∧ w'.cell? A3 = some p1 ∧ w'.cell? A4 = some q0 ∧ w'.cell? A5 = some q1 ∧ Good w' l0 l1 p0 p1 q0 q1 n0 n1 n2 n3 f0 f1 f2 f3 := by
  obtain ⟨h0, h1, h2, h3, h4, h5, g0, g1, g2, g3, g4, g5⟩ := h
  have c : ∀ {a : Addr} {x : Value}, w.cell? a = some x → w'.cell? a = some x := fun e => cell_over hb (Nat.le_refl _) e
  have r : ∀ {v : Value} {n : Nat} {f : Nat → ByteArray}, RowsAt 0 w v n f → RowsAt 0 w' v n f := fun e => e.below hb (Nat.le_refl _)
  exact ⟨c h0, c h1, c h2, c h3, c h4, c h5, r g0, r g1, r g2, r g3, r g4, r g5⟩

theorem held_drewN {w : World} {m : Nat} {A0 A1 A2 A3 A4 A5 : Addr} {l0 l1 p0 p1 q0 q1 : Value} {n0 n1 n2 n3 : Nat} {f0 f1 f2 f3 : Nat → ByteArray}
    (h : w.cell? A0 = some l0 ∧ w.cell? A1 = some l1 ∧ w.cell? A2 = some p0 ∧ w.cell? A3 = some p1 ∧ w.cell? A4 = some q0 ∧ w.cell? A5 = some q1 ∧ Good w l0 l1 p0 p1 q0 q1 n0 n1 n2 n3 f0 f1 f2 f3) :
    (w.drewN m).cell? A0 = some l0 ∧ (w.drewN m).cell? A1 = some l1 ∧ (w.drewN m).cell? A2 = some p0 ∧ (w.drewN m).cell? A3 = some p1 ∧ (w.drewN m).cell? A4 = some q0 ∧ (w.drewN m).cell? A5 = some q1 ∧ Good (w.drewN m) l0 l1 p0 p1 q0 q1 n0 n1 n2 n3 f0 f1 f2 f3 :=
  held_kept (below_drew w m) h

theorem held_drew {w : World} {A0 A1 A2 A3 A4 A5 : Addr} {l0 l1 p0 p1 q0 q1 : Value} {n0 n1 n2 n3 : Nat} {f0 f1 f2 f3 : Nat → ByteArray}
    (h : w.cell? A0 = some l0 ∧ w.cell? A1 = some l1 ∧ w.cell? A2 = some p0 ∧ w.cell? A3 = some p1 ∧ w.cell? A4 = some q0 ∧ w.cell? A5 = some q1 ∧ Good w l0 l1 p0 p1 q0 q1 n0 n1 n2 n3 f0 f1 f2 f3) :
    w.drew.cell? A0 = some l0 ∧ w.drew.cell? A1 = some l1 ∧ w.drew.cell? A2 = some p0 ∧ w.drew.cell? A3 = some p1 ∧ w.drew.cell? A4 = some q0 ∧ w.drew.cell? A5 = some q1 ∧ Good w.drew l0 l1 p0 p1 q0 q1 n0 n1 n2 n3 f0 f1 f2 f3 :=
  held_kept (Below.drew (Below.refl _ _)) h

theorem cat_held0 {w : World} {k0 k1 k2 k3 k4 k5 : Prop} {l0 l1 p0 p1 q0 q1 : Value} {n0 n1 n2 n3 : Nat} {f0 f1 f2 f3 : Nat → ByteArray} (h : k0 ∧ k1 ∧ k2 ∧ k3 ∧ k4 ∧ k5 ∧ Good w l0 l1 p0 p1 q0 q1 n0 n1 n2 n3 f0 f1 f2 f3) (b0 : n0 ≤ 65536) (b1 : n1 ≤ 65536) :
    Calls Try.prog 10 #[p0, q0] w fun e w' => ∃ vo, e = .returned vo ∧ RowsAt 0 w' vo (n0 + n1) (catf n0 f0 f1) ∧ Below w.heap.size w w' := by
  refine (cat_any p0 q0 n0 n1 f0 f1 w h.2.2.2.2.2.2.2.2.1 h.2.2.2.2.2.2.2.2.2.2.1 (by omega) (by omega)).mono ?_
  rintro e w' ⟨vo, he, hr, _, hb⟩
  exact ⟨vo, he, hr.mono (Nat.zero_le _), hb⟩

theorem cat_held1 {w : World} {k0 k1 k2 k3 k4 k5 : Prop} {l0 l1 p0 p1 q0 q1 : Value} {n0 n1 n2 n3 : Nat} {f0 f1 f2 f3 : Nat → ByteArray} (h : k0 ∧ k1 ∧ k2 ∧ k3 ∧ k4 ∧ k5 ∧ Good w l0 l1 p0 p1 q0 q1 n0 n1 n2 n3 f0 f1 f2 f3) (b2 : n2 ≤ 65536) (b3 : n3 ≤ 65536) :
    Calls Try.prog 10 #[q1, p1] w fun e w' => ∃ vo, e = .returned vo ∧ RowsAt 0 w' vo (n2 + n3) (catf n2 f2 f3) ∧ Below w.heap.size w w' := by
  refine (cat_any q1 p1 n2 n3 f2 f3 w h.2.2.2.2.2.2.2.2.2.2.2 h.2.2.2.2.2.2.2.2.2.1 (by omega) (by omega)).mono ?_
  rintro e w' ⟨vo, he, hr, _, hb⟩
  exact ⟨vo, he, hr.mono (Nat.zero_le _), hb⟩

theorem same_held0 {w : World} {k0 k1 k2 k3 k4 k5 : Prop} {l0 l1 p0 p1 q0 q1 vo : Value} {n0 n1 n2 n3 : Nat} {f0 f1 f2 f3 : Nat → ByteArray} (h : k0 ∧ k1 ∧ k2 ∧ k3 ∧ k4 ∧ k5 ∧ Good w l0 l1 p0 p1 q0 q1 n0 n1 n2 n3 f0 f1 f2 f3) (ho : RowsAt 0 w vo (n0 + n1) (catf n0 f0 f1)) (hl : l0 = .slice none 0 0 ↔ n0 + n1 = 0) (b0 : n0 ≤ 65536) (b1 : n1 ≤ 65536) :
    Calls Try.prog 8 #[l0, vo] w fun e w' => e = .returned (.bool true) ∧ ∃ m, w' = w.drewN m :=
  sameRows_any l0 vo (n0 + n1) (catf n0 f0 f1) w h.2.2.2.2.2.2.1 ho hl (by omega)

theorem same_held1 {w : World} {k0 k1 k2 k3 k4 k5 : Prop} {l0 l1 p0 p1 q0 q1 vo : Value} {n0 n1 n2 n3 : Nat} {f0 f1 f2 f3 : Nat → ByteArray} (h : k0 ∧ k1 ∧ k2 ∧ k3 ∧ k4 ∧ k5 ∧ Good w l0 l1 p0 p1 q0 q1 n0 n1 n2 n3 f0 f1 f2 f3) (ho : RowsAt 0 w vo (n2 + n3) (catf n2 f2 f3)) (hl : l1 = .slice none 0 0 ↔ n2 + n3 = 0) (b2 : n2 ≤ 65536) (b3 : n3 ≤ 65536) :
    Calls Try.prog 8 #[l1, vo] w fun e w' => e = .returned (.bool true) ∧ ∃ m, w' = w.drewN m :=
  sameRows_any l1 vo (n2 + n3) (catf n2 f2 f3) w h.2.2.2.2.2.2.2.1 ho hl (by omega)

set_option maxRecDepth 100000 in
set_option maxHeartbeats 8000000 in
theorem concat_any {lo0 lo1 lo2 lo3 : Nat} (v0 v1 v2 v3 : Value) (n0 n1 n2 n3 : Nat) (f0 f1 f2 f3 : Nat → ByteArray) (w : World) (hv0 : RowsAt lo0 w v0 n0 f0) (hv1 : RowsAt lo1 w v1 n1 f1) (hv2 : RowsAt lo2 w v2 n2 f2) (hv3 : RowsAt lo3 w v3 n3 f3)
    (hn0 : n0 ≤ 9223372036854775807) (hn1 : n1 ≤ 9223372036854775807) (hn2 : n2 ≤ 9223372036854775807) (hn3 : n3 ≤ 9223372036854775807) :
    Calls Try.prog 4 #[v0, v1, v2, v3] w fun e w' => e = .returned (.bool true) ∧ Below w.heap.size w w' := by
  obtain ⟨ao0, cap0, hvs0⟩ := hv0.len
  obtain ⟨ao1, cap1, hvs1⟩ := hv1.len
  obtain ⟨ao2, cap2, hvs2⟩ := hv2.len
  obtain ⟨ao3, cap3, hvs3⟩ := hv3.len
  subst hvs0 hvs1 hvs2 hvs3
  have HV0 : Hid (RowsAt 0 w (.slice ao0 n0 cap0) n0 f0) := hv0.mono (Nat.zero_le _)
  have HV1 : Hid (RowsAt 0 w (.slice ao1 n1 cap1) n1 f1) := hv1.mono (Nat.zero_le _)
  have HV2 : Hid (RowsAt 0 w (.slice ao2 n2 cap2) n2 f2) := hv2.mono (Nat.zero_le _)
  have HV3 : Hid (RowsAt 0 w (.slice ao3 n3 cap3) n3 f3) := hv3.mono (Nat.zero_le _)
  clear hv0 hv1 hv2 hv3
  obtain ⟨i30, hi, hz0, hz1, hz2⟩ := info_parts info30
  have q22 : ∀ (w : World) (a : Option Addr) (n c n' c' : Nat), (binOp .neq 22 (.slice a n c) (.slice none n' c')).run Try.prog w = .ok (.bool (!a.isNone)) w := fun w a n c n' c' => run_neq_slice_nil_any w _ _ a n c n' c' Try.underlying22
  go_enter Try.func4, Try.ntmps4
  go_wp2_with fail
  refine (bytes9_any _ _ _ _ _ _ _ _ _ _ _ _ _ HV0.out HV1.out HV2.out HV3.out hn0 hn1 hn2 hn3).mono ?_
  rintro e w1 ⟨⟨bb, rfl⟩, hw1⟩
  obtain rfl := hw1.symm
  go_wp2_with fail
  any_goals (go_ret; exact ⟨rfl, Below.refl _ _⟩)
  refine (rowsBytes_any _ n0 f0 _ HV0.out (by omega)).mono ?_
  rintro e w2 ⟨r1, rfl, m1, rfl⟩
  go_wp2_with fail
  refine (rowsBytes_any _ n1 f1 _ (HV1.out.drewN m1) (by omega)).mono ?_
  rintro e w3 ⟨r2, rfl, m2, rfl⟩
  go_wp2_with fail
  refine (rowsBytes_any _ n2 f2 _ (HV2.out.drewN (m1 + m2)) (by omega)).mono ?_
  rintro e w4 ⟨r3, rfl, m3, rfl⟩
  go_wp2_with fail
  refine (rowsBytes_any _ n3 f3 _ (HV3.out.drewN (m1 + m2 + m3)) (by omega)).mono ?_
  rintro e w5 ⟨r4, rfl, m4, rfl⟩
  go_upto_if 53 with fail
  · go_ret
    exact ⟨rfl, below_drew _ _⟩
  rename_i hbig _ _
  clear hbig
  have b0 : n0 ≤ 65536 := by omega
  have b1 : n1 ≤ 65536 := by omega
  have b2 : n2 ≤ 65536 := by omega
  have b3 : n3 ≤ 65536 := by omega
  clear hn0 hn1 hn2 hn3
  obtain ⟨W0, hW0⟩ : ∃ W0, W0 = w.drewN (m1 + m2 + m3 + m4) := ⟨_, rfl⟩
  rw [← hW0]
  have HB : Hid (Below w.heap.size w W0) := by show Below _ _ _; rw [hW0]; exact below_drew _ _
  clear hW0
  have hle : w.heap.size ≤ W0.heap.size := HB.out.size
  go_cut [0, 9] (fun x _ wc => Hid (RowsAt 0 wc x n0 f0) ∧ Hid (Below w.heap.size w wc))
  case first =>
    obtain ⟨ao, cap, b, off, e1, hnone, hcap, _, hao, hc⟩ := HV0.out
    simp only [Value.slice.injEq, true_and] at e1
    obtain ⟨rfl, rfl⟩ := e1
    have HA : Hid (0 < n0 → ao0 = some ⟨b, off, none⟩) := hao
    have HC : Hid (∀ k, k < 4 * n0 → w.cell? ⟨b, off + k, none⟩ = some (.string (f0 k))) := hc
    clear hnone hao hc
    cases ao0 with
    | none =>
      go_wp2_with fail
      go_meet
      case rel => exact ⟨HV0.out.below HB.out (Nat.le_refl _), HB⟩
    | some a =>
      go_wp2_with (first
        | (at_make; refine wpList_make_full _ rfl (.tmp 55) (.tmp 55) 22 rfl W0.heap.size 30 i30 _ 4 Try.underlying22 hi hz0 hz1 .i64 .i64 _ _ n0 rfl rfl rfl rfl (by rw [hz2]; omega) (by unfold maxLen; omega) (Nat.le_refl _) ?_; intro w5 hown hgrow; obtain ⟨cur, hcur, hcs⟩ := made_row hown; have HB5 : Hid (Below W0.heap.size W0 w5) := (Below.refl _ _).grown hgrow (Nat.le_refl _) (fun _ h => by cases h); have HCUR : Hid (w5.heap[W0.heap.size]? = some (.cells cur 30 (0, 0)) ∧ cur.size = n0 * 4) := ⟨hcur, hcs⟩; clear hown hgrow hcur hcs)
        | (refine wpList_copy_rows rfl (.tmp 57) (.tmp 58) 22 22 rfl 30 4 Try.underlying22 size30 W0.heap.size n0 n0 (some a) cap0 rfl rfl cur 30 HCUR.out.1 (flat f0 n0) (flat_length f0 n0) HCUR.out.2 (copy_src HA.out HC.out (HB.out.trans (HB5.out.mono hle)) (Nat.le_refl _)) (flat_oneCell f0 n0) ?_))
      go_meet
      case rel => exact ⟨rows_copied HCUR.out.1 (Nat.zero_le _) (Nat.le_refl _), HB.out.trans ((below_setRow HB5.out (Nat.le_refl _) _).mono hle)⟩
  case rest =>
    clear HB hle HV0 
    obtain ⟨HU0, HB⟩ := hcut
    obtain ⟨W0, hW0⟩ : ∃ W0, W0 = wc := ⟨_, rfl⟩
    subst hW0
    go_upto_if 62 with fail
    have hle : w.heap.size ≤ W0.heap.size := HB.out.size
    go_cut [1, 10] (fun x _ wc => Hid (RowsAt 0 wc u0 n0 f0) ∧ Hid (RowsAt 0 wc x n1 f1) ∧ Hid (Below w.heap.size w wc))
    case first =>
      obtain ⟨ao, cap, b, off, e1, hnone, hcap, _, hao, hc⟩ := HV1.out
      simp only [Value.slice.injEq, true_and] at e1
      obtain ⟨rfl, rfl⟩ := e1
      have HA : Hid (0 < n1 → ao1 = some ⟨b, off, none⟩) := hao
      have HC : Hid (∀ k, k < 4 * n1 → w.cell? ⟨b, off + k, none⟩ = some (.string (f1 k))) := hc
      clear hnone hao hc
      cases ao1 with
      | none =>
        go_wp2_with fail
        go_meet
        case rel => exact ⟨HU0, HV1.out.below HB.out (Nat.le_refl _), HB⟩
      | some a =>
        go_wp2_with (first
          | (at_make; refine wpList_make_full _ rfl (.tmp 64) (.tmp 64) 22 rfl W0.heap.size 30 i30 _ 4 Try.underlying22 hi hz0 hz1 .i64 .i64 _ _ n1 rfl rfl rfl rfl (by rw [hz2]; omega) (by unfold maxLen; omega) (Nat.le_refl _) ?_; intro w5 hown hgrow; obtain ⟨cur, hcur, hcs⟩ := made_row hown; have HB5 : Hid (Below W0.heap.size W0 w5) := (Below.refl _ _).grown hgrow (Nat.le_refl _) (fun _ h => by cases h); have HCUR : Hid (w5.heap[W0.heap.size]? = some (.cells cur 30 (0, 0)) ∧ cur.size = n1 * 4) := ⟨hcur, hcs⟩; clear hown hgrow hcur hcs)
          | (refine wpList_copy_rows rfl (.tmp 66) (.tmp 67) 22 22 rfl 30 4 Try.underlying22 size30 W0.heap.size n1 n1 (some a) cap1 rfl rfl cur 30 HCUR.out.1 (flat f1 n1) (flat_length f1 n1) HCUR.out.2 (copy_src HA.out HC.out (HB.out.trans (HB5.out.mono hle)) (Nat.le_refl _)) (flat_oneCell f1 n1) ?_))
        go_meet
        case rel => exact ⟨HU0.out.below (below_setRow HB5.out (Nat.le_refl _) _) (Nat.le_refl _), rows_copied HCUR.out.1 (Nat.zero_le _) (Nat.le_refl _), HB.out.trans ((below_setRow HB5.out (Nat.le_refl _) _).mono hle)⟩
    case rest =>
      clear HB hle HV1 HU0
      obtain ⟨HU0, HU1, HB⟩ := hcut
      obtain ⟨W0, hW0⟩ : ∃ W0, W0 = wc := ⟨_, rfl⟩
      subst hW0
      go_upto_if 71 with fail
      have hle : w.heap.size ≤ W0.heap.size := HB.out.size
      go_cut [2, 11] (fun x _ wc => Hid (RowsAt 0 wc u0 n0 f0) ∧ Hid (RowsAt 0 wc u1 n1 f1) ∧ Hid (RowsAt 0 wc x n2 f2) ∧ Hid (Below w.heap.size w wc))
      case first =>
        obtain ⟨ao, cap, b, off, e1, hnone, hcap, _, hao, hc⟩ := HV2.out
        simp only [Value.slice.injEq, true_and] at e1
        obtain ⟨rfl, rfl⟩ := e1
        have HA : Hid (0 < n2 → ao2 = some ⟨b, off, none⟩) := hao
        have HC : Hid (∀ k, k < 4 * n2 → w.cell? ⟨b, off + k, none⟩ = some (.string (f2 k))) := hc
        clear hnone hao hc
        cases ao2 with
        | none =>
          go_wp2_with fail
          go_meet
          case rel => exact ⟨HU0, HU1, HV2.out.below HB.out (Nat.le_refl _), HB⟩
        | some a =>
          go_wp2_with (first
            | (at_make; refine wpList_make_full _ rfl (.tmp 73) (.tmp 73) 22 rfl W0.heap.size 30 i30 _ 4 Try.underlying22 hi hz0 hz1 .i64 .i64 _ _ n2 rfl rfl rfl rfl (by rw [hz2]; omega) (by unfold maxLen; omega) (Nat.le_refl _) ?_; intro w5 hown hgrow; obtain ⟨cur, hcur, hcs⟩ := made_row hown; have HB5 : Hid (Below W0.heap.size W0 w5) := (Below.refl _ _).grown hgrow (Nat.le_refl _) (fun _ h => by cases h); have HCUR : Hid (w5.heap[W0.heap.size]? = some (.cells cur 30 (0, 0)) ∧ cur.size = n2 * 4) := ⟨hcur, hcs⟩; clear hown hgrow hcur hcs)
            | (refine wpList_copy_rows rfl (.tmp 75) (.tmp 76) 22 22 rfl 30 4 Try.underlying22 size30 W0.heap.size n2 n2 (some a) cap2 rfl rfl cur 30 HCUR.out.1 (flat f2 n2) (flat_length f2 n2) HCUR.out.2 (copy_src HA.out HC.out (HB.out.trans (HB5.out.mono hle)) (Nat.le_refl _)) (flat_oneCell f2 n2) ?_))
          go_meet
          case rel => exact ⟨HU0.out.below (below_setRow HB5.out (Nat.le_refl _) _) (Nat.le_refl _), HU1.out.below (below_setRow HB5.out (Nat.le_refl _) _) (Nat.le_refl _), rows_copied HCUR.out.1 (Nat.zero_le _) (Nat.le_refl _), HB.out.trans ((below_setRow HB5.out (Nat.le_refl _) _).mono hle)⟩
      case rest =>
        clear HB hle HV2 HU0 HU1
        obtain ⟨HU0, HU1, HU2, HB⟩ := hcut
        obtain ⟨W0, hW0⟩ : ∃ W0, W0 = wc := ⟨_, rfl⟩
        subst hW0
        go_upto_if 80 with fail
        have hle : w.heap.size ≤ W0.heap.size := HB.out.size
        go_cut [3, 12] (fun x _ wc => Hid (RowsAt 0 wc u0 n0 f0) ∧ Hid (RowsAt 0 wc u1 n1 f1) ∧ Hid (RowsAt 0 wc u2 n2 f2) ∧ Hid (RowsAt 0 wc x n3 f3) ∧ Hid (Below w.heap.size w wc))
        case first =>
          obtain ⟨ao, cap, b, off, e1, hnone, hcap, _, hao, hc⟩ := HV3.out
          simp only [Value.slice.injEq, true_and] at e1
          obtain ⟨rfl, rfl⟩ := e1
          have HA : Hid (0 < n3 → ao3 = some ⟨b, off, none⟩) := hao
          have HC : Hid (∀ k, k < 4 * n3 → w.cell? ⟨b, off + k, none⟩ = some (.string (f3 k))) := hc
          clear hnone hao hc
          cases ao3 with
          | none =>
            go_wp2_with fail
            go_meet
            case rel => exact ⟨HU0, HU1, HU2, HV3.out.below HB.out (Nat.le_refl _), HB⟩
          | some a =>
            go_wp2_with (first
              | (at_make; refine wpList_make_full _ rfl (.tmp 82) (.tmp 82) 22 rfl W0.heap.size 30 i30 _ 4 Try.underlying22 hi hz0 hz1 .i64 .i64 _ _ n3 rfl rfl rfl rfl (by rw [hz2]; omega) (by unfold maxLen; omega) (Nat.le_refl _) ?_; intro w5 hown hgrow; obtain ⟨cur, hcur, hcs⟩ := made_row hown; have HB5 : Hid (Below W0.heap.size W0 w5) := (Below.refl _ _).grown hgrow (Nat.le_refl _) (fun _ h => by cases h); have HCUR : Hid (w5.heap[W0.heap.size]? = some (.cells cur 30 (0, 0)) ∧ cur.size = n3 * 4) := ⟨hcur, hcs⟩; clear hown hgrow hcur hcs)
              | (refine wpList_copy_rows rfl (.tmp 84) (.tmp 85) 22 22 rfl 30 4 Try.underlying22 size30 W0.heap.size n3 n3 (some a) cap3 rfl rfl cur 30 HCUR.out.1 (flat f3 n3) (flat_length f3 n3) HCUR.out.2 (copy_src HA.out HC.out (HB.out.trans (HB5.out.mono hle)) (Nat.le_refl _)) (flat_oneCell f3 n3) ?_))
            go_meet
            case rel => exact ⟨HU0.out.below (below_setRow HB5.out (Nat.le_refl _) _) (Nat.le_refl _), HU1.out.below (below_setRow HB5.out (Nat.le_refl _) _) (Nat.le_refl _), HU2.out.below (below_setRow HB5.out (Nat.le_refl _) _) (Nat.le_refl _), rows_copied HCUR.out.1 (Nat.zero_le _) (Nat.le_refl _), HB.out.trans ((below_setRow HB5.out (Nat.le_refl _) _).mono hle)⟩
        case rest =>
          clear HB hle HV3 HU0 HU1 HU2
          obtain ⟨HU0, HU1, HU2, HU3, HB⟩ := hcut
          clear hi hz0 hz1 hz2 q22
          obtain ⟨a0, c0, he0⟩ := HU0.out.len
          obtain ⟨a1, c1, he1⟩ := HU1.out.len
          obtain ⟨a2, c2, he2⟩ := HU2.out.len
          obtain ⟨a3, c3, he3⟩ := HU3.out.len
          subst he0 he1 he2 he3
          obtain ⟨W0, hW0⟩ : ∃ W0, W0 = wc := ⟨_, rfl⟩
          subst hW0
          go_wp2_with fail
          refine (cat_any _ _ n0 n1 f0 f1 _ HU0.out HU1.out (by omega) (by omega)).mono ?_
          rintro e w1 ⟨vA, rfl, hA, hnA, hb1⟩
          have HA : Hid (RowsAt W0.heap.size w1 vA (n0 + n1) (catf n0 f0 f1)) := hA
          have HB1 : Hid (Below W0.heap.size W0 w1) := hb1
          clear hA hnA hb1
          go_wp2_with fail
          refine (cat_any _ _ n2 n3 f2 f3 _ (HU2.out.below HB1.out (Nat.le_refl _)) (HU3.out.below HB1.out (Nat.le_refl _)) (by omega) (by omega)).mono ?_
          rintro e w2 ⟨vB, rfl, hA, hnA, hb1⟩
          have HBB : Hid (RowsAt w1.heap.size w2 vB (n2 + n3) (catf n2 f2 f3)) := hA
          have HB2 : Hid (Below w1.heap.size w1 w2) := hb1
          clear hA hnA hb1
          go_wp2_with fail
          refine (zz_any _ _ (n0 + n1) (n2 + n3) (catf n0 f0 f1) (catf n2 f2 f3) _ (HA.out.below HB2.out (Nat.le_refl _)) HBB.out (by omega) (by omega)).mono ?_
          clear HA HBB
          rintro e w3 ⟨l0, l1, rfl, hl0, hl1, hnl0, hnl1, hb3⟩
          obtain ⟨al0, cl0, rfl⟩ := hl0.len
          obtain ⟨al1, cl1, rfl⟩ := hl1.len
          have HL0 : Hid (RowsAt w2.heap.size w3 (.slice al0 (n0 + n1) cl0) (n0 + n1) (catf n0 f0 f1)) := hl0
          have HL1 : Hid (RowsAt w2.heap.size w3 (.slice al1 (n2 + n3) cl1) (n2 + n3) (catf n2 f2 f3)) := hl1
          have HNL : Hid ((Value.slice al0 (n0 + n1) cl0 = .slice none 0 0 ↔ n0 + n1 = 0) ∧ (Value.slice al1 (n2 + n3) cl1 = .slice none 0 0 ↔ n2 + n3 = 0)) := ⟨hnl0, hnl1⟩
          have HB3 : Hid (Below w2.heap.size w2 w3) := hb3
          clear hl0 hl1 hnl0 hnl1 hb3
          go_wp2_with fail
          have HUp : Hid (∀ o lo v n f, RowsAt lo W0 v n f → RowsAt lo (w3.alloc o) v n f) := fun o lo v n f h => (((h.below HB1.out (Nat.le_refl _)).below HB2.out (Nat.le_refl _)).below HB3.out (Nat.le_refl _)).below ((Below.refl _ _).alloc (Nat.le_refl _) o) (Nat.le_refl _)
          refine (zz_any _ _ n0 n3 f0 f3 _ (HUp.out _ _ _ _ _ HU0.out) (HUp.out _ _ _ _ _ HU3.out) (by omega) (by omega)).mono ?_
          rintro e w4 ⟨p0, p1, rfl, hp0, hp1, hnp0, hnp1, hb4⟩
          obtain ⟨ap0, cp0, rfl⟩ := hp0.len
          obtain ⟨ap1, cp1, rfl⟩ := hp1.len
          have HP0 : Hid (RowsAt 0 w4 (.slice ap0 n0 cp0) n0 f0) := hp0.mono (Nat.zero_le _)
          have HP1 : Hid (RowsAt 0 w4 (.slice ap1 n3 cp1) n3 f3) := hp1.mono (Nat.zero_le _)
          have HB4 : Hid (Below _ _ w4) := hb4
          clear hp0 hp1 hnp0 hnp1 hb4
          go_wp2_with fail
          have HUp2 : Hid (∀ o lo v n f, RowsAt lo W0 v n f → RowsAt lo (w4.alloc o) v n f) := fun o lo v n f h => ((HUp.out _ _ _ _ _ h).below HB4.out (Nat.le_refl _)).below ((Below.refl _ _).alloc (Nat.le_refl _) o) (Nat.le_refl _)
          refine (zz_any _ _ n1 n2 f1 f2 _ (HUp2.out _ _ _ _ _ HU1.out) (HUp2.out _ _ _ _ _ HU2.out) (by omega) (by omega)).mono ?_
          rintro e w5 ⟨p0, p1, rfl, hp0, hp1, hnp0, hnp1, hb5⟩
          obtain ⟨aq0, cq0, rfl⟩ := hp0.len
          obtain ⟨aq1, cq1, rfl⟩ := hp1.len
          have HQ0 : Hid (RowsAt 0 w5 (.slice aq0 n1 cq0) n1 f1) := hp0.mono (Nat.zero_le _)
          have HQ1 : Hid (RowsAt 0 w5 (.slice aq1 n2 cq1) n2 f2) := hp1.mono (Nat.zero_le _)
          have HB5 : Hid (Below _ _ w5) := hb5
          clear hp0 hp1 hnp0 hnp1 hb5
          have lt3 : w3.heap.size < w4.heap.size := by have := HB4.out.size; simp at this; omega
          have lt4 : w4.heap.size < w5.heap.size := by have := HB5.out.size; simp at this; omega
          have lt5 : w3.heap.size < w5.heap.size := by omega
          have cw := pair_cells _ _ _ _ HB4.out
          have cx := pair_cells _ _ _ _ HB5.out
          have k0 := cell_over HB5.out (Nat.le_refl _) (cell_over ((Below.refl w4.heap.size w4).alloc (Nat.le_refl _) (.cells #[.slice ap0 n0 cp0, .slice ap1 n3 cp1] 25)) (Nat.le_refl _) cw.1)
          have k1 := cell_over HB5.out (Nat.le_refl _) (cell_over ((Below.refl w4.heap.size w4).alloc (Nat.le_refl _) (.cells #[.slice ap0 n0 cp0, .slice ap1 n3 cp1] 25)) (Nat.le_refl _) cw.2)
          obtain ⟨k2, k3⟩ := cx
          have HG5 : Hid (Good w5 (.slice al0 (n0 + n1) cl0) (.slice al1 (n2 + n3) cl1) (.slice ap0 n0 cp0) (.slice ap1 n3 cp1) (.slice aq0 n1 cq0) (.slice aq1 n2 cq1) n0 n1 n2 n3 f0 f1 f2 f3) := by
            have up : ∀ {lo v n f}, RowsAt lo w3 v n f → RowsAt 0 w5 v n f := fun h => ((((h.below ((Below.refl _ _).alloc (Nat.le_refl _) _) (Nat.le_refl _)).below HB4.out (Nat.le_refl _)).below ((Below.refl _ _).alloc (Nat.le_refl _) _) (Nat.le_refl _)).below HB5.out (Nat.le_refl _)).mono (Nat.zero_le _)
            have up4 : ∀ {v n f}, RowsAt 0 w4 v n f → RowsAt 0 w5 v n f := fun h => (h.below ((Below.refl _ _).alloc (Nat.le_refl _) _) (Nat.le_refl _)).below HB5.out (Nat.le_refl _)
            exact ⟨up HL0.out, up HL1.out, up4 HP0.out, up4 HP1.out, HQ0.out, HQ1.out⟩
          have HBf : Hid (Below w.heap.size w w5) := by
            have s0 := HB.out.size
            have s1 := HB1.out.size
            have s2 := HB2.out.size
            have s3 := HB3.out.size
            exact ((((((HB.out.trans (HB1.out.mono s0)).trans (HB2.out.mono (by omega))).trans (HB3.out.mono (by omega))).alloc (by omega) _).trans (HB4.out.mono (by simp; omega))).alloc (by omega) _).trans (HB5.out.mono (by simp; omega))
          clear cw HB1 HB2 HB3 HB4 HB5 HUp HUp2 HL0 HL1 HP0 HP1 HQ0 HQ1 HB HU0 HU1 HU2 HU3
          go_wp2
          have HBg : Hid (Below w.heap.size w (w5.alloc (.cells #[.slice aq0 n1 cq0, .slice aq1 n2 cq1] 25))) := HBf.out.alloc HBf.out.size _
          have hS : (w5.alloc (.cells #[.slice aq0 n1 cq0, .slice aq1 n2 cq1] 25)).cell? ⟨w3.heap.size, 0, none⟩ = some (.slice al0 (n0 + n1) cl0) ∧ (w5.alloc (.cells #[.slice aq0 n1 cq0, .slice aq1 n2 cq1] 25)).cell? ⟨w3.heap.size, 1, none⟩ = some (.slice al1 (n2 + n3) cl1) ∧ (w5.alloc (.cells #[.slice aq0 n1 cq0, .slice aq1 n2 cq1] 25)).cell? ⟨w4.heap.size, 0, none⟩ = some (.slice ap0 n0 cp0) ∧ (w5.alloc (.cells #[.slice aq0 n1 cq0, .slice aq1 n2 cq1] 25)).cell? ⟨w4.heap.size, 1, none⟩ = some (.slice ap1 n3 cp1) ∧ (w5.alloc (.cells #[.slice aq0 n1 cq0, .slice aq1 n2 cq1] 25)).cell? ⟨w5.heap.size, 0, none⟩ = some (.slice aq0 n1 cq0) ∧ (w5.alloc (.cells #[.slice aq0 n1 cq0, .slice aq1 n2 cq1] 25)).cell? ⟨w5.heap.size, 1, none⟩ = some (.slice aq1 n2 cq1) ∧ Good (w5.alloc (.cells #[.slice aq0 n1 cq0, .slice aq1 n2 cq1] 25)) (.slice al0 (n0 + n1) cl0) (.slice al1 (n2 + n3) cl1) (.slice ap0 n0 cp0) (.slice ap1 n3 cp1) (.slice aq0 n1 cq0) (.slice aq1 n2 cq1) n0 n1 n2 n3 f0 f1 f2 f3 := by
            have c : ∀ {a : Addr} {x : Value}, w5.cell? a = some x → (w5.alloc (.cells #[.slice aq0 n1 cq0, .slice aq1 n2 cq1] 25)).cell? a = some x := fun e => cell_over ((Below.refl w5.heap.size w5).alloc (Nat.le_refl _) _) (Nat.le_refl _) e
            have r : ∀ {v : Value} {n : Nat} {f : Nat → ByteArray}, RowsAt 0 w5 v n f → RowsAt 0 (w5.alloc (.cells #[.slice aq0 n1 cq0, .slice aq1 n2 cq1] 25)) v n f := fun e => e.below ((Below.refl w5.heap.size w5).alloc (Nat.le_refl _) _) (Nat.le_refl _)
            obtain ⟨g0, g1, g2, g3, g4, g5⟩ := HG5.out
            exact ⟨c k0, c k1, c k2, c k3, by rw [World.cell?_alloc_new]; rfl, by rw [World.cell?_alloc_new]; rfl, r g0, r g1, r g2, r g3, r g4, r g5⟩
          generalize w5.alloc (.cells #[.slice aq0 n1 cq0, .slice aq1 n2 cq1] 25) = W6 at HBg hS ⊢
          clear k0 k1 k2 k3 HG5 HBf lt3 lt4 lt5
          go_region_held3 (fun w' => w'.cell? ⟨w3.heap.size, 0, none⟩ = some (.slice al0 (n0 + n1) cl0) ∧ w'.cell? ⟨w3.heap.size, 1, none⟩ = some (.slice al1 (n2 + n3) cl1) ∧ w'.cell? ⟨w4.heap.size, 0, none⟩ = some (.slice ap0 n0 cp0) ∧ w'.cell? ⟨w4.heap.size, 1, none⟩ = some (.slice ap1 n3 cp1) ∧ w'.cell? ⟨w5.heap.size, 0, none⟩ = some (.slice aq0 n1 cq0) ∧ w'.cell? ⟨w5.heap.size, 1, none⟩ = some (.slice aq1 n2 cq1) ∧ Good w' (.slice al0 (n0 + n1) cl0) (.slice al1 (n2 + n3) cl1) (.slice ap0 n0 cp0) (.slice ap1 n3 cp1) (.slice aq0 n1 cq0) (.slice aq1 n2 cq1) n0 n1 n2 n3 f0 f1 f2 f3)
            (first | exact held_kept (by assumption) (by assumption) | exact held_drewN (by assumption) | exact held_drew (by assumption) | assumption)
            (first | (go_at_call_of 10 (Value.slice ap0 n0 cp0); refine (cat_held0 (by assumption) b0 b1).mono ?_; rintro e w7 ⟨vo, rfl, hro, hbl⟩) | (go_at_call_of 10 (Value.slice aq1 n2 cq1); refine (cat_held1 (by assumption) b2 b3).mono ?_; rintro e w7 ⟨vo, rfl, hro, hbl⟩) | (go_at_call_of 8 (Value.slice al0 (n0 + n1) cl0); refine (same_held0 (by assumption) (by assumption) HNL.out.1 b0 b1).mono ?_; rintro e w7 ⟨rfl, m, rfl⟩) | (go_at_call_of 8 (Value.slice al1 (n2 + n3) cl1); refine (same_held1 (by assumption) (by assumption) HNL.out.2 b2 b3).mono ?_; rintro e w7 ⟨rfl, m, rfl⟩))
          all_goals go_wp2
          go_ret
          exact ⟨rfl, below_drewN' (below_chain HBg.out (by assumption) (by assumption)) _⟩

end Go.Proofs.Qxb6612504a.rcv
