/-
  cloneStrings, toFile, lastFile, ZZnewStore.
-/
import Derived.Test.Qxb6612566aStKit
namespace Go.Proofs.Qxb6612566a.st
open Go.RowKit

theorem info9 : (Try.prog.info? 9).map (fun i => (i.zero, i.size, i.bytes)) = some (some (.string ByteArray.empty), 1, 16) := by kernel_rfl

/-- The block g, of N strings, whose first k are filled by F. -/
def Fill1 (w : World) (g N k : Nat) (F : Nat → ByteArray) : Prop :=
  ∃ cur : Array Value, w.heap[g]? = some (.cells cur 9 (0, 0)) ∧ cur.size = N ∧ ∀ c, c < k → cur[c]? = some (.string (F c))

theorem fill1_made {w : World} {base g n : Nat} {xs : List Value} (h : w.ownsRow base 9 1 (.slice (some ⟨g, 0, none⟩) n n) n xs) (F : Nat → ByteArray) : Fill1 w g n 0 F := by
  rcases h.2 with ⟨h', _⟩ | ⟨g', cap', cur, h', _, hg, _, _, hs, _⟩
  · simp at h'
  · simp only [Value.slice.injEq, Option.some.injEq, Addr.mk.injEq, and_true, true_and] at h'
    obtain ⟨rfl, rfl⟩ := h'
    exact ⟨cur, hg, by omega, fun c hc => absurd hc (by omega)⟩

theorem Fill1.there {w : World} {g N k : Nat} {F : Nat → ByteArray} (h : Fill1 w g N k F) (c : Nat) (hc : c < N) : (∃ v, w.cell? ⟨g, c, none⟩ = some v) ∧ w.frozen? ⟨g, c, none⟩ = false := by
  obtain ⟨cur, h1, h2, h3⟩ := h
  refine ⟨⟨cur[c]'(by omega), ?_⟩, frozen_of_row w g c cur 9 h1⟩
  rw [cell_of_row w g c cur 9 (0, 0) h1]
  exact Array.getElem?_eq_getElem (by omega)

theorem fill1_step {w : World} {g N k : Nat} {F : Nat → ByteArray} (h : Fill1 w g N k F) (hk : k < N) : Fill1 (w.setCell ⟨g, k, none⟩ (.string (F k))) g N (k + 1) F := by
  obtain ⟨cur, h1, h2, h3⟩ := h
  refine ⟨_, heap_setCell_same w g k cur 9 _ h1, by simpa using h2, fun c hc => ?_⟩
  rw [Array.getElem?_setIfInBounds]
  rcases (show c < k ∨ c = k by omega) with h' | rfl
  · rw [if_neg (by omega)]; exact h3 c h'
  · rw [if_pos rfl, if_pos (by omega)]

theorem strs_of_fill {lo : Nat} {w : World} {g n : Nat} {F : Nat → ByteArray} (h : Fill1 w g n n F) (hl : lo ≤ g) : StrsAt lo w (some ⟨g, 0, none⟩) n n F := by
  obtain ⟨cur, h1, h2, h3⟩ := h
  refine ⟨fun h => by simp at h, Nat.le_refl _, g, 0, hl, fun _ => rfl, fun k hk => ?_⟩
  rw [Nat.zero_add, cell_of_row w g k cur 9 (0, 0) h1]
  exact h3 k hk

theorem strs_nil (lo : Nat) (w : World) (g : Nat → ByteArray) : StrsAt lo w none 0 0 g :=
  ⟨fun _ => ⟨rfl, rfl⟩, Nat.le_refl _, lo, 0, Nat.le_refl _, fun h => absurd h (by omega), fun k hk => absurd hk (by omega)⟩

set_option maxHeartbeats 1000000 in
theorem clone_any (ao : Option Addr) (n cap : Nat) (g : Nat → ByteArray) (w : World) {lo : Nat} (hs : StrsAt lo w ao n cap g) (hn : n ≤ 65536) :
    Calls Try.prog 36 #[.slice ao n cap] w fun e w' => ∃ ao' cap', e = .returned (.slice ao' n cap') ∧ StrsAt w.heap.size w' ao' n cap' g ∧ (ao' = none ↔ ao = none) ∧ Below w.heap.size w w' := by
  have HS : Hid (StrsAt lo w ao n cap g) := hs
  obtain ⟨hnone, hcap, b, off, _, hao, hc⟩ := hs
  have HA : Hid (0 < n → ao = some ⟨b, off, none⟩) := hao
  have HC : Hid (∀ k, k < n → w.cell? ⟨b, off + k, none⟩ = some (.string (g k))) := hc
  clear hao hc
  obtain ⟨i0, hi, hz0, hz1, hz2⟩ := info_parts info9
  have q23 : ∀ (w : World) (a : Option Addr) (n c n' c' : Nat), (binOp .eql 23 (.slice a n c) (.slice none n' c')).run Try.prog w = .ok (.bool a.isNone) w := fun w a n c n' c' => Lib.run_eql_slice_nil w _ _ a n c n' c' Try.underlying23
  cases ao with
  | none =>
    obtain ⟨rfl, rfl⟩ := hnone rfl
    go_enter Try.func36, Try.ntmps36
    go_wp2
    go_ret
    exact ⟨none, 0, rfl, strs_nil _ _ _, by simp, Below.refl _ _⟩
  | some a =>
    clear hnone
    go_enter Try.func36, Try.ntmps36
    go_wp2_with (at_make; refine wpList_make_full _ rfl (.tmp 8) (.tmp 8) 23 rfl w.heap.size 9 i0 _ 1 Try.underlying23 hi hz0 hz1 .i64 .i64 _ _ n rfl rfl rfl rfl (by rw [hz2]; omega) (by unfold maxLen; omega) (Nat.le_refl _) ?_; intro w1 hown hgrow)
    have HF : Hid (Fill1 w1 w.heap.size n 0 g) := fill1_made hown g
    have HB : Hid (Below w.heap.size w w1) := (Below.refl _ _).grown hgrow (Nat.le_refl _) (fun _ h => by cases h)
    clear hown hgrow
    go_loopw [4] (fun i wr => ∃ k : Nat, k ≤ n ∧ i = .int .i64 k ∧ Hid (Fill1 wr w.heap.size n k g) ∧ Hid (Below w.heap.size w wr)) (fun i _ => n - (intOf i).toNat)
    case atStart => exact ⟨0, Nat.zero_le _, rfl, HF, HB⟩
    case round =>
      clear HF HB
      obtain ⟨k, hk, rfl, hF, hB⟩ := hrel
      by_cases hlt : k < n
      · cases HA.out (Nat.lt_of_le_of_lt (Nat.zero_le _) hlt)
        have c0 := cell_over hB.out (Nat.le_refl _) (HC.out k hlt)
        obtain ⟨⟨x0, d0⟩, z0⟩ := hF.out.there k hlt
        have hlt' : (k : Int) < (n : Int) := by omega
        go_wp2
        go_roundw
        case rel => exact ⟨k + 1, hlt, step_num k, fill1_step hF.out hlt, hB.out.setCell (p := ⟨w.heap.size, k, none⟩) (Nat.le_refl _) _⟩
        case measure => exact step_down n k hlt
      · obtain rfl : k = n := by omega
        go_wp2
        go_ret
        exact ⟨_, _, rfl, strs_of_fill hF.out (Nat.le_refl _), by simp, hB.out⟩

/-- A file's value; its holders by their own three parts. -/
abbrev fileVal (z : ZF) (ao : Option Addr) (cap : Nat) : Value :=
  .agg #[.string z.nm, .int .i64 z.sz, .string z.sha, .string z.md, .int .i64 z.rep, .slice ao z.hl cap, .int .i64 z.ver, .int .i64 z.ep, .int .i64 z.rem, .bool z.ptr, .bool z.dam]

theorem below3 (w : World) (o1 o2 o3 : Obj) : Below w.heap.size w (((w.alloc o1).alloc o2).alloc o3) :=
  (((Below.refl w.heap.size w).alloc (Nat.le_refl _) o1).alloc (by simp) o2).alloc (by simp; omega) o3

theorem bcell {W w1 : World} (hb : Below W.heap.size W w1) : (∀ b o, b < W.heap.size → w1.cell? ⟨b, o, none⟩ = W.cell? ⟨b, o, none⟩) ∧ (∀ b o, b < W.heap.size → w1.frozen? ⟨b, o, none⟩ = W.frozen? ⟨b, o, none⟩) :=
  ⟨fun b o h => hb.cell (p := ⟨b, o, none⟩) h, fun b o h => hb.frozen (p := ⟨b, o, none⟩) h⟩

set_option maxRecDepth 100000 in
set_option maxHeartbeats 4000000 in
theorem toFile_any (z : ZF) (g : Nat → ByteArray) (w : World) {lo : Nat} (hs : StrsAt lo w z.ha z.hl z.hc g) (hh : z.hl ≤ 65536) :
    Calls Try.prog 29 #[fileVal z z.ha z.hc] w fun e w' => ∃ ao' cap', e = .returned (fileVal z ao' cap') ∧ StrsAt w.heap.size w' ao' z.hl cap' g ∧ (ao' = none ↔ z.ha = none) ∧ Below w.heap.size w w' := by
  have HS : Hid (StrsAt lo w z.ha z.hl z.hc g) := hs
  clear hs
  obtain ⟨nm, sz, sha, md, rep, ha, hl, hcp, ver, ep, rem, ptr, dam⟩ := z
  simp only at hh HS ⊢
  go_enter Try.func29, Try.ntmps29
  go_wp2_with fail
  refine (clone_any _ _ _ g _ (HS.out.over (below3 w _ _ _) (Nat.le_refl _)) hh).mono ?_
  rintro e w1 ⟨ao1, cap1, rfl, hs1, hn1, hb1⟩
  have HB : Hid (Below w.heap.size w w1) := (below3 w _ _ _).trans (hb1.mono (by simp; omega))
  have HS1 : Hid (StrsAt (w.heap.size + 3) w1 ao1 hl cap1 g) := hs1.mono (by simp)
  have HN1 : Hid (ao1 = none ↔ ha = none) := hn1
  have hz : w.heap.size + 1 + 1 + 1 ≤ w1.heap.size := by have := hb1.size; simpa using this
  have HZ : Hid (w.heap.size + 1 + 1 + 1 ≤ w1.heap.size) := hz
  obtain ⟨hcx, hfx⟩ := bcell hb1
  clear hs1 hn1 hb1 hz HS
  go_wp2_with fail
  refine bodyPost_ret (v := fileVal ⟨nm, sz, sha, md, rep, ha, hl, hcp, ver, ep, rem, ptr, dam⟩ ao1 cap1) (by simp [results, Try.results29, go_sem, hcx]) rfl ⟨ao1, cap1, rfl, ?_, HN1.out, ?_⟩
  · refine (HS1.out.kept (fun i h1 h2 => ?_)).mono (by omega)
    repeat (rw [heap_setCell_other _ _ _ _ (by simp; omega)])
  · repeat (refine Below.setCell ?_ (by dsimp only; omega) _)
    exact HB.out

end Go.Proofs.Qxb6612566a.st
