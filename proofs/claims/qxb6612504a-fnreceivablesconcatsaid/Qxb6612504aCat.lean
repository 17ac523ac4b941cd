/-
  The walk of zzCatRows (10).
-/
import Derived.Test.Qxb6612504aReads
namespace Go.Proofs.Qxb6612504a.rcv
open Go.RowKit

/-- Two lists of rows behind one another. -/
def catf (n : Nat) (f f' : Nat → ByteArray) (k : Nat) : ByteArray := if k < 4 * n then f k else f' (k - 4 * n)

theorem catf_left (n k j : Nat) (f f' : Nat → ByteArray) (h : k < n) (hj : j < 4) : f (4 * k + j) = catf n f f' (4 * k + j) := by
  unfold catf; rw [if_pos (by omega)]
theorem catf_right (n k j : Nat) (f f' : Nat → ByteArray) : f' (4 * k + j) = catf n f f' (4 * (n + k) + j) := by
  unfold catf; rw [if_neg (by omega)]; congr 1; omega

set_option maxHeartbeats 1000000 in
theorem cat_any {lo lo' : Nat} (v v' : Value) (n n' : Nat) (f f' : Nat → ByteArray) (w : World) (hv : RowsAt lo w v n f) (hv' : RowsAt lo' w v' n' f') (hn : n ≤ 131072) (hn' : n' ≤ 131072) :
    Calls Try.prog 10 #[v, v'] w fun e w' => ∃ vo, e = .returned vo ∧ RowsAt w.heap.size w' vo (n + n') (catf n f f') ∧ (vo = .slice none 0 0 ↔ n + n' = 0) ∧ Below w.heap.size w w' := by
  obtain ⟨ao, cap, b, off, rfl, _, hcap, _, hao, hc⟩ := hv
  obtain ⟨ao', cap', b', off', rfl, _, hcap', _, hao', hc'⟩ := hv'
  have HC : Hid (∀ k, k < 4 * n → w.cell? ⟨b, off + k, none⟩ = some (.string (f k))) := hc
  have HC' : Hid (∀ k, k < 4 * n' → w.cell? ⟨b', off' + k, none⟩ = some (.string (f' k))) := hc'
  have HA : Hid (0 < n → ao = some ⟨b, off, none⟩) := hao
  have HA' : Hid (0 < n' → ao' = some ⟨b', off', none⟩) := hao'
  clear hc hc' hao hao'
  obtain ⟨i0, hi, hz0, hz1, hz2⟩ := info_parts info30
  by_cases h0 : n + n' = 0
  · obtain rfl : n = 0 := by omega
    obtain rfl : n' = 0 := by omega
    go_enter Try.func10, Try.ntmps10
    go_wp2
    go_ret
    exact ⟨_, rfl, RowsAt.nil _ _ _, by simp, Below.refl _ _⟩
  · have hne : ((n : Int) + (n' : Int) == 0) = false := by simp; omega
    go_enter Try.func10, Try.ntmps10
    go_wp2_with (at_make; refine wpList_make_full _ rfl (.tmp 16) (.tmp 16) 22 rfl w.heap.size 30 i0 _ 4 Try.underlying22 hi hz0 hz1 .i64 .i64 _ _ (n + n') rfl rfl (by omega) (by omega) (by rw [hz2]; omega) (by unfold maxLen; omega) (Nat.le_refl _) ?_; intro w1 hown hgrow)
    have hF := fill_made hown (catf n f f')
    have hB : Below w.heap.size w w1 := (Below.refl _ _).grown hgrow (Nat.le_refl _) (fun _ h => by cases h)
    have HF : Hid (Fill w1 w.heap.size 30 (n + n') 0 (catf n f f')) := hF
    have HB : Hid (Below w.heap.size w w1) := hB
    clear hown hgrow hF hB
    go_loopw [7] (fun i wr => ∃ k : Nat, k ≤ n ∧ i = .int .i64 k ∧ Hid (Fill wr w.heap.size 30 (n + n') k (catf n f f')) ∧ Hid (Below w.heap.size w wr)) (fun i _ => n - (intOf i).toNat)
    case atStart => exact ⟨0, Nat.zero_le _, rfl, HF, HB⟩
    case round =>
      obtain ⟨k, hk, rfl, hF, hB⟩ := hrel
      by_cases hlt : k < n
      · obtain rfl := HA.out (Nat.lt_of_le_of_lt (Nat.zero_le _) hlt)
        obtain ⟨c0, c1, c2, c3⟩ := row4 HC.out hB.out k hlt
        obtain ⟨x0, x1, x2, x3, d0, d1, d2, d3, z0, z1, z2, z3⟩ := hF.out.there4 k (by omega)
        have hlt' : (k : Int) < (n : Int) + (n' : Int) := by omega
        go_wp2
        go_roundw
        case rel => exact ⟨k + 1, hlt, step_num k, fill_step hF.out (Nat.lt_of_lt_of_le hlt (Nat.le_add_right _ _)) (Nat.mul_comm _ _) _ _ _ _ (catf_left n k 0 f f' hlt (by omega)) (catf_left n k 1 f f' hlt (by omega)) (catf_left n k 2 f f' hlt (by omega)) (catf_left n k 3 f f' hlt (by omega)), below4 hB.out (Nat.le_refl _) _ _ _ _⟩
        case measure => exact step_down n k hlt
      · obtain rfl : k = n := by omega
        clear HC HA HF HB
        go_wp2
        go_loopw [8] (fun i wr => ∃ j : Nat, j ≤ n' ∧ i = .int .i64 j ∧ Hid (Fill wr w.heap.size 30 (k + n') (k + j) (catf k f f')) ∧ Hid (Below w.heap.size w wr)) (fun i _ => n' - (intOf i).toNat)
        case atStart => exact ⟨0, Nat.zero_le _, rfl, hF, hB⟩
        case round =>
          clear hF hB
          obtain ⟨j, hj, rfl, hF, hB⟩ := hrel
          by_cases hjt : j < n'
          · obtain rfl := HA'.out (Nat.lt_of_le_of_lt (Nat.zero_le _) hjt)
            obtain ⟨c0, c1, c2, c3⟩ := row4 HC'.out hB.out j hjt
            obtain ⟨x0, x1, x2, x3, d0, d1, d2, d3, z0, z1, z2, z3⟩ := hF.out.there4 (k + j) (by omega)
            have hjt' : (j : Int) < (n' : Int) := by omega
            go_wp2
            go_roundw
            case rel => exact ⟨j + 1, hjt, step_num j, fill_step hF.out (Nat.add_lt_add_left hjt _) (Nat.mul_comm _ _) _ _ _ _ (catf_right k j 0 f f') (catf_right k j 1 f f') (catf_right k j 2 f f') (catf_right k j 3 f f'), below4 hB.out (Nat.le_refl _) _ _ _ _⟩
            case measure => exact step_down n' j hjt
          · obtain rfl : j = n' := by omega
            go_wp2
            go_ret
            exact ⟨_, rfl, rows_of_fill hF.out (Nat.le_refl _), ⟨fun h => by simp at h, fun h => absurd h h0⟩, hB.out⟩

end Go.Proofs.Qxb6612504a.rcv
