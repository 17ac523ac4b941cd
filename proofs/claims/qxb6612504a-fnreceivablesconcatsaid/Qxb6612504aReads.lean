/-
  Walks of what only reads: zzRowsBytes (6), zzSameRows (8).
-/
import Derived.Test.Qxb6612504aKit
namespace Go.Proofs.Qxb6612504a.rcv
open Go.RowKit

theorem info9 : (Try.prog.info? 9).map (fun i => (i.zero, i.size, i.bytes)) = some (some (.string ByteArray.empty), 1, 16) := by kernel_rfl
theorem info30 : (Try.prog.info? 30).map (fun i => (i.zero, i.size, i.bytes)) = some (some (.agg #[.string ByteArray.empty, .string ByteArray.empty, .string ByteArray.empty, .string ByteArray.empty]), 4, 64) := by kernel_rfl
theorem cells9 : Try.prog.cellsOf 9 = 1 := by kernel_rfl

theorem part_string (w : World) (xs : Array Value) (i : Nat) (h : i < xs.size) : (part 9 xs i).run Try.prog w = .ok xs[i] w := by
  simp [part, isAgg, run_underlying Try.underlying9, h]
theorem string_same (d : Nat) (s : ByteArray) (w : World) : (Op.equalIn (d + 1) 9 (.string s) (.string s)).run Try.prog w = .ok true w := by
  have h : (s == s) = true := by cases s with | mk d => exact (beq_self_eq_true d)
  simp [Op.equalIn, run_underlying Try.underlying9, h]

theorem row_same (s0 s1 s2 s3 : ByteArray) (w : World) :
    (binOp .neq 30 (.agg #[.string s0, .string s1, .string s2, .string s3]) (.agg #[.string s0, .string s1, .string s2, .string s3])).run Try.prog w = .ok (.bool false) w := by
  obtain ⟨i9, h9, _⟩ := info_parts info9
  have e : (Op.equalIn (9998 + 1 + 1) 30 (.agg #[.string s0, .string s1, .string s2, .string s3]) (.agg #[.string s0, .string s1, .string s2, .string s3])).run Try.prog w = .ok true w := by
    rw [run_equalIn_array w (9998 + 1) _ _ Try.underlying30 h9, cells9]
    have hr : List.range 4 = [0, 1, 2, 3] := rfl
    rw [hr]
    have ss := fun s => string_same 9998 s w
    simp only [Nat.reduceAdd] at ss
    have p0 : (part 9 #[Value.string s0, .string s1, .string s2, .string s3] 0).run Try.prog w = .ok (.string s0) w := part_string w _ 0 (by simp)
    have p1 : (part 9 #[Value.string s0, .string s1, .string s2, .string s3] 1).run Try.prog w = .ok (.string s1) w := part_string w _ 1 (by simp)
    have p2 : (part 9 #[Value.string s0, .string s1, .string s2, .string s3] 2).run Try.prog w = .ok (.string s2) w := part_string w _ 2 (by simp)
    have p3 : (part 9 #[Value.string s0, .string s1, .string s2, .string s3] 3).run Try.prog w = .ok (.string s3) w := part_string w _ 3 (by simp)
    simp [Op.eqItems, ss, p0, p1, p2, p3]
  simp only [binOp]
  simp [Op.equal, Op.maxDepth, e]

theorem step_down (n k : Nat) (h : k < n) : n - (intOf (.int .i64 ((k : Int) + 1))).toNat < n - (intOf (.int .i64 (k : Int))).toNat := by
  simp [intOf]; omega
theorem step_num (k : Nat) : Value.int .i64 ((k : Int) + 1) = .int .i64 ((k + 1 : Nat) : Int) := by simp

set_option maxHeartbeats 400000 in
theorem rowsBytes_any {lo : Nat} (v : Value) (n : Nat) (f : Nat → ByteArray) (w : World) (hv : RowsAt lo w v n f) (hn : n ≤ 1048576) :
    Calls Try.prog 6 #[v] w fun e w' => ∃ r : Int, e = .returned (.int .i64 r) ∧ ∃ m, w' = w.drewN m := by
  obtain ⟨ao, cap, b, off, rfl, hnil, hcap, _, hao, hc⟩ := hv
  have HC : Hid (∀ k, k < 4 * n → w.cell? ⟨b, off + k, none⟩ = some (.string (f k))) := hc
  clear hc hnil
  have HA : Hid (0 < n → ao = some ⟨b, off, none⟩) := hao
  clear hao
  go_enter Try.func6, Try.ntmps6
  go_wp2
  go_loopw [3, 4] (fun t i wr => ∃ (k m : Nat) (s : Int), k ≤ n ∧ i = .int .i64 k ∧ t = .int .i64 s ∧ wr = w.drewN m) (fun _ i _ => n - (intOf i).toNat)
  case atStart => exact ⟨0, 0, 0, Nat.zero_le _, rfl, rfl, rfl⟩
  case round =>
    obtain ⟨k, m, s, hk, rfl, rfl, rfl⟩ := hrel
    by_cases hlt : k < n
    · obtain rfl := HA.out (by omega)
      have c0 : w.cell? ⟨b, off + k * 4, none⟩ = some (.string (f (4 * k))) := by rw [show off + k * 4 = off + 4 * k by omega]; exact HC.out _ (by omega)
      have c1 : w.cell? ⟨b, off + k * 4 + 1, none⟩ = some (.string (f (4 * k + 1))) := by rw [show off + k * 4 + 1 = off + (4 * k + 1) by omega]; exact HC.out _ (by omega)
      have c2 : w.cell? ⟨b, off + k * 4 + 2, none⟩ = some (.string (f (4 * k + 2))) := by rw [show off + k * 4 + 2 = off + (4 * k + 2) by omega]; exact HC.out _ (by omega)
      have c3 : w.cell? ⟨b, off + k * 4 + 3, none⟩ = some (.string (f (4 * k + 3))) := by rw [show off + k * 4 + 3 = off + (4 * k + 3) by omega]; exact HC.out _ (by omega)
      have hlt' : (k : Int) < (n : Int) := by omega
      go_wp2
      go_quiet (fail)
      go_wp2
      · go_ret
        exact ⟨_, rfl, _, rfl⟩
      · go_round
        case rel => exact ⟨k + 1, _, _, hlt, step_num k, rfl, rfl⟩
        case measure => exact step_down n k hlt
    · go_wp2
      go_ret
      exact ⟨_, rfl, m, rfl⟩


set_option maxHeartbeats 400000 in
theorem sameRows_any {lo lo' : Nat} (v v' : Value) (n : Nat) (f : Nat → ByteArray) (w : World) (hv : RowsAt lo w v n f) (hv' : RowsAt lo' w v' n f) (hnil : v = .slice none 0 0 ↔ n = 0) (hn : n ≤ 1048576) :
    Calls Try.prog 8 #[v, v'] w fun e w' => e = .returned (.bool true) ∧ ∃ m, w' = w.drewN m := by
  obtain ⟨ao, cap, b, off, rfl, hnone, hcap, _, hao, hc⟩ := hv
  obtain ⟨ao', cap', b', off', rfl, hnone', hcap', _, hao', hc'⟩ := hv'
  rcases Nat.eq_zero_or_pos n with rfl | hpos
  · obtain ⟨rfl, rfl⟩ : ao = none ∧ cap = 0 := by have := hnil.2 rfl; simpa using this
    clear hc hc' hao hao' hnil hnone hnone'
    have q22 : ∀ (w : World) (a : Option Addr) (n c n' c' : Nat), (binOp .eql 22 (.slice a n c) (.slice none n' c')).run Try.prog w = .ok (.bool a.isNone) w := fun w a n c n' c' => Lib.run_eql_slice_nil w _ _ a n c n' c' Try.underlying22
    go_enter Try.func8, Try.ntmps8
    go_wp2
    go_loopw [5] (fun i wr => i = .int .i64 0 ∧ wr = w) (fun _ _ => 0)
    case atStart => exact ⟨rfl, rfl⟩
    case round =>
      obtain ⟨rfl, rfl⟩ := hrel
      go_wp2
      go_ret
      exact ⟨rfl, 0, rfl⟩
  · obtain rfl := hao hpos
    obtain rfl := hao' hpos
    have HC : Hid (∀ k, k < 4 * n → w.cell? ⟨b, off + k, none⟩ = some (.string (f k))) := hc
    have HC' : Hid (∀ k, k < 4 * n → w.cell? ⟨b', off' + k, none⟩ = some (.string (f k))) := hc'
    clear hc hc' hao hao' hnil hnone hnone'
    have hne : ((n : Int) == 0) = false := by simp; omega
    have q22 : ∀ (w : World) (a : Option Addr) (n c n' c' : Nat), (binOp .eql 22 (.slice a n c) (.slice none n' c')).run Try.prog w = .ok (.bool a.isNone) w := fun w a n c n' c' => Lib.run_eql_slice_nil w _ _ a n c n' c' Try.underlying22
    go_enter Try.func8, Try.ntmps8
    go_wp2
    go_loopw [5] (fun i wr => ∃ (k m : Nat), k ≤ n ∧ i = .int .i64 k ∧ wr = w.drewN m) (fun i _ => n - (intOf i).toNat)
    case atStart => exact ⟨0, 0, Nat.zero_le _, rfl, rfl⟩
    case round =>
      obtain ⟨k, m, hk, rfl, rfl⟩ := hrel
      by_cases hlt : k < n
      · have c0 : w.cell? ⟨b, off + k * 4, none⟩ = some (.string (f (4 * k))) := by rw [show off + k * 4 = off + 4 * k by omega]; exact HC.out _ (by omega)
        have c1 : w.cell? ⟨b, off + k * 4 + 1, none⟩ = some (.string (f (4 * k + 1))) := by rw [show off + k * 4 + 1 = off + (4 * k + 1) by omega]; exact HC.out _ (by omega)
        have c2 : w.cell? ⟨b, off + k * 4 + 2, none⟩ = some (.string (f (4 * k + 2))) := by rw [show off + k * 4 + 2 = off + (4 * k + 2) by omega]; exact HC.out _ (by omega)
        have c3 : w.cell? ⟨b, off + k * 4 + 3, none⟩ = some (.string (f (4 * k + 3))) := by rw [show off + k * 4 + 3 = off + (4 * k + 3) by omega]; exact HC.out _ (by omega)
        have d0 : w.cell? ⟨b', off' + k * 4, none⟩ = some (.string (f (4 * k))) := by rw [show off' + k * 4 = off' + 4 * k by omega]; exact HC'.out _ (by omega)
        have d1 : w.cell? ⟨b', off' + k * 4 + 1, none⟩ = some (.string (f (4 * k + 1))) := by rw [show off' + k * 4 + 1 = off' + (4 * k + 1) by omega]; exact HC'.out _ (by omega)
        have d2 : w.cell? ⟨b', off' + k * 4 + 2, none⟩ = some (.string (f (4 * k + 2))) := by rw [show off' + k * 4 + 2 = off' + (4 * k + 2) by omega]; exact HC'.out _ (by omega)
        have d3 : w.cell? ⟨b', off' + k * 4 + 3, none⟩ = some (.string (f (4 * k + 3))) := by rw [show off' + k * 4 + 3 = off' + (4 * k + 3) by omega]; exact HC'.out _ (by omega)
        have hlt' : (k : Int) < (n : Int) := by omega
        have qn := row_same (f (4 * k)) (f (4 * k + 1)) (f (4 * k + 2)) (f (4 * k + 3))
        go_wp2
        go_quiet (fail)
        go_wp2
        go_round
        case rel => exact ⟨k + 1, _, hlt, step_num k, rfl⟩
        case measure => exact step_down n k hlt
      · go_wp2
        go_ret
        exact ⟨rfl, m, rfl⟩

end Go.Proofs.Qxb6612504a.rcv
