/-
  The walk of zzBytes_FnReceivables.. : it answers some bool and turns nothing. (Typed by a small program of this seat.)
-/
import Derived.Test.Qxb6612504aReads
namespace Go.Proofs.Qxb6612504a.rcv
open Go.RowKit

/-- Some bool is handed back. -/
def SomeBool (e : Ending) : Prop := ∃ b : Bool, e = .returned (.bool b)

set_option maxRecDepth 100000 in
set_option maxHeartbeats 4000000 in
theorem bytes5_any (v0 v1 : Value) (n0 n1 : Nat) (f0 f1 : Nat → ByteArray) (w : World) {lo0 : Nat} (hv0 : RowsAt lo0 w v0 n0 f0) {lo1 : Nat} (hv1 : RowsAt lo1 w v1 n1 f1) (hn0 : n0 ≤ 9223372036854775807) (hn1 : n1 ≤ 9223372036854775807) :
    Calls Try.prog 5 #[v0, v1] w fun e w' => SomeBool e ∧ w' = w := by
  obtain ⟨ao0, cap0, b0, off0, rfl, _, hcap0, _, hao0, hc0⟩ := hv0
  have HC0 : Hid (∀ i j, i < n0 → j < 4 → w.cell? ⟨b0, off0 + i * 4 + j, none⟩ = some (.string (f0 (4 * i + j)))) := fun i j => at4 hc0 i j
  have HA0 : Hid (0 < n0 → ao0 = some ⟨b0, off0, none⟩) := hao0
  clear hc0 hao0
  obtain ⟨ao1, cap1, b1, off1, rfl, _, hcap1, _, hao1, hc1⟩ := hv1
  have HC1 : Hid (∀ i j, i < n1 → j < 4 → w.cell? ⟨b1, off1 + i * 4 + j, none⟩ = some (.string (f1 (4 * i + j)))) := fun i j => at4 hc1 i j
  have HA1 : Hid (0 < n1 → ao1 = some ⟨b1, off1, none⟩) := hao1
  clear hc1 hao1
  go_enter Try.func5, Try.ntmps5
  go_wp2
  any_goals (go_ret; exact ⟨⟨_, rfl⟩, rfl⟩)
  go_loop [5, 6] (fun t i => ∃ (k : Nat) (s : Int), k ≤ n0 ∧ i = .int .i64 k ∧ t = .int .i64 s) (fun _ i => n0 - (intOf i).toNat)
  case atStart => exact ⟨0, _, Nat.zero_le _, rfl, rfl⟩
  case round =>
    obtain ⟨k0, s0, hk0, rfl, rfl⟩ := hrel
    by_cases hlt0 : k0 < n0
    · obtain rfl := HA0.out (Nat.lt_of_le_of_lt (Nat.zero_le _) hlt0)
      go_wp2
      go_loop [5, 7] (fun t i => ∃ (j : Nat) (s : Int), j ≤ 4 ∧ i = .int .i64 j ∧ t = .int .i64 s) (fun _ i => 4 - (intOf i).toNat)
      case atStart => exact ⟨0, _, Nat.zero_le _, rfl, rfl⟩
      case round =>
        obtain ⟨j, s, hj, rfl, rfl⟩ := hrel
        by_cases hjt : j < 4
        · have c0 := HC0.out k0 j hlt0 hjt
          go_wp2
          · go_ret
            exact ⟨⟨_, rfl⟩, rfl⟩
          · go_ret
            exact ⟨⟨_, rfl⟩, rfl⟩
          · go_round
            case rel => exact ⟨j + 1, _, hjt, step_num j, rfl⟩
            case measure => exact step_down 4 j hjt
        · go_wp2
          go_round
          case rel => exact ⟨k0 + 1, _, hlt0, step_num k0, rfl⟩
          case measure => exact step_down n0 k0 hlt0
    · go_wp2
      any_goals (go_ret; exact ⟨⟨_, rfl⟩, rfl⟩)
      go_loop [5, 8] (fun t i => ∃ (k : Nat) (s : Int), k ≤ n1 ∧ i = .int .i64 k ∧ t = .int .i64 s) (fun _ i => n1 - (intOf i).toNat)
      case atStart => exact ⟨0, _, Nat.zero_le _, rfl, rfl⟩
      case round =>
        obtain ⟨k1, s1, hk1, rfl, rfl⟩ := hrel
        by_cases hlt1 : k1 < n1
        · obtain rfl := HA1.out (Nat.lt_of_le_of_lt (Nat.zero_le _) hlt1)
          go_wp2
          go_loop [5, 9] (fun t i => ∃ (j : Nat) (s : Int), j ≤ 4 ∧ i = .int .i64 j ∧ t = .int .i64 s) (fun _ i => 4 - (intOf i).toNat)
          case atStart => exact ⟨0, _, Nat.zero_le _, rfl, rfl⟩
          case round =>
            obtain ⟨j, s, hj, rfl, rfl⟩ := hrel
            by_cases hjt : j < 4
            · have c0 := HC1.out k1 j hlt1 hjt
              go_wp2
              · go_ret
                exact ⟨⟨_, rfl⟩, rfl⟩
              · go_ret
                exact ⟨⟨_, rfl⟩, rfl⟩
              · go_round
                case rel => exact ⟨j + 1, _, hjt, step_num j, rfl⟩
                case measure => exact step_down 4 j hjt
            · go_wp2
              go_round
              case rel => exact ⟨k1 + 1, _, hlt1, step_num k1, rfl⟩
              case measure => exact step_down n1 k1 hlt1
        · go_wp2
          go_ret
          exact ⟨⟨_, rfl⟩, rfl⟩

end Go.Proofs.Qxb6612504a.rcv
