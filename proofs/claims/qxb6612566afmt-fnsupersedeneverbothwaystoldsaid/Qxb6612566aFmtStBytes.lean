/-
  zzBytes_FnSupersedeNeverBothWays: it answers some bool and lays but its parameter's block.
-/
import Derived.Test.Qxb6612566aFmtStMap
namespace Go.Proofs.Qxb6612566aFmt.st
open Go.RowKit

set_option maxRecDepth 100000 in
set_option maxHeartbeats 4000000 in
theorem bytesF_any (v : Value) (n : Nat) (Z : Nat → ZF) (G : Nat → Nat → ByteArray) (z : ZF) (g : Nat → ByteArray) (w : World) (hv : FilesAt w v n Z G) (hz : StrsAt 0 w z.ha z.hl z.hc g) (hn : n ≤ 9223372036854775807) (hh : ∀ i, i < n → (Z i).hl ≤ 9223372036854775807) (hzl : z.hl ≤ 9223372036854775807) :
    Calls Tryf.prog 4 #[v, fileVal z z.ha z.hc] w fun e w' => SomeBool e ∧ Below w.heap.size w w' := by
  obtain ⟨ao, cap, b, off, rfl, _, hcap, hao, hc, hs⟩ := hv
  have HA : Hid (0 < n → ao = some ⟨b, off, none⟩) := hao
  have HC : Hid (∀ i, i < n → FileAt w b (off + i * 11) (Z i)) := hc
  have HS : Hid (∀ i, i < n → StrsAt 0 w (Z i).ha (Z i).hl (Z i).hc (G i)) := hs
  have HH : Hid (∀ i, i < n → (Z i).hl ≤ 9223372036854775807) := hh
  obtain ⟨_, hcapz, bz, offz, _, haoz, hcz⟩ := hz
  have HAz : Hid (0 < z.hl → z.ha = some ⟨bz, offz, none⟩) := haoz
  have HCz : Hid (∀ k, k < z.hl → w.cell? ⟨bz, offz + k, none⟩ = some (.string (g k))) := hcz
  clear hao hc hs haoz hcz hh
  obtain ⟨nm, sz, sha, md, rep, ha, hl, hcp, ver, ep, rem, ptr, dam⟩ := z
  simp only at hzl hcapz HAz HCz ⊢
  have HBx : Hid (∀ o, Below w.heap.size w (w.alloc o)) := fun o => (Below.refl _ _).alloc (Nat.le_refl _) o
  go_enter Tryf.func4, Tryf.ntmps4
  go_wp2
  any_goals (go_ret; exact ⟨⟨_, rfl⟩, HBx.out _⟩)
  go_loop [5, 6] (fun t i => ∃ (k : Nat) (s : Int), k ≤ n ∧ i = .int .i64 k ∧ t = .int .i64 s ∧ 0 ≤ s ∧ s ≤ 1048576) (fun _ i => n - (intOf i).toNat)
  case atStart => exact ⟨0, _, Nat.zero_le _, rfl, rfl, by omega, by omega⟩
  case round =>
    obtain ⟨k, s, hk, rfl, rfl, hs0, hs1⟩ := hrel
    by_cases hlt : k < n
    · obtain rfl := HA.out (Nat.lt_of_le_of_lt (Nat.zero_le _) hlt)
      obtain ⟨c0, _, c2, c3, _, c5, _⟩ := HC.out k hlt
      have hbl : b < w.heap.size := World.block_lt_of_cell? w _ c0
      have hhk := HH.out k hlt
      obtain ⟨_, hcapk, bk, offk, _, haok, hck⟩ := HS.out k hlt
      have HAk : Hid (0 < (Z k).hl → (Z k).ha = some ⟨bk, offk, none⟩) := haok
      have HCk : Hid (∀ j, j < (Z k).hl → w.cell? ⟨bk, offk + j, none⟩ = some (.string (G k j))) := hck
      clear haok hck
      generalize hzk : Z k = zk at c0 c2 c3 c5 hhk hcapk HAk HCk
      clear hzk
      obtain ⟨nmk, szk, shak, mdk, repk, hak, hlk, hcpk, verk, epk, remk, ptrk, damk⟩ := zk
      simp only at c0 c2 c3 c5 hhk hcapk HAk HCk
      go_wp2
      any_goals (go_ret; exact ⟨⟨_, rfl⟩, HBx.out _⟩)
      go_loop [5, 7] (fun t i => ∃ (j : Nat) (s : Int), j ≤ hlk ∧ i = .int .i64 j ∧ t = .int .i64 s ∧ 0 ≤ s ∧ s ≤ 1048576) (fun _ i => hlk - (intOf i).toNat)
      case atStart => exact ⟨0, _, Nat.zero_le _, rfl, rfl, by omega, by omega⟩
      case round =>
        obtain ⟨j, t, hj, rfl, rfl, ht0, ht1⟩ := hrel
        by_cases hjt : j < hlk
        · obtain rfl := HAk.out (Nat.lt_of_le_of_lt (Nat.zero_le _) hjt)
          have d0 := HCk.out j hjt
          have hbk : bk < w.heap.size := World.block_lt_of_cell? w _ d0
          go_wp2
          any_goals (go_ret; exact ⟨⟨_, rfl⟩, HBx.out _⟩)
          go_round
          case rel => exact ⟨j + 1, _, hjt, step_num j, rfl, by omega, by omega⟩
          case measure => exact step_down hlk j hjt
        · go_wp2
          go_round
          case rel => exact ⟨k + 1, _, hlt, step_num k, rfl, by omega, by omega⟩
          case measure => exact step_down n k hlt
    · go_wp2
      any_goals (go_ret; exact ⟨⟨_, rfl⟩, HBx.out _⟩)
      go_loop [5, 8] (fun t i => ∃ (j : Nat) (s : Int), j ≤ hl ∧ i = .int .i64 j ∧ t = .int .i64 s ∧ 0 ≤ s ∧ s ≤ 1048576) (fun _ i => hl - (intOf i).toNat)
      case atStart => exact ⟨0, _, Nat.zero_le _, rfl, rfl, by omega, by omega⟩
      case round =>
        obtain ⟨j, t, hj, rfl, rfl, ht0, ht1⟩ := hrel
        by_cases hjt : j < hl
        · obtain rfl := HAz.out (Nat.lt_of_le_of_lt (Nat.zero_le _) hjt)
          have d0 := HCz.out j hjt
          have hbk : bz < w.heap.size := World.block_lt_of_cell? w _ d0
          go_wp2
          any_goals (go_ret; exact ⟨⟨_, rfl⟩, HBx.out _⟩)
          go_round
          case rel => exact ⟨j + 1, _, hjt, step_num j, rfl, by omega, by omega⟩
          case measure => exact step_down hl j hjt
        · go_wp2
          go_ret
          exact ⟨⟨_, rfl⟩, HBx.out _⟩

end Go.Proofs.Qxb6612566aFmt.st
