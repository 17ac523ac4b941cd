/-
  zzBytes_FnRecordsInsertWrite: it answers some bool and lays but its parameter's block.
-/
import Derived.Test.Qxb6612566aStWr
namespace Go.Proofs.Qxb6612566a.st
open Go.RowKit

abbrev wrVal (x : ZW) : Value := .agg #[.int .i64 x.ver, .string x.wr, .pointer x.rp]

set_option maxRecDepth 100000 in
set_option maxHeartbeats 8000000 in
theorem bytesA_any (v0 : Value) (n : Nat) (Z : Nat → ZF) (G : Nat → Nat → ByteArray) (ao1 : Option Addr) (n1 cap1 : Nat) (g1 : Nat → ByteArray) (v2 : Value) (n2 : Nat) (A : Nat → Option Addr) (N C : Nat → Nat) (X : Nat → Nat → ZW) (name : ByteArray) (p : Int) (x : ZW) (w : World)
    (hv : FilesAt w v0 n Z G) (hn : n ≤ 9223372036854775807) (hh : ∀ i, i < n → (Z i).hl ≤ 9223372036854775807) (hk : StrsAt 0 w ao1 n1 cap1 g1) (hn1 : n1 ≤ 9223372036854775807)
    (hu : UnAt w v2 n2 A N C X) (hn2 : n2 ≤ 9223372036854775807) (hN : ∀ i, i < n2 → N i ≤ 9223372036854775807) (hx : ∀ i, i < n2 → ∀ j, j < N i → Some63 (X i j)) (hr : RepAt w x) (hxl : Some63 x) :
    Calls Try.prog 6 #[v0, .slice ao1 n1 cap1, v2, .string name, .int .i64 p, wrVal x] w fun e w' => SomeBool e ∧ Below w.heap.size w w' := by
  obtain ⟨ao, cap, b, off, rfl, _, hcap, hao, hc, hs⟩ := hv
  have HA : Hid (0 < n → ao = some ⟨b, off, none⟩) := hao
  have HC : Hid (∀ i, i < n → FileAt w b (off + i * 11) (Z i)) := hc
  have HS : Hid (∀ i, i < n → StrsAt 0 w (Z i).ha (Z i).hl (Z i).hc (G i)) := hs
  have HH : Hid (∀ i, i < n → (Z i).hl ≤ 9223372036854775807) := hh
  obtain ⟨_, hcap1, b1, off1, _, hao1, hc1⟩ := hk
  have HA1 : Hid (0 < n1 → ao1 = some ⟨b1, off1, none⟩) := hao1
  have HC1 : Hid (∀ k, k < n1 → w.cell? ⟨b1, off1 + k, none⟩ = some (.string (g1 k))) := hc1
  obtain ⟨ao2, cap2, b2, off2, rfl, _, hcap2, hao2, hc2, hs2⟩ := hu
  have HA2 : Hid (0 < n2 → ao2 = some ⟨b2, off2, none⟩) := hao2
  have HC2 : Hid (∀ i, i < n2 → w.cell? ⟨b2, off2 + i, none⟩ = some (.slice (A i) (N i) (C i))) := hc2
  have HS2 : Hid (∀ i, i < n2 → WritesAt w (A i) (N i) (C i) (X i)) := hs2
  have HN : Hid (∀ i, i < n2 → N i ≤ 9223372036854775807) := hN
  have HX : Hid (∀ i, i < n2 → ∀ j, j < N i → Some63 (X i j)) := hx
  have HR : Hid (RepAt w x) := hr
  clear hao hc hs hao1 hc1 hao2 hc2 hs2 hh hN hx hr
  have HBx : Hid (∀ o, Below w.heap.size w (w.alloc o)) := fun o => (Below.refl _ _).alloc (Nat.le_refl _) o
  go_enter Try.func6, Try.ntmps6
  go_wp2
  any_goals (go_ret; exact ⟨⟨_, rfl⟩, HBx.out _⟩)
  go_loop [13, 14] (fun t i => ∃ (k : Nat) (s : Int), k ≤ n ∧ i = .int .i64 k ∧ t = .int .i64 s ∧ 0 ≤ s ∧ s ≤ 1048576) (fun _ i => n - (intOf i).toNat)
  case atStart => exact ⟨0, _, Nat.zero_le _, rfl, rfl, by omega, by omega⟩
  case round =>
    obtain ⟨k, s, hk, rfl, rfl, hs0, hs1⟩ := hrel
    by_cases hlt : k < n
    · as_aux_lemma =>
        obtain rfl := HA.out (Nat.lt_of_le_of_lt (Nat.zero_le _) hlt)
        obtain ⟨c0, _, c2, c3, _, c5, _⟩ := HC.out k hlt
        have hbl : b < w.heap.size := World.block_lt_of_cell? w _ c0
        have hhk := HH.out k hlt
        obtain ⟨_, hcapk, bk, offk, _, haok, hck⟩ := HS.out k hlt
        have HAk : Hid (0 < (Z k).hl → (Z k).ha = some ⟨bk, offk, none⟩) := haok
        have HCk : Hid (∀ j, j < (Z k).hl → w.cell? ⟨bk, offk + j, none⟩ = some (.string (G k j))) := hck
        clear haok hck
        generalize hzk : Z k = zk at c0 c2 c3 c5 hhk hcapk HAk HCk
        clear hzk
        obtain ⟨nmk, szk, shak, mdk, repk, hak, hlk, hcpk, verk, epk, remk, ptrk, damk⟩ := zk
        simp only at c0 c2 c3 c5 hhk hcapk HAk HCk
        go_wp2
        any_goals (go_ret; exact ⟨⟨_, rfl⟩, HBx.out _⟩)
        go_loop [13, 15] (fun t i => ∃ (j : Nat) (s : Int), j ≤ hlk ∧ i = .int .i64 j ∧ t = .int .i64 s ∧ 0 ≤ s ∧ s ≤ 1048576) (fun _ i => hlk - (intOf i).toNat)
        case atStart => exact ⟨0, _, Nat.zero_le _, rfl, rfl, by omega, by omega⟩
        case round =>
          obtain ⟨j, t, hj, rfl, rfl, ht0, ht1⟩ := hrel
          by_cases hjt : j < hlk
          · as_aux_lemma =>
            obtain rfl := HAk.out (Nat.lt_of_le_of_lt (Nat.zero_le _) hjt)
            have d0 := HCk.out j hjt
            have hbk : bk < w.heap.size := World.block_lt_of_cell? w _ d0
            go_wp2
            any_goals (go_ret; exact ⟨⟨_, rfl⟩, HBx.out _⟩)
            go_round
            case rel => exact ⟨j + 1, _, hjt, step_num j, rfl, by omega, by omega⟩
            case measure => exact step_down hlk j hjt
          · as_aux_lemma =>
            go_wp2
            go_round
            case rel => exact ⟨k + 1, _, hlt, step_num k, rfl, by omega, by omega⟩
            case measure => exact step_down n k hlt
    · as_aux_lemma =>
      clear HA HC HS HH
      go_wp2
      any_goals (go_ret; exact ⟨⟨_, rfl⟩, HBx.out _⟩)
      go_loop [13, 16] (fun t i => ∃ (j : Nat) (s : Int), j ≤ n1 ∧ i = .int .i64 j ∧ t = .int .i64 s ∧ 0 ≤ s ∧ s ≤ 1048576) (fun _ i => n1 - (intOf i).toNat)
      case atStart => exact ⟨0, _, Nat.zero_le _, rfl, rfl, by omega, by omega⟩
      case round =>
        obtain ⟨j, t, hj, rfl, rfl, ht0, ht1⟩ := hrel
        by_cases hjt : j < n1
        · as_aux_lemma =>
            obtain rfl := HA1.out (Nat.lt_of_le_of_lt (Nat.zero_le _) hjt)
            have d0 := HC1.out j hjt
            have hbk : b1 < w.heap.size := World.block_lt_of_cell? w _ d0
            go_wp2
            any_goals (go_ret; exact ⟨⟨_, rfl⟩, HBx.out _⟩)
            go_round
            case rel => exact ⟨j + 1, _, hjt, step_num j, rfl, by omega, by omega⟩
            case measure => exact step_down n1 j hjt
        · as_aux_lemma =>
          clear HA1 HC1
          go_wp2
          any_goals (go_ret; exact ⟨⟨_, rfl⟩, HBx.out _⟩)
          go_loop [13, 17] (fun t i => ∃ (j : Nat) (s : Int), j ≤ n2 ∧ i = .int .i64 j ∧ t = .int .i64 s ∧ 0 ≤ s ∧ s ≤ 1048576) (fun _ i => n2 - (intOf i).toNat)
          case atStart => exact ⟨0, _, Nat.zero_le _, rfl, rfl, by omega, by omega⟩
          case round =>
            obtain ⟨i2, t2, hi2, rfl, rfl, hu0, hu1⟩ := hrel
            by_cases hit : i2 < n2
            · as_aux_lemma =>
                obtain rfl := HA2.out (Nat.lt_of_le_of_lt (Nat.zero_le _) hit)
                have e0 := HC2.out i2 hit
                have hb2 : b2 < w.heap.size := World.block_lt_of_cell? w _ e0
                obtain ⟨_, hcap3, b3, off3, hao3, hc3, hs3⟩ := HS2.out i2 hit
                have HA3 : Hid (0 < N i2 → A i2 = some ⟨b3, off3, none⟩) := hao3
                have HC3 : Hid (∀ i, i < N i2 → WriteAt w b3 (off3 + i * 3) (X i2 i)) := hc3
                have HS3 : Hid (∀ i, i < N i2 → RepAt w (X i2 i)) := hs3
                have HX3 : Hid (∀ j, j < N i2 → Some63 (X i2 j)) := HX.out i2 hit
                have hN3 := HN.out i2 hit
                clear hao3 hc3 hs3
                generalize A i2 = a3 at e0 HA3
                generalize N i2 = n3 at e0 hcap3 HA3 HC3 HS3 HX3 hN3
                generalize C i2 = cp3 at e0 hcap3
                generalize X i2 = X3 at HC3 HS3 HX3
                go_wp2
                any_goals (go_ret; exact ⟨⟨_, rfl⟩, HBx.out _⟩)
                go_loop [13, 18] (fun t i => ∃ (j : Nat) (s : Int), j ≤ n3 ∧ i = .int .i64 j ∧ t = .int .i64 s ∧ 0 ≤ s ∧ s ≤ 1048576) (fun _ i => n3 - (intOf i).toNat)
                case atStart => exact ⟨0, _, Nat.zero_le _, rfl, rfl, by omega, by omega⟩
                case round =>
                  obtain ⟨i3, t3, hi3, rfl, rfl, hv0, hv1⟩ := hrel
                  by_cases hjt3 : i3 < n3
                  · obtain rfl := HA3.out (Nat.lt_of_le_of_lt (Nat.zero_le _) hjt3)
                    obtain ⟨_, f1, f2⟩ := HC3.out i3 hjt3
                    have hb3 : b3 < w.heap.size := World.block_lt_of_cell? w _ f1
                    have hx3 : (X3 i3).z.hl ≤ 9223372036854775807 := HX3.out i3 hjt3
                    rcases HS3.out i3 hjt3 with hno | ⟨b4, o4, hyes, hf4, hst4⟩
                    · as_aux_lemma =>
                        rw [hno] at f2
                        go_wp2
                        any_goals (go_ret; exact ⟨⟨_, rfl⟩, HBx.out _⟩)
                        go_round
                        case rel => exact ⟨i3 + 1, _, hjt3, step_num i3, rfl, by omega, by omega⟩
                        case measure => exact step_down n3 i3 hjt3
                    · as_aux_lemma =>
                        rw [hyes] at f2
                        obtain ⟨c0, _, c2, c3, _, c5, _⟩ := hf4
                        have hbl : b4 < w.heap.size := World.block_lt_of_cell? w _ c0
                        obtain ⟨_, hcapk, bk, offk, _, haok, hck⟩ := hst4
                        have HAk : Hid (0 < (X3 i3).z.hl → (X3 i3).z.ha = some ⟨bk, offk, none⟩) := haok
                        have HCk : Hid (∀ j, j < (X3 i3).z.hl → w.cell? ⟨bk, offk + j, none⟩ = some (.string ((X3 i3).g j))) := hck
                        clear haok hck hyes
                        generalize (X3 i3).z = zk at c0 c2 c3 c5 hx3 hcapk HAk HCk
                        generalize (X3 i3).g = gk at HCk
                        obtain ⟨nmk, szk, shak, mdk, repk, hak, hlk, hcpk, verk, epk, remk, ptrk, damk⟩ := zk
                        simp only at c0 c2 c3 c5 hx3 hcapk HAk HCk
                        go_wp2
                        any_goals (go_ret; exact ⟨⟨_, rfl⟩, HBx.out _⟩)
                        go_loop [13, 19] (fun t i => ∃ (j : Nat) (s : Int), j ≤ hlk ∧ i = .int .i64 j ∧ t = .int .i64 s ∧ 0 ≤ s ∧ s ≤ 1048576) (fun _ i => hlk - (intOf i).toNat)
                        case atStart => exact ⟨0, _, Nat.zero_le _, rfl, rfl, by omega, by omega⟩
                        case round =>
                          obtain ⟨j5, t5, hj5, rfl, rfl, hw0, hw1⟩ := hrel
                          by_cases hjt5 : j5 < hlk
                          · as_aux_lemma =>
                            obtain rfl := HAk.out (Nat.lt_of_le_of_lt (Nat.zero_le _) hjt5)
                            have d0 := HCk.out j5 hjt5
                            have hbk : bk < w.heap.size := World.block_lt_of_cell? w _ d0
                            go_wp2
                            any_goals (go_ret; exact ⟨⟨_, rfl⟩, HBx.out _⟩)
                            go_round
                            case rel => exact ⟨j5 + 1, _, hjt5, step_num j5, rfl, by omega, by omega⟩
                            case measure => exact step_down hlk j5 hjt5
                          · as_aux_lemma =>
                            go_wp2
                            go_round
                            case rel => exact ⟨i3 + 1, _, hjt3, step_num i3, rfl, by omega, by omega⟩
                            case measure => exact step_down n3 i3 hjt3
                  · as_aux_lemma =>
                    go_wp2
                    go_round
                    case rel => exact ⟨i2 + 1, _, hit, step_num i2, rfl, by omega, by omega⟩
                    case measure => exact step_down n2 i2 hit
            · as_aux_lemma =>
                clear HA2 HC2 HS2 HN HX
                obtain ⟨ver, wr, rp, z, g⟩ := x
                have hxl' : z.hl ≤ 9223372036854775807 := hxl
                rcases HR.out with hno | ⟨b4, o4, hyes, hf4, hst4⟩
                · as_aux_lemma =>
                    simp only at hno
                    subst hno
                    go_wp2
                    all_goals (go_ret; exact ⟨⟨_, rfl⟩, HBx.out _⟩)
                · as_aux_lemma =>
                    simp only at hyes hf4 hst4
                    subst hyes
                    obtain ⟨c0, _, c2, c3, _, c5, _⟩ := hf4
                    have hbl : b4 < w.heap.size := World.block_lt_of_cell? w _ c0
                    obtain ⟨_, hcapk, bk, offk, _, haok, hck⟩ := hst4
                    have HAk : Hid (0 < z.hl → z.ha = some ⟨bk, offk, none⟩) := haok
                    have HCk : Hid (∀ j, j < z.hl → w.cell? ⟨bk, offk + j, none⟩ = some (.string (g j))) := hck
                    clear haok hck HR hxl
                    obtain ⟨nmk, szk, shak, mdk, repk, hak, hlk, hcpk, verk, epk, remk, ptrk, damk⟩ := z
                    simp only at c0 c2 c3 c5 hxl' hcapk HAk HCk
                    go_wp2
                    any_goals (go_ret; exact ⟨⟨_, rfl⟩, HBx.out _⟩)
                    go_loop [13, 20] (fun t i => ∃ (j : Nat) (s : Int), j ≤ hlk ∧ i = .int .i64 j ∧ t = .int .i64 s ∧ 0 ≤ s ∧ s ≤ 1048576) (fun _ i => hlk - (intOf i).toNat)
                    case atStart => exact ⟨0, _, Nat.zero_le _, rfl, rfl, by omega, by omega⟩
                    case round =>
                      obtain ⟨j5, t5, hj5, rfl, rfl, hw0, hw1⟩ := hrel
                      by_cases hjt5 : j5 < hlk
                      · as_aux_lemma =>
                        obtain rfl := HAk.out (Nat.lt_of_le_of_lt (Nat.zero_le _) hjt5)
                        have d0 := HCk.out j5 hjt5
                        have hbk : bk < w.heap.size := World.block_lt_of_cell? w _ d0
                        go_wp2
                        any_goals (go_ret; exact ⟨⟨_, rfl⟩, HBx.out _⟩)
                        go_round
                        case rel => exact ⟨j5 + 1, _, hjt5, step_num j5, rfl, by omega, by omega⟩
                        case measure => exact step_down hlk j5 hjt5
                      · as_aux_lemma =>
                        go_wp2
                        go_ret
                        exact ⟨⟨_, rfl⟩, HBx.out _⟩

end Go.Proofs.Qxb6612566a.st
