/-
  eqStrings, eqFile, sameFile at a file and its like; minInt, lastKey, ZZnewStore.
-/
import Derived.Test.Qxb6612566aStOut
namespace Go.Proofs.Qxb6612566a.st
open Go.RowKit

theorem ret_int {a b : Int} (h : a = b) : Ending.returned (.int .i64 a) = .returned (.int .i64 b) := by rw [h]

theorem minInt_any (a b : Nat) (w : World) : Calls Try.prog 11 #[.int .i64 a, .int .i64 b] w fun e w' => e = .returned (.int .i64 ((min a b : Nat) : Int)) ∧ w' = w := by
  go_enter Try.func11, Try.ntmps11
  go_wp2
  all_goals go_ret
  all_goals exact ⟨ret_int (by omega), rfl⟩

theorem newStore_any (m1 m2 : Nat) (w : World) : Calls Try.prog 12 #[.map (some m1), .map (some m2), .map none] w fun e w' => e = .returned (.pointer (some ⟨w.heap.size, 0, none⟩)) ∧ Below w.heap.size w w' ∧ w'.cell? ⟨w.heap.size, 4, none⟩ = some (.map (some m1)) ∧ w'.cell? ⟨w.heap.size, 5, none⟩ = some (.map (some m2)) := by
  go_enter Try.func12, Try.ntmps12
  go_wp2
  go_ret
  exact ⟨rfl, (Below.refl _ _).alloc (Nat.le_refl _) _, by rw [World.cell?_alloc_new]; rfl, by rw [World.cell?_alloc_new]; rfl⟩

set_option maxHeartbeats 1000000 in
theorem lastKey_any (ao : Option Addr) (n cap : Nat) (g : Nat → ByteArray) (m : Nat) (s : ByteArray) (w : World) (hv : StrsAt 0 w ao n cap g) (hm : m ≤ n) (hn : m ≤ 65536) :
    Calls Try.prog 10 #[.slice ao n cap, .int .i64 m, .string s] w fun e w' => SomeInt (LastIs m g s) e ∧ w' = w := by
  obtain ⟨_, hcap, b, off, _, hao, hc⟩ := hv
  have HA : Hid (0 < n → ao = some ⟨b, off, none⟩) := hao
  have HC : Hid (∀ k, k < n → w.cell? ⟨b, off + k, none⟩ = some (.string (g k))) := hc
  clear hao hc
  go_enter Try.func10, Try.ntmps10
  go_wp2
  go_loop [7] (fun i => ∃ k : Nat, k ≤ m ∧ i = .int .i64 ((k : Int) - 1) ∧ Hid (∀ j, k ≤ j → j < m → g j ≠ s)) (fun i => (intOf i + 1).toNat)
  case atStart => exact ⟨m, Nat.le_refl _, rfl, fun j h1 h2 => absurd h1 (by omega)⟩
  case round =>
    obtain ⟨k, hk, rfl, hno⟩ := hrel
    by_cases hpos : 0 < k
    · obtain rfl := HA.out (by omega)
      obtain ⟨i, rfl⟩ : ∃ i, k = i + 1 := ⟨k - 1, by omega⟩
      have c0 := HC.out i (by omega)
      have e1 : (((i + 1 : Nat) : Int) - 1) = (i : Int) := by omega
      rw [e1]
      have hm1 : (i : Int) < (n : Int) := by omega
      cases hq : ((g i).toList == s.toList)
      · go_wp2
        go_round
        case rel => exact ⟨i, by omega, by simp, fun j h1 h2 => by
          rcases (show j = i ∨ i + 1 ≤ j by omega) with rfl | h'
          · exact ne_of_false hq
          · exact hno.out j h' h2⟩
        case measure => simp [intOf]
      · go_wp2
        go_ret
        exact ⟨⟨_, rfl, Or.inr ⟨i, by omega, rfl, eq_of_true hq, fun j h1 h2 => hno.out j (by omega) h2⟩⟩, rfl⟩
    · obtain rfl : k = 0 := by omega
      go_wp2
      go_ret
      exact ⟨⟨_, rfl, Or.inl ⟨rfl, fun j h => hno.out j (by omega) h⟩⟩, rfl⟩

set_option maxHeartbeats 1000000 in
/-- Two slices of the same strings. -/
theorem eqStrings_any {lo lo' : Nat} (ao ao' : Option Addr) (n cap cap' : Nat) (g : Nat → ByteArray) (w : World) (hv : StrsAt lo w ao n cap g) (hv' : StrsAt lo' w ao' n cap' g) (hnn : ao = none ↔ ao' = none) (hn : n ≤ 65536) :
    Calls Try.prog 31 #[.slice ao n cap, .slice ao' n cap'] w fun e w' => e = .returned (.bool true) ∧ Below w.heap.size w w' := by
  obtain ⟨hz, hcap, b, off, _, hao, hc⟩ := hv
  obtain ⟨_, hcap', b', off', _, hao', hc'⟩ := hv'
  have HA : Hid (0 < n → ao = some ⟨b, off, none⟩) := hao
  have HA' : Hid (0 < n → ao' = some ⟨b', off', none⟩) := hao'
  have HC : Hid (∀ k, k < n → w.cell? ⟨b, off + k, none⟩ = some (.string (g k))) := hc
  have HC' : Hid (∀ k, k < n → w.cell? ⟨b', off' + k, none⟩ = some (.string (g k))) := hc'
  have HZ : Hid (ao = none → n = 0 ∧ cap = 0) := hz
  have HNN : Hid (ao = none ↔ ao' = none) := hnn
  clear hao hc hao' hc' hnn hz
  have q23 : ∀ (w : World) (a : Option Addr) (n c n' c' : Nat), (binOp .eql 23 (.slice a n c) (.slice none n' c')).run Try.prog w = .ok (.bool a.isNone) w := fun w a n c n' c' => Lib.run_eql_slice_nil w _ _ a n c n' c' Try.underlying23
  cases ao with
  | none =>
    obtain ⟨rfl, rfl⟩ := HZ.out rfl
    obtain rfl := HNN.out.1 rfl
    go_enter Try.func31, Try.ntmps31
    go_wp2
    go_loop [5] (fun i => i = .int .i64 0) (fun _ => 0)
    case atStart => exact rfl
    case round =>
      obtain rfl := hrel
      go_wp2
      go_ret
      exact ⟨rfl, Below.refl _ _⟩
  | some a =>
    cases ao' with
    | none => exact absurd (HNN.out.2 rfl) (by simp)
    | some a' =>
      clear HZ HNN
      go_enter Try.func31, Try.ntmps31
      go_wp2
      go_loopw [5] (fun i wr => ∃ k : Nat, k ≤ n ∧ i = .int .i64 k ∧ Hid (Below w.heap.size w wr)) (fun i _ => n - (intOf i).toNat)
      case atStart => exact ⟨0, Nat.zero_le _, rfl, Below.refl _ _⟩
      case round =>
        obtain ⟨k, hk, rfl, hB⟩ := hrel
        by_cases hlt : k < n
        · cases HA.out (Nat.lt_of_le_of_lt (Nat.zero_le _) hlt)
          cases HA'.out (Nat.lt_of_le_of_lt (Nat.zero_le _) hlt)
          have c0 := cell_over hB.out (Nat.le_refl _) (HC.out k hlt)
          have c1 := cell_over hB.out (Nat.le_refl _) (HC'.out k hlt)
          have hlt' : (k : Int) < (n : Int) := by omega
          go_wp2
          go_quiet (fail)
          go_wp2
          go_roundw
          case rel => exact ⟨k + 1, hlt, step_num k, below_drewN' hB.out _⟩
          case measure => exact step_down n k hlt
        · go_wp2
          go_ret
          exact ⟨rfl, hB.out⟩

theorem below2' (w : World) (o1 o2 : Obj) : Below w.heap.size w ((w.alloc o1).alloc o2) := ((Below.refl w.heap.size w).alloc (Nat.le_refl _) o1).alloc (by simp) o2

set_option maxRecDepth 100000 in
set_option maxHeartbeats 4000000 in
theorem eqFile_any {lo lo' : Nat} (z : ZF) (ao ao' : Option Addr) (cap cap' : Nat) (g : Nat → ByteArray) (w : World) (hv : StrsAt lo w ao z.hl cap g) (hv' : StrsAt lo' w ao' z.hl cap' g) (hnn : ao = none ↔ ao' = none) (hn : z.hl ≤ 65536) :
    Calls Try.prog 19 #[fileVal z ao cap, fileVal z ao' cap'] w fun e w' => e = .returned (.bool true) ∧ Below w.heap.size w w' := by
  have HV : Hid (StrsAt lo w ao z.hl cap g) := hv
  have HV' : Hid (StrsAt lo' w ao' z.hl cap' g) := hv'
  have HN : Hid (ao = none ↔ ao' = none) := hnn
  clear hv hv' hnn
  obtain ⟨nm, sz, sha, md, rep, ha, hl, hcp, ver, ep, rem, ptr, dam⟩ := z
  simp only at hn HV HV' ⊢
  go_enter Try.func19, Try.ntmps19
  go_wp2_with fail
  refine (eqStrings_any ao ao' hl cap cap' g _ (HV.out.over (below2' w _ _) (Nat.le_refl _)) (HV'.out.over (below2' w _ _) (Nat.le_refl _)) HN.out hn).mono ?_
  rintro e w1 ⟨rfl, hb1⟩
  obtain ⟨q1, q2⟩ := bcell hb1
  have HB1 : Hid (Below w.heap.size w w1) := (below2' w _ _).trans (hb1.mono (by simp; omega))
  clear hb1 HV HV' HN
  go_wp2
  go_ret
  exact ⟨rfl, HB1.out⟩

theorem pair_over {w w' : World} {b1 b2 : Nat} {z zo : ZF} (hb : Below w.heap.size w w') (h : FileAt w b1 0 z ∧ FileAt w b2 0 zo) : FileAt w' b1 0 z ∧ FileAt w' b2 0 zo :=
  ⟨h.1.over hb (Nat.le_refl _), h.2.over hb (Nat.le_refl _)⟩

theorem pair_flat {w : World} {b1 b2 : Nat} {z zo : ZF} (h : FileAt w b1 0 z ∧ FileAt w b2 0 zo) : w.cell? ⟨b1, 0, none⟩ = some (.string z.nm) ∧ w.cell? ⟨b1, 1, none⟩ = some (.int .i64 z.sz) ∧ w.cell? ⟨b1, 2, none⟩ = some (.string z.sha) ∧ w.cell? ⟨b1, 3, none⟩ = some (.string z.md) ∧ w.cell? ⟨b1, 4, none⟩ = some (.int .i64 z.rep) ∧ w.cell? ⟨b1, 5, none⟩ = some (.slice z.ha z.hl z.hc) ∧ w.cell? ⟨b1, 6, none⟩ = some (.int .i64 z.ver) ∧ w.cell? ⟨b1, 7, none⟩ = some (.int .i64 z.ep) ∧ w.cell? ⟨b1, 8, none⟩ = some (.int .i64 z.rem) ∧ w.cell? ⟨b1, 9, none⟩ = some (.bool z.ptr) ∧ w.cell? ⟨b1, 10, none⟩ = some (.bool z.dam) ∧ w.cell? ⟨b2, 0, none⟩ = some (.string zo.nm) ∧ w.cell? ⟨b2, 1, none⟩ = some (.int .i64 zo.sz) ∧ w.cell? ⟨b2, 2, none⟩ = some (.string zo.sha) ∧ w.cell? ⟨b2, 3, none⟩ = some (.string zo.md) ∧ w.cell? ⟨b2, 4, none⟩ = some (.int .i64 zo.rep) ∧ w.cell? ⟨b2, 5, none⟩ = some (.slice zo.ha zo.hl zo.hc) ∧ w.cell? ⟨b2, 6, none⟩ = some (.int .i64 zo.ver) ∧ w.cell? ⟨b2, 7, none⟩ = some (.int .i64 zo.ep) ∧ w.cell? ⟨b2, 8, none⟩ = some (.int .i64 zo.rem) ∧ w.cell? ⟨b2, 9, none⟩ = some (.bool zo.ptr) ∧ w.cell? ⟨b2, 10, none⟩ = some (.bool zo.dam) := by
  obtain ⟨⟨h0, h1, h2, h3, h4, h5, h6, h7, h8, h9, h10⟩, ⟨k0, k1, k2, k3, k4, k5, k6, k7, k8, k9, k10⟩⟩ := h
  exact ⟨h0, h1, h2, h3, h4, h5, h6, h7, h8, h9, h10, k0, k1, k2, k3, k4, k5, k6, k7, k8, k9, k10⟩
theorem pair_deep {w : World} {b1 b2 : Nat} {z zo : ZF} (h : w.cell? ⟨b1, 0, none⟩ = some (.string z.nm) ∧ w.cell? ⟨b1, 1, none⟩ = some (.int .i64 z.sz) ∧ w.cell? ⟨b1, 2, none⟩ = some (.string z.sha) ∧ w.cell? ⟨b1, 3, none⟩ = some (.string z.md) ∧ w.cell? ⟨b1, 4, none⟩ = some (.int .i64 z.rep) ∧ w.cell? ⟨b1, 5, none⟩ = some (.slice z.ha z.hl z.hc) ∧ w.cell? ⟨b1, 6, none⟩ = some (.int .i64 z.ver) ∧ w.cell? ⟨b1, 7, none⟩ = some (.int .i64 z.ep) ∧ w.cell? ⟨b1, 8, none⟩ = some (.int .i64 z.rem) ∧ w.cell? ⟨b1, 9, none⟩ = some (.bool z.ptr) ∧ w.cell? ⟨b1, 10, none⟩ = some (.bool z.dam) ∧ w.cell? ⟨b2, 0, none⟩ = some (.string zo.nm) ∧ w.cell? ⟨b2, 1, none⟩ = some (.int .i64 zo.sz) ∧ w.cell? ⟨b2, 2, none⟩ = some (.string zo.sha) ∧ w.cell? ⟨b2, 3, none⟩ = some (.string zo.md) ∧ w.cell? ⟨b2, 4, none⟩ = some (.int .i64 zo.rep) ∧ w.cell? ⟨b2, 5, none⟩ = some (.slice zo.ha zo.hl zo.hc) ∧ w.cell? ⟨b2, 6, none⟩ = some (.int .i64 zo.ver) ∧ w.cell? ⟨b2, 7, none⟩ = some (.int .i64 zo.ep) ∧ w.cell? ⟨b2, 8, none⟩ = some (.int .i64 zo.rem) ∧ w.cell? ⟨b2, 9, none⟩ = some (.bool zo.ptr) ∧ w.cell? ⟨b2, 10, none⟩ = some (.bool zo.dam)) : FileAt w b1 0 z ∧ FileAt w b2 0 zo := by
  obtain ⟨h0, h1, h2, h3, h4, h5, h6, h7, h8, h9, h10, k0, k1, k2, k3, k4, k5, k6, k7, k8, k9, k10⟩ := h
  exact ⟨⟨h0, h1, h2, h3, h4, h5, h6, h7, h8, h9, h10⟩, ⟨k0, k1, k2, k3, k4, k5, k6, k7, k8, k9, k10⟩⟩

theorem pair_start (w : World) (z zo : ZF) (t1 t2 : TypeId) : FileAt (((w.alloc (.cells #[.string z.nm, .int .i64 z.sz, .string z.sha, .string z.md, .int .i64 z.rep, .slice z.ha z.hl z.hc, .int .i64 z.ver, .int .i64 z.ep, .int .i64 z.rem, .bool z.ptr, .bool z.dam] t1)).alloc (.cells #[.string zo.nm, .int .i64 zo.sz, .string zo.sha, .string zo.md, .int .i64 zo.rep, .slice zo.ha zo.hl zo.hc, .int .i64 zo.ver, .int .i64 zo.ep, .int .i64 zo.rem, .bool zo.ptr, .bool zo.dam] t2)).drew) w.heap.size 0 z ∧ FileAt (((w.alloc (.cells #[.string z.nm, .int .i64 z.sz, .string z.sha, .string z.md, .int .i64 z.rep, .slice z.ha z.hl z.hc, .int .i64 z.ver, .int .i64 z.ep, .int .i64 z.rem, .bool z.ptr, .bool z.dam] t1)).alloc (.cells #[.string zo.nm, .int .i64 zo.sz, .string zo.sha, .string zo.md, .int .i64 zo.rep, .slice zo.ha zo.hl zo.hc, .int .i64 zo.ver, .int .i64 zo.ep, .int .i64 zo.rem, .bool zo.ptr, .bool zo.dam] t2)).drew) (w.heap.size + 1) 0 zo := by
  have h1 : (((w.alloc (.cells #[.string z.nm, .int .i64 z.sz, .string z.sha, .string z.md, .int .i64 z.rep, .slice z.ha z.hl z.hc, .int .i64 z.ver, .int .i64 z.ep, .int .i64 z.rem, .bool z.ptr, .bool z.dam] t1)).alloc (.cells #[.string zo.nm, .int .i64 zo.sz, .string zo.sha, .string zo.md, .int .i64 zo.rep, .slice zo.ha zo.hl zo.hc, .int .i64 zo.ver, .int .i64 zo.ep, .int .i64 zo.rem, .bool zo.ptr, .bool zo.dam] t2)).drew).heap[w.heap.size]? = some (.cells #[.string z.nm, .int .i64 z.sz, .string z.sha, .string z.md, .int .i64 z.rep, .slice z.ha z.hl z.hc, .int .i64 z.ver, .int .i64 z.ep, .int .i64 z.rem, .bool z.ptr, .bool z.dam] t1 (0, 0)) := by
    show ((w.alloc _).alloc _).heap[w.heap.size]? = _
    rw [Below.heap_alloc _ _ _ (by simp)]; exact heap_alloc_new w _
  have h2 : (((w.alloc (.cells #[.string z.nm, .int .i64 z.sz, .string z.sha, .string z.md, .int .i64 z.rep, .slice z.ha z.hl z.hc, .int .i64 z.ver, .int .i64 z.ep, .int .i64 z.rem, .bool z.ptr, .bool z.dam] t1)).alloc (.cells #[.string zo.nm, .int .i64 zo.sz, .string zo.sha, .string zo.md, .int .i64 zo.rep, .slice zo.ha zo.hl zo.hc, .int .i64 zo.ver, .int .i64 zo.ep, .int .i64 zo.rem, .bool zo.ptr, .bool zo.dam] t2)).drew).heap[w.heap.size + 1]? = some (.cells #[.string zo.nm, .int .i64 zo.sz, .string zo.sha, .string zo.md, .int .i64 zo.rep, .slice zo.ha zo.hl zo.hc, .int .i64 zo.ver, .int .i64 zo.ep, .int .i64 zo.rem, .bool zo.ptr, .bool zo.dam] t2 (0, 0)) := by
    have h := heap_alloc_new (w.alloc (.cells #[.string z.nm, .int .i64 z.sz, .string z.sha, .string z.md, .int .i64 z.rep, .slice z.ha z.hl z.hc, .int .i64 z.ver, .int .i64 z.ep, .int .i64 z.rem, .bool z.ptr, .bool z.dam] t1)) (.cells #[.string zo.nm, .int .i64 zo.sz, .string zo.sha, .string zo.md, .int .i64 zo.rep, .slice zo.ha zo.hl zo.hc, .int .i64 zo.ver, .int .i64 zo.ep, .int .i64 zo.rem, .bool zo.ptr, .bool zo.dam] t2)
    show ((w.alloc _).alloc _).heap[w.heap.size + 1]? = _
    simpa using h
  have c1 : ∀ j, (((w.alloc (.cells #[.string z.nm, .int .i64 z.sz, .string z.sha, .string z.md, .int .i64 z.rep, .slice z.ha z.hl z.hc, .int .i64 z.ver, .int .i64 z.ep, .int .i64 z.rem, .bool z.ptr, .bool z.dam] t1)).alloc (.cells #[.string zo.nm, .int .i64 zo.sz, .string zo.sha, .string zo.md, .int .i64 zo.rep, .slice zo.ha zo.hl zo.hc, .int .i64 zo.ver, .int .i64 zo.ep, .int .i64 zo.rem, .bool zo.ptr, .bool zo.dam] t2)).drew).cell? ⟨w.heap.size, j, none⟩ = (#[.string z.nm, .int .i64 z.sz, .string z.sha, .string z.md, .int .i64 z.rep, .slice z.ha z.hl z.hc, .int .i64 z.ver, .int .i64 z.ep, .int .i64 z.rem, .bool z.ptr, .bool z.dam] : Array Value)[j]? := fun j => cell_of_row _ _ j _ _ _ h1
  have c2 : ∀ j, (((w.alloc (.cells #[.string z.nm, .int .i64 z.sz, .string z.sha, .string z.md, .int .i64 z.rep, .slice z.ha z.hl z.hc, .int .i64 z.ver, .int .i64 z.ep, .int .i64 z.rem, .bool z.ptr, .bool z.dam] t1)).alloc (.cells #[.string zo.nm, .int .i64 zo.sz, .string zo.sha, .string zo.md, .int .i64 zo.rep, .slice zo.ha zo.hl zo.hc, .int .i64 zo.ver, .int .i64 zo.ep, .int .i64 zo.rem, .bool zo.ptr, .bool zo.dam] t2)).drew).cell? ⟨w.heap.size + 1, j, none⟩ = (#[.string zo.nm, .int .i64 zo.sz, .string zo.sha, .string zo.md, .int .i64 zo.rep, .slice zo.ha zo.hl zo.hc, .int .i64 zo.ver, .int .i64 zo.ep, .int .i64 zo.rem, .bool zo.ptr, .bool zo.dam] : Array Value)[j]? := fun j => cell_of_row _ _ j _ _ _ h2
  exact ⟨⟨c1 0, c1 1, c1 2, c1 3, c1 4, c1 5, c1 6, c1 7, c1 8, c1 9, c1 10⟩, ⟨c2 0, c2 1, c2 2, c2 3, c2 4, c2 5, c2 6, c2 7, c2 8, c2 9, c2 10⟩⟩


set_option maxRecDepth 100000 in
set_option maxHeartbeats 8000000 in
theorem sameFile_any {lo lo' : Nat} (z : ZF) (ao : Option Addr) (cap : Nat) (g : Nat → ByteArray) (w : World) (hv : StrsAt lo w ao z.hl cap g) (hv' : StrsAt lo' w z.ha z.hl z.hc g) (hnn : ao = none ↔ z.ha = none) (hn : z.hl ≤ 65536) :
    Calls Try.prog 20 #[fileVal z ao cap, fileVal z z.ha z.hc] w fun e w' => e = .returned (.bool true) ∧ Below w.heap.size w w' := by
  have HV : Hid (StrsAt lo w ao z.hl cap g) := hv
  have HV' : Hid (StrsAt lo' w z.ha z.hl z.hc g) := hv'
  have HN : Hid (ao = none ↔ z.ha = none) := hnn
  clear hv hv' hnn
  go_enter Try.func20, Try.ntmps20
  go_wp2_with fail
  have HP : Hid (FileAt ((((w.alloc (.cells #[.string z.nm, .int .i64 z.sz, .string z.sha, .string z.md, .int .i64 z.rep, .slice ao z.hl cap, .int .i64 z.ver, .int .i64 z.ep, .int .i64 z.rem, .bool z.ptr, .bool z.dam] 52)).alloc (.cells #[.string z.nm, .int .i64 z.sz, .string z.sha, .string z.md, .int .i64 z.rep, .slice z.ha z.hl z.hc, .int .i64 z.ver, .int .i64 z.ep, .int .i64 z.rem, .bool z.ptr, .bool z.dam] 47))).drew) w.heap.size 0 { z with ha := ao, hc := cap } ∧ FileAt ((((w.alloc (.cells #[.string z.nm, .int .i64 z.sz, .string z.sha, .string z.md, .int .i64 z.rep, .slice ao z.hl cap, .int .i64 z.ver, .int .i64 z.ep, .int .i64 z.rem, .bool z.ptr, .bool z.dam] 52)).alloc (.cells #[.string z.nm, .int .i64 z.sz, .string z.sha, .string z.md, .int .i64 z.rep, .slice z.ha z.hl z.hc, .int .i64 z.ver, .int .i64 z.ep, .int .i64 z.rem, .bool z.ptr, .bool z.dam] 47))).drew) (w.heap.size + 1) 0 z) := pair_start w { z with ha := ao, hc := cap } z 52 47
  have HB : Hid (Below w.heap.size w ((((w.alloc (.cells #[.string z.nm, .int .i64 z.sz, .string z.sha, .string z.md, .int .i64 z.rep, .slice ao z.hl cap, .int .i64 z.ver, .int .i64 z.ep, .int .i64 z.rem, .bool z.ptr, .bool z.dam] 52)).alloc (.cells #[.string z.nm, .int .i64 z.sz, .string z.sha, .string z.md, .int .i64 z.rep, .slice z.ha z.hl z.hc, .int .i64 z.ver, .int .i64 z.ep, .int .i64 z.rem, .bool z.ptr, .bool z.dam] 47))).drew)) := (below2' w _ _).drew
  have HX : Hid (Below w.heap.size w (((w.alloc (.cells #[.string z.nm, .int .i64 z.sz, .string z.sha, .string z.md, .int .i64 z.rep, .slice ao z.hl cap, .int .i64 z.ver, .int .i64 z.ep, .int .i64 z.rem, .bool z.ptr, .bool z.dam] 52)).alloc (.cells #[.string z.nm, .int .i64 z.sz, .string z.sha, .string z.md, .int .i64 z.rep, .slice z.ha z.hl z.hc, .int .i64 z.ver, .int .i64 z.ep, .int .i64 z.rem, .bool z.ptr, .bool z.dam] 47)))) := below2' w _ _
  generalize (((w.alloc (.cells #[.string z.nm, .int .i64 z.sz, .string z.sha, .string z.md, .int .i64 z.rep, .slice ao z.hl cap, .int .i64 z.ver, .int .i64 z.ep, .int .i64 z.rem, .bool z.ptr, .bool z.dam] 52)).alloc (.cells #[.string z.nm, .int .i64 z.sz, .string z.sha, .string z.md, .int .i64 z.rep, .slice z.ha z.hl z.hc, .int .i64 z.ver, .int .i64 z.ep, .int .i64 z.rem, .bool z.ptr, .bool z.dam] 47))) = W at HP HB HX ⊢
  go_region_held3 (fun w' => w'.cell? ⟨w.heap.size, 0, none⟩ = some (.string z.nm) ∧ w'.cell? ⟨w.heap.size, 1, none⟩ = some (.int .i64 z.sz) ∧ w'.cell? ⟨w.heap.size, 2, none⟩ = some (.string z.sha) ∧ w'.cell? ⟨w.heap.size, 3, none⟩ = some (.string z.md) ∧ w'.cell? ⟨w.heap.size, 4, none⟩ = some (.int .i64 z.rep) ∧ w'.cell? ⟨w.heap.size, 5, none⟩ = some (.slice ao z.hl cap) ∧ w'.cell? ⟨w.heap.size, 6, none⟩ = some (.int .i64 z.ver) ∧ w'.cell? ⟨w.heap.size, 7, none⟩ = some (.int .i64 z.ep) ∧ w'.cell? ⟨w.heap.size, 8, none⟩ = some (.int .i64 z.rem) ∧ w'.cell? ⟨w.heap.size, 9, none⟩ = some (.bool z.ptr) ∧ w'.cell? ⟨w.heap.size, 10, none⟩ = some (.bool z.dam) ∧ w'.cell? ⟨w.heap.size + 1, 0, none⟩ = some (.string z.nm) ∧ w'.cell? ⟨w.heap.size + 1, 1, none⟩ = some (.int .i64 z.sz) ∧ w'.cell? ⟨w.heap.size + 1, 2, none⟩ = some (.string z.sha) ∧ w'.cell? ⟨w.heap.size + 1, 3, none⟩ = some (.string z.md) ∧ w'.cell? ⟨w.heap.size + 1, 4, none⟩ = some (.int .i64 z.rep) ∧ w'.cell? ⟨w.heap.size + 1, 5, none⟩ = some (.slice z.ha z.hl z.hc) ∧ w'.cell? ⟨w.heap.size + 1, 6, none⟩ = some (.int .i64 z.ver) ∧ w'.cell? ⟨w.heap.size + 1, 7, none⟩ = some (.int .i64 z.ep) ∧ w'.cell? ⟨w.heap.size + 1, 8, none⟩ = some (.int .i64 z.rem) ∧ w'.cell? ⟨w.heap.size + 1, 9, none⟩ = some (.bool z.ptr) ∧ w'.cell? ⟨w.heap.size + 1, 10, none⟩ = some (.bool z.dam))
    (first | exact pair_flat (z := { z with ha := ao, hc := cap }) (zo := z) HP.out | exact pair_flat (z := { z with ha := ao, hc := cap }) (zo := z) (pair_over hb1 HP.out) | exact pair_flat (z := { z with ha := ao, hc := cap }) (zo := z) (pair_over hb2 (pair_over hb1 HP.out)))
    (first | (go_at_call 29; refine (toFile_any z g _ (HV'.out.over HB.out (Nat.le_refl _)) hn).mono ?_; rintro e w1 ⟨ao1, cap1, rfl, hs1, hn1, hb1⟩) | (go_at_call 19; refine (eqFile_any z ao ao1 cap cap1 g _ ((HV.out.over HB.out (Nat.le_refl _)).over hb1 (Nat.le_refl _)) hs1 (HN.out.trans hn1.symm) hn).mono ?_; rintro e w2 ⟨rfl, hb2⟩))
  have HB2 : Hid (Below w.heap.size w w2) := (HB.out.trans (hb1.mono HB.out.size)).trans (hb2.mono (Nat.le_trans HB.out.size hb1.size))
  clear hb1 hb2 hs1 hn1 HP HB HX HV HV'
  go_wp2
  go_ret
  exact ⟨rfl, HB2.out⟩

end Go.Proofs.Qxb6612566a.st
