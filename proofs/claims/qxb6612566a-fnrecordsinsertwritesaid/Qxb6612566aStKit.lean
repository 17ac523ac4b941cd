/-
  Files in memory: a ZFile's eleven cells, a slice of strings, a slice of ZFiles. (Typed once for two seats; the numbers are laid in by a small program of this place.)
-/
import Derived.Test.Qxb6612566aRows
import Derived.WalkKit
import Derived.ProofKit
import Derived.WalkSpells
import Derived.Deep.QuietTactic
import Derived.BigQuiet
import Derived.Deep.RegionHeld3
import Derived.Deep.DrawnRows
import Derived.Deep.DeepCutAuto
import Derived.Deep.MidRow
namespace Go.Proofs.Qxb6612566a.st
open Go.RowKit

/-- A ZFile, field by field; its holders: the slice value's three parts. -/
structure ZF where
  nm : ByteArray
  sz : Int
  sha : ByteArray
  md : ByteArray
  rep : Int
  ha : Option Addr
  hl : Nat
  hc : Nat
  ver : Int
  ep : Int
  rem : Int
  ptr : Bool
  dam : Bool

/-- The eleven cells of a file, from offset o of block b on. -/
def FileAt (w : World) (b o : Nat) (z : ZF) : Prop :=
  w.cell? ⟨b, o, none⟩ = some (.string z.nm) ∧ w.cell? ⟨b, o + 1, none⟩ = some (.int .i64 z.sz) ∧ w.cell? ⟨b, o + 2, none⟩ = some (.string z.sha) ∧ w.cell? ⟨b, o + 3, none⟩ = some (.string z.md) ∧
  w.cell? ⟨b, o + 4, none⟩ = some (.int .i64 z.rep) ∧ w.cell? ⟨b, o + 5, none⟩ = some (.slice z.ha z.hl z.hc) ∧ w.cell? ⟨b, o + 6, none⟩ = some (.int .i64 z.ver) ∧ w.cell? ⟨b, o + 7, none⟩ = some (.int .i64 z.ep) ∧
  w.cell? ⟨b, o + 8, none⟩ = some (.int .i64 z.rem) ∧ w.cell? ⟨b, o + 9, none⟩ = some (.bool z.ptr) ∧ w.cell? ⟨b, o + 10, none⟩ = some (.bool z.dam)

/-- The slice of n strings, in a block from lo on; string k is g k. -/
def StrsAt (lo : Nat) (w : World) (ao : Option Addr) (n cap : Nat) (g : Nat → ByteArray) : Prop :=
  (ao = none → n = 0 ∧ cap = 0) ∧ n ≤ cap ∧ ∃ b off, lo ≤ b ∧ (0 < n → ao = some ⟨b, off, none⟩) ∧ ∀ k, k < n → w.cell? ⟨b, off + k, none⟩ = some (.string (g k))

/-- The slice value v of n ZFiles. -/
def FilesAt (w : World) (v : Value) (n : Nat) (Z : Nat → ZF) (G : Nat → Nat → ByteArray) : Prop :=
  ∃ (ao : Option Addr) (cap b off : Nat), v = .slice ao n cap ∧ (ao = none → n = 0 ∧ cap = 0) ∧ n ≤ cap ∧ (0 < n → ao = some ⟨b, off, none⟩) ∧ (∀ i, i < n → FileAt w b (off + i * 11) (Z i)) ∧
    ∀ i, i < n → StrsAt 0 w (Z i).ha (Z i).hl (Z i).hc (G i)

theorem cell_over {B : Nat} {w w' : World} {a : Addr} {x : Value} (hb : Below B w w') (hB : w.heap.size ≤ B) (h : w.cell? a = some x) : w'.cell? a = some x :=
  (hb.cell (Nat.lt_of_lt_of_le (World.block_lt_of_cell? w a h) hB)).trans h

theorem FileAt.over {B : Nat} {w w' : World} {b o : Nat} {z : ZF} (h : FileAt w b o z) (hb : Below B w w') (hB : w.heap.size ≤ B) : FileAt w' b o z := by
  obtain ⟨h0, h1, h2, h3, h4, h5, h6, h7, h8, h9, h10⟩ := h
  have c : ∀ {a : Addr} {x : Value}, w.cell? a = some x → w'.cell? a = some x := fun e => cell_over hb hB e
  exact ⟨c h0, c h1, c h2, c h3, c h4, c h5, c h6, c h7, c h8, c h9, c h10⟩

theorem StrsAt.over {lo B : Nat} {w w' : World} {ao : Option Addr} {n cap : Nat} {g : Nat → ByteArray} (h : StrsAt lo w ao n cap g) (hb : Below B w w') (hB : w.heap.size ≤ B) : StrsAt lo w' ao n cap g := by
  obtain ⟨h1, h2, b, off, hl, h3, h4⟩ := h
  exact ⟨h1, h2, b, off, hl, h3, fun k hk => cell_over hb hB (h4 k hk)⟩

theorem StrsAt.mono {lo lo' : Nat} {w : World} {ao : Option Addr} {n cap : Nat} {g : Nat → ByteArray} (h : StrsAt lo w ao n cap g) (hl : lo' ≤ lo) : StrsAt lo' w ao n cap g := by
  obtain ⟨h1, h2, b, off, h0, h3, h4⟩ := h
  exact ⟨h1, h2, b, off, by omega, h3, h4⟩

theorem StrsAt.kept {lo : Nat} {w w' : World} {ao : Option Addr} {n cap : Nat} {g : Nat → ByteArray} (h : StrsAt lo w ao n cap g) (hk : ∀ i, lo ≤ i → i < w.heap.size → w'.heap[i]? = w.heap[i]?) : StrsAt lo w' ao n cap g := by
  obtain ⟨h1, h2, b, off, h0, h3, h4⟩ := h
  refine ⟨h1, h2, b, off, h0, h3, fun k hk' => ?_⟩
  have h := h4 k hk'
  rw [World.cell?_of_block (w := w) (w' := w') (hk _ h0 (World.block_lt_of_cell? w _ h))]
  exact h

theorem FilesAt.over {B : Nat} {w w' : World} {v : Value} {n : Nat} {Z : Nat → ZF} {G : Nat → Nat → ByteArray} (h : FilesAt w v n Z G) (hb : Below B w w') (hB : w.heap.size ≤ B) : FilesAt w' v n Z G := by
  obtain ⟨ao, cap, b, off, h1, h2, h3, h4, h5, h6⟩ := h
  exact ⟨ao, cap, b, off, h1, h2, h3, h4, fun i hi => (h5 i hi).over hb hB, fun i hi => (h6 i hi).over hb hB⟩

theorem FilesAt.len {w : World} {v : Value} {n : Nat} {Z : Nat → ZF} {G : Nat → Nat → ByteArray} (h : FilesAt w v n Z G) : ∃ ao cap, v = .slice ao n cap := by
  obtain ⟨ao, cap, b, off, h1, _⟩ := h; exact ⟨ao, cap, h1⟩

theorem below_drew (w : World) (m : Nat) : Below w.heap.size w (w.drewN m) := ⟨rfl, rfl, rfl, Nat.le_refl _, fun _ _ => rfl⟩
theorem below_drewN' {B : Nat} {a b : World} (h : Below B a b) (m : Nat) : Below B a (b.drewN m) := ⟨h.os, h.tape, h.output, h.size, h.block⟩

theorem step_down (n k : Nat) (h : k < n) : n - (intOf (.int .i64 ((k : Int) + 1))).toNat < n - (intOf (.int .i64 (k : Int))).toNat := by
  simp [intOf]; omega
theorem step_num (k : Nat) : Value.int .i64 ((k : Int) + 1) = .int .i64 ((k + 1 : Nat) : Int) := by simp

/-- Some bool is handed back. -/
def SomeBool (e : Ending) : Prop := ∃ b : Bool, e = .returned (.bool b)
/-- Some int is handed back, and more is known of it. -/
def SomeInt (p : Int → Prop) (e : Ending) : Prop := ∃ r : Int, e = .returned (.int .i64 r) ∧ p r

def AL (t r : Int) : Prop := r ≤ 1048576 → t ≤ 1048576
def FB (t : Int) (hl : Nat) (r : Int) : Prop := r ≤ 1048576 → t ≤ 1048576 ∧ hl ≤ 65536
def FS (t : Int) (n : Nat) (Z : Nat → ZF) (r : Int) : Prop := r ≤ 1048576 → t ≤ 1048576 ∧ ∀ i, i < n → (Z i).hl ≤ 65536

theorem addLen_any (t n : Int) (w : World) : Calls Try.prog 8 #[.int .i64 t, .int .i64 n] w fun e w' => SomeInt (AL t) e ∧ w' = w := by
  go_enter Try.func8, Try.ntmps8
  go_wp2
  all_goals go_ret
  all_goals exact ⟨⟨_, rfl, fun h => by omega⟩, rfl⟩

set_option maxHeartbeats 1000000 in
theorem fileBytes_any (t : Int) (b o : Nat) (z : ZF) (g : Nat → ByteArray) (w : World) (hf : FileAt w b o z) (hs : StrsAt 0 w z.ha z.hl z.hc g) (hh : z.hl ≤ 9223372036854775807) :
    Calls Try.prog 9 #[.int .i64 t, .pointer (some ⟨b, o, none⟩)] w fun e w' => SomeInt (FB t z.hl) e ∧ w' = w := by
  obtain ⟨h0, _, h2, h3, _, h5, _⟩ := hf
  obtain ⟨_, hcap, hb, hoff, _, hao, hc⟩ := hs
  have HA : Hid (0 < z.hl → z.ha = some ⟨hb, hoff, none⟩) := hao
  have HC : Hid (∀ k, k < z.hl → w.cell? ⟨hb, hoff + k, none⟩ = some (.string (g k))) := hc
  clear hao hc
  obtain ⟨nm, sz, sha, md, rep, ha, hl, hcp, ver, ep, rem, ptr, dam⟩ := z
  simp only at h0 h2 h3 h5 hh hcap HA HC ⊢
  go_enter Try.func9, Try.ntmps9
  go_wp2_with fail
  refine (addLen_any _ _ _).mono ?_
  rintro e w1 ⟨⟨r1, rfl, q1⟩, hw⟩
  obtain rfl := hw.symm
  have Q1 : Hid (r1 ≤ 1048576 → t ≤ 1048576) := q1
  clear q1 hw
  go_wp2_with fail
  refine (addLen_any _ _ _).mono ?_
  rintro e w1 ⟨⟨r2, rfl, q1⟩, hw⟩
  obtain rfl := hw.symm
  have Q2 : Hid (r2 ≤ 1048576 → r1 ≤ 1048576) := q1
  clear q1 hw
  go_wp2_with fail
  refine (addLen_any _ _ _).mono ?_
  rintro e w1 ⟨⟨r3, rfl, q1⟩, hw⟩
  obtain rfl := hw.symm
  have Q3 : Hid (r3 ≤ 1048576 → r2 ≤ 1048576) := q1
  clear q1 hw
  go_wp2_with fail
  refine (addLen_any _ _ _).mono ?_
  rintro e w1 ⟨⟨r4, rfl, q1⟩, hw⟩
  obtain rfl := hw.symm
  have Q4 : Hid (r4 ≤ 1048576 → t ≤ 1048576) := fun h => Q1.out (Q2.out (Q3.out (q1 h)))
  clear q1 hw Q1 Q2 Q3
  by_cases hbig : hl ≤ 65536
  · go_wp2_with fail
    go_loop [0, 5] (fun x i => ∃ (k : Nat) (s : Int), k ≤ hl ∧ i = .int .i64 k ∧ x = .int .i64 s ∧ Hid (s ≤ 1048576 → t ≤ 1048576)) (fun _ i => hl - (intOf i).toNat)
    case atStart => exact ⟨0, _, Nat.zero_le _, rfl, rfl, Q4⟩
    case round =>
      clear Q4
      obtain ⟨k, s, hk, rfl, rfl, Q⟩ := hrel
      by_cases hlt : k < hl
      · obtain rfl := HA.out (Nat.lt_of_le_of_lt (Nat.zero_le _) hlt)
        have c0 := HC.out k hlt
        by_cases hs : s ≤ 1048576
        · go_wp2_with fail
          refine (addLen_any _ _ _).mono ?_
          rintro e w1 ⟨⟨r5, rfl, q1⟩, hw⟩
          obtain rfl := hw.symm
          have Q5 : Hid (r5 ≤ 1048576 → s ≤ 1048576) := q1
          clear q1 hw
          go_wp2_with fail
          refine (addLen_any _ _ _).mono ?_
          rintro e w1 ⟨⟨r6, rfl, q1⟩, hw⟩
          obtain rfl := hw.symm
          have Q6 : Hid (r6 ≤ 1048576 → t ≤ 1048576) := fun h => Q.out (Q5.out (q1 h))
          clear q1 hw Q5
          go_wp2_with fail
          go_round
          case rel => exact ⟨k + 1, _, hlt, step_num k, rfl, Q6⟩
          case measure => exact step_down hl k hlt
        · have hsd : decide (s ≤ 1048576) = false := by simpa using hs
          go_wp2
          go_ret
          exact ⟨⟨_, rfl, fun h => absurd h (by omega)⟩, rfl⟩
      · go_wp2
        go_ret
        exact ⟨⟨_, rfl, fun h => ⟨Q.out h, hbig⟩⟩, rfl⟩
  · go_wp2_with fail
    go_ret
    exact ⟨⟨_, rfl, fun h => absurd h (by omega)⟩, rfl⟩

set_option maxHeartbeats 1000000 in
theorem filesBytes_any (t : Int) (v : Value) (n : Nat) (Z : Nat → ZF) (G : Nat → Nat → ByteArray) (w : World) (hv : FilesAt w v n Z G) (hn : n ≤ 9223372036854775807) (hh : ∀ i, i < n → (Z i).hl ≤ 9223372036854775807) :
    Calls Try.prog 26 #[.int .i64 t, v] w fun e w' => SomeInt (FS t n Z) e ∧ w' = w := by
  obtain ⟨ao, cap, b, off, rfl, _, hcap, hao, hc, hs⟩ := hv
  have HA : Hid (0 < n → ao = some ⟨b, off, none⟩) := hao
  have HC : Hid (∀ i, i < n → FileAt w b (off + i * 11) (Z i)) := hc
  have HS : Hid (∀ i, i < n → StrsAt 0 w (Z i).ha (Z i).hl (Z i).hc (G i)) := hs
  have HH : Hid (∀ i, i < n → (Z i).hl ≤ 9223372036854775807) := hh
  clear hao hc hs hh
  by_cases hbig : n ≤ 65536
  · go_enter Try.func26, Try.ntmps26
    go_wp2_with fail
    go_loop [0, 5] (fun x i => ∃ (k : Nat) (s : Int), k ≤ n ∧ i = .int .i64 k ∧ x = .int .i64 s ∧ Hid (s ≤ 1048576 → t ≤ 1048576 ∧ ∀ j, j < k → (Z j).hl ≤ 65536)) (fun _ i => n - (intOf i).toNat)
    case atStart => exact ⟨0, _, Nat.zero_le _, rfl, rfl, fun h => ⟨h, fun j hj => absurd hj (by omega)⟩⟩
    case round =>
      obtain ⟨k, s, hk, rfl, rfl, Q⟩ := hrel
      by_cases hlt : k < n
      · obtain rfl := HA.out (Nat.lt_of_le_of_lt (Nat.zero_le _) hlt)
        by_cases hs : s ≤ 1048576
        · go_wp2_with fail
          refine (fileBytes_any _ _ _ (Z k) (G k) _ (HC.out k hlt) (HS.out k hlt) (HH.out k hlt)).mono ?_
          rintro e w1 ⟨⟨r5, rfl, q1⟩, hw⟩
          obtain rfl := hw.symm
          have Q5 : Hid (r5 ≤ 1048576 → t ≤ 1048576 ∧ ∀ j, j < k + 1 → (Z j).hl ≤ 65536) := fun h => ⟨(Q.out hs).1, fun j hj => by
            rcases (show j < k ∨ j = k by omega) with h' | rfl
            · exact (Q.out hs).2 j h'
            · exact (q1 h).2⟩
          clear q1 hw
          go_wp2_with fail
          go_round
          case rel => exact ⟨k + 1, _, hlt, step_num k, rfl, Q5⟩
          case measure => exact step_down n k hlt
        · have hsd : decide (s ≤ 1048576) = false := by simpa using hs
          go_wp2
          go_ret
          exact ⟨⟨_, rfl, fun h => absurd h (by omega)⟩, rfl⟩
      · obtain rfl : k = n := by omega
        go_wp2
        go_ret
        exact ⟨⟨_, rfl, Q.out⟩, rfl⟩
  · go_enter Try.func26, Try.ntmps26
    go_wp2_with fail
    go_ret
    exact ⟨⟨_, rfl, fun h => absurd h (by omega)⟩, rfl⟩

end Go.Proofs.Qxb6612566a.st
