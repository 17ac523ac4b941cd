/-
  Writes in memory; the byte counts of strings, writes, lists of writes, records.
-/
import Derived.Test.Qxb6612566aStKit
namespace Go.Proofs.Qxb6612566a.st
open Go.RowKit

/-- A ZWrite; its replaced record, where it has one, with its holders. -/
structure ZW where
  ver : Int
  wr : ByteArray
  rp : Option Addr
  z : ZF
  g : Nat → ByteArray

/-- The three cells of a write. -/
def WriteAt (w : World) (b o : Nat) (x : ZW) : Prop :=
  w.cell? ⟨b, o, none⟩ = some (.int .i64 x.ver) ∧ w.cell? ⟨b, o + 1, none⟩ = some (.string x.wr) ∧ w.cell? ⟨b, o + 2, none⟩ = some (.pointer x.rp)

/-- The replaced record, where there is one. -/
def RepAt (w : World) (x : ZW) : Prop := x.rp = none ∨ ∃ b o, x.rp = some ⟨b, o, none⟩ ∧ FileAt w b o x.z ∧ StrsAt 0 w x.z.ha x.z.hl x.z.hc x.g

/-- A slice of n writes. -/
def WritesAt (w : World) (ao : Option Addr) (n cap : Nat) (X : Nat → ZW) : Prop :=
  (ao = none → n = 0 ∧ cap = 0) ∧ n ≤ cap ∧ ∃ b off, (0 < n → ao = some ⟨b, off, none⟩) ∧ (∀ i, i < n → WriteAt w b (off + i * 3) (X i)) ∧ ∀ i, i < n → RepAt w (X i)

/-- The slice value v of n slices of writes. -/
def UnAt (w : World) (v : Value) (n : Nat) (A : Nat → Option Addr) (N C : Nat → Nat) (X : Nat → Nat → ZW) : Prop :=
  ∃ (ao : Option Addr) (cap b off : Nat), v = .slice ao n cap ∧ (ao = none → n = 0 ∧ cap = 0) ∧ n ≤ cap ∧ (0 < n → ao = some ⟨b, off, none⟩) ∧
    (∀ i, i < n → w.cell? ⟨b, off + i, none⟩ = some (.slice (A i) (N i) (C i))) ∧ ∀ i, i < n → WritesAt w (A i) (N i) (C i) (X i)

theorem WriteAt.over {B : Nat} {w w' : World} {b o : Nat} {x : ZW} (h : WriteAt w b o x) (hb : Below B w w') (hB : w.heap.size ≤ B) : WriteAt w' b o x :=
  ⟨cell_over hb hB h.1, cell_over hb hB h.2.1, cell_over hb hB h.2.2⟩
theorem RepAt.over {B : Nat} {w w' : World} {x : ZW} (h : RepAt w x) (hb : Below B w w') (hB : w.heap.size ≤ B) : RepAt w' x := by
  rcases h with h | ⟨b, o, h1, h2, h3⟩
  · exact Or.inl h
  · exact Or.inr ⟨b, o, h1, h2.over hb hB, h3.over hb hB⟩
theorem WritesAt.over {B : Nat} {w w' : World} {ao : Option Addr} {n cap : Nat} {X : Nat → ZW} (h : WritesAt w ao n cap X) (hb : Below B w w') (hB : w.heap.size ≤ B) : WritesAt w' ao n cap X := by
  obtain ⟨h1, h2, b, off, h3, h4, h5⟩ := h
  exact ⟨h1, h2, b, off, h3, fun i hi => (h4 i hi).over hb hB, fun i hi => (h5 i hi).over hb hB⟩
theorem UnAt.over {B : Nat} {w w' : World} {v : Value} {n : Nat} {A : Nat → Option Addr} {N C : Nat → Nat} {X : Nat → Nat → ZW} (h : UnAt w v n A N C X) (hb : Below B w w') (hB : w.heap.size ≤ B) : UnAt w' v n A N C X := by
  obtain ⟨ao, cap, b, off, h1, h2, h3, h4, h5, h6⟩ := h
  exact ⟨ao, cap, b, off, h1, h2, h3, h4, fun i hi => cell_over hb hB (h5 i hi), fun i hi => (h6 i hi).over hb hB⟩

/-- The replaced record's holders are few. -/
def Few (x : ZW) : Prop := x.rp = none ∨ x.z.hl ≤ 65536
def Some63 (x : ZW) : Prop := x.z.hl ≤ 9223372036854775807
def WB (t : Int) (n : Nat) (X : Nat → ZW) (r : Int) : Prop := r ≤ 1048576 → t ≤ 1048576 ∧ n ≤ 65536 ∧ ∀ i, i < n → Few (X i)
def UB (t : Int) (n : Nat) (N : Nat → Nat) (X : Nat → Nat → ZW) (r : Int) : Prop := r ≤ 1048576 → t ≤ 1048576 ∧ n ≤ 65536 ∧ ∀ i, i < n → N i ≤ 65536 ∧ ∀ j, j < N i → Few (X i j)

theorem fileBytes_nil (t : Int) (w : World) : Calls Try.prog 9 #[.int .i64 t, .pointer none] w fun e w' => SomeInt (fun r => r = t) e ∧ w' = w := by
  go_enter Try.func9, Try.ntmps9
  go_wp2_with fail
  go_ret
  exact ⟨⟨_, rfl, rfl⟩, rfl⟩

theorem fileBytes_rep (t : Int) (x : ZW) (w : World) (hx : RepAt w x) (hh : Some63 x) : Calls Try.prog 9 #[.int .i64 t, .pointer x.rp] w fun e w' => SomeInt (fun r => r ≤ 1048576 → t ≤ 1048576 ∧ Few x) e ∧ w' = w := by
  rcases hx with h | ⟨b, o, h, h1, h2⟩
  · rw [h]
    refine (fileBytes_nil t w).mono ?_
    rintro e w1 ⟨⟨r, rfl, rfl⟩, hw⟩
    exact ⟨⟨_, rfl, fun h' => ⟨h', Or.inl h⟩⟩, hw⟩
  · rw [h]
    refine (fileBytes_any t b o x.z x.g w h1 h2 hh).mono ?_
    rintro e w1 ⟨⟨r, rfl, q⟩, hw⟩
    exact ⟨⟨_, rfl, fun h' => ⟨(q h').1, Or.inr (q h').2⟩⟩, hw⟩

set_option maxHeartbeats 1000000 in
theorem stringsBytes_any (t : Int) (ao : Option Addr) (n cap : Nat) (g : Nat → ByteArray) (w : World) (hv : StrsAt 0 w ao n cap g) (hn : n ≤ 9223372036854775807) :
    Calls Try.prog 27 #[.int .i64 t, .slice ao n cap] w fun e w' => SomeInt (AL t) e ∧ w' = w := by
  obtain ⟨_, hcap, b, off, _, hao, hc⟩ := hv
  have HA : Hid (0 < n → ao = some ⟨b, off, none⟩) := hao
  have HC : Hid (∀ k, k < n → w.cell? ⟨b, off + k, none⟩ = some (.string (g k))) := hc
  clear hao hc
  by_cases hbig : n ≤ 65536
  · go_enter Try.func27, Try.ntmps27
    go_wp2_with fail
    go_loop [0, 5] (fun x i => ∃ (k : Nat) (s : Int), k ≤ n ∧ i = .int .i64 k ∧ x = .int .i64 s ∧ Hid (s ≤ 1048576 → t ≤ 1048576)) (fun _ i => n - (intOf i).toNat)
    case atStart => exact ⟨0, _, Nat.zero_le _, rfl, rfl, fun h => h⟩
    case round =>
      obtain ⟨k, s, hk, rfl, rfl, Q⟩ := hrel
      by_cases hlt : k < n
      · obtain rfl := HA.out (Nat.lt_of_le_of_lt (Nat.zero_le _) hlt)
        have c0 := HC.out k hlt
        by_cases hs : s ≤ 1048576
        · go_wp2_with fail
          refine (addLen_any _ _ _).mono ?_
          rintro e w1 ⟨⟨r5, rfl, q1⟩, hw⟩
          obtain rfl := hw.symm
          have Q5 : Hid (r5 ≤ 1048576 → s ≤ 1048576) := q1
          clear q1 hw
          go_wp2_with fail
          refine (addLen_any _ _ _).mono ?_
          rintro e w1 ⟨⟨r6, rfl, q1⟩, hw⟩
          obtain rfl := hw.symm
          have Q6 : Hid (r6 ≤ 1048576 → t ≤ 1048576) := fun h => Q.out (Q5.out (q1 h))
          clear q1 hw Q5
          go_wp2_with fail
          go_round
          case rel => exact ⟨k + 1, _, hlt, step_num k, rfl, Q6⟩
          case measure => exact step_down n k hlt
        · have hsd : decide (s ≤ 1048576) = false := by simpa using hs
          go_wp2
          go_ret
          exact ⟨⟨_, rfl, fun h => absurd h (by omega)⟩, rfl⟩
      · go_wp2
        go_ret
        exact ⟨⟨_, rfl, Q.out⟩, rfl⟩
  · go_enter Try.func27, Try.ntmps27
    go_wp2_with fail
    go_ret
    exact ⟨⟨_, rfl, fun h => absurd h (by omega)⟩, rfl⟩

set_option maxHeartbeats 1000000 in
theorem writesBytes_any (t : Int) (ao : Option Addr) (n cap : Nat) (X : Nat → ZW) (w : World) (hv : WritesAt w ao n cap X) (hn : n ≤ 9223372036854775807) (hh : ∀ i, i < n → Some63 (X i)) :
    Calls Try.prog 35 #[.int .i64 t, .slice ao n cap] w fun e w' => SomeInt (WB t n X) e ∧ w' = w := by
  obtain ⟨_, hcap, b, off, hao, hc, hs⟩ := hv
  have HA : Hid (0 < n → ao = some ⟨b, off, none⟩) := hao
  have HC : Hid (∀ i, i < n → WriteAt w b (off + i * 3) (X i)) := hc
  have HS : Hid (∀ i, i < n → RepAt w (X i)) := hs
  have HH : Hid (∀ i, i < n → Some63 (X i)) := hh
  clear hao hc hs hh
  by_cases hbig : n ≤ 65536
  · go_enter Try.func35, Try.ntmps35
    go_wp2_with fail
    go_loop [0, 5] (fun x i => ∃ (k : Nat) (s : Int), k ≤ n ∧ i = .int .i64 k ∧ x = .int .i64 s ∧ Hid (s ≤ 1048576 → t ≤ 1048576 ∧ ∀ j, j < k → Few (X j))) (fun _ i => n - (intOf i).toNat)
    case atStart => exact ⟨0, _, Nat.zero_le _, rfl, rfl, fun h => ⟨h, fun j hj => absurd hj (by omega)⟩⟩
    case round =>
      obtain ⟨k, s, hk, rfl, rfl, Q⟩ := hrel
      by_cases hlt : k < n
      · obtain rfl := HA.out (Nat.lt_of_le_of_lt (Nat.zero_le _) hlt)
        obtain ⟨c0, c1, c2⟩ := HC.out k hlt
        by_cases hs : s ≤ 1048576
        · go_wp2_with fail
          refine (addLen_any _ _ _).mono ?_
          rintro e w1 ⟨⟨r5, rfl, q1⟩, hw⟩
          obtain rfl := hw.symm
          clear q1 hw
          go_wp2_with fail
          refine (addLen_any _ _ _).mono ?_
          rintro e w1 ⟨⟨r6, rfl, q1⟩, hw⟩
          obtain rfl := hw.symm
          clear q1 hw
          go_wp2_with fail
          refine (fileBytes_rep _ (X k) _ (HS.out k hlt) (HH.out k hlt)).mono ?_
          rintro e w1 ⟨⟨r7, rfl, q1⟩, hw⟩
          obtain rfl := hw.symm
          have Q5 : Hid (r7 ≤ 1048576 → t ≤ 1048576 ∧ ∀ j, j < k + 1 → Few (X j)) := fun h => ⟨(Q.out hs).1, fun j hj => by
            rcases (show j < k ∨ j = k by omega) with h' | rfl
            · exact (Q.out hs).2 j h'
            · exact (q1 h).2⟩
          clear q1 hw
          go_wp2_with fail
          go_round
          case rel => exact ⟨k + 1, _, hlt, step_num k, rfl, Q5⟩
          case measure => exact step_down n k hlt
        · have hsd : decide (s ≤ 1048576) = false := by simpa using hs
          go_wp2
          go_ret
          exact ⟨⟨_, rfl, fun h => absurd h (by omega)⟩, rfl⟩
      · obtain rfl : k = n := by omega
        go_wp2
        go_ret
        exact ⟨⟨_, rfl, fun h => ⟨(Q.out h).1, hbig, (Q.out h).2⟩⟩, rfl⟩
  · go_enter Try.func35, Try.ntmps35
    go_wp2_with fail
    go_ret
    exact ⟨⟨_, rfl, fun h => absurd h (by omega)⟩, rfl⟩

set_option maxHeartbeats 1000000 in
theorem unendedBytes_any (t : Int) (v : Value) (n : Nat) (A : Nat → Option Addr) (N C : Nat → Nat) (X : Nat → Nat → ZW) (w : World) (hv : UnAt w v n A N C X) (hn : n ≤ 9223372036854775807) (hN : ∀ i, i < n → N i ≤ 9223372036854775807) (hh : ∀ i, i < n → ∀ j, j < N i → Some63 (X i j)) :
    Calls Try.prog 28 #[.int .i64 t, v] w fun e w' => SomeInt (UB t n N X) e ∧ w' = w := by
  obtain ⟨ao, cap, b, off, rfl, _, hcap, hao, hc, hs⟩ := hv
  have HA : Hid (0 < n → ao = some ⟨b, off, none⟩) := hao
  have HC : Hid (∀ i, i < n → w.cell? ⟨b, off + i, none⟩ = some (.slice (A i) (N i) (C i))) := hc
  have HS : Hid (∀ i, i < n → WritesAt w (A i) (N i) (C i) (X i)) := hs
  have HH : Hid (∀ i, i < n → ∀ j, j < N i → Some63 (X i j)) := hh
  have HN : Hid (∀ i, i < n → N i ≤ 9223372036854775807) := hN
  clear hao hc hs hh hN
  by_cases hbig : n ≤ 65536
  · go_enter Try.func28, Try.ntmps28
    go_wp2_with fail
    go_loop [0, 5] (fun x i => ∃ (k : Nat) (s : Int), k ≤ n ∧ i = .int .i64 k ∧ x = .int .i64 s ∧ Hid (s ≤ 1048576 → t ≤ 1048576 ∧ ∀ j, j < k → N j ≤ 65536 ∧ ∀ l, l < N j → Few (X j l))) (fun _ i => n - (intOf i).toNat)
    case atStart => exact ⟨0, _, Nat.zero_le _, rfl, rfl, fun h => ⟨h, fun j hj => absurd hj (by omega)⟩⟩
    case round =>
      obtain ⟨k, s, hk, rfl, rfl, Q⟩ := hrel
      by_cases hlt : k < n
      · obtain rfl := HA.out (Nat.lt_of_le_of_lt (Nat.zero_le _) hlt)
        have c0 := HC.out k hlt
        by_cases hs : s ≤ 1048576
        · go_wp2_with fail
          refine (addLen_any _ _ _).mono ?_
          rintro e w1 ⟨⟨r5, rfl, q1⟩, hw⟩
          obtain rfl := hw.symm
          clear q1 hw
          go_wp2_with fail
          refine (writesBytes_any _ _ _ _ (X k) _ (HS.out k hlt) (HN.out k hlt) (HH.out k hlt)).mono ?_
          rintro e w1 ⟨⟨r7, rfl, q1⟩, hw⟩
          obtain rfl := hw.symm
          have Q5 : Hid (r7 ≤ 1048576 → t ≤ 1048576 ∧ ∀ j, j < k + 1 → N j ≤ 65536 ∧ ∀ l, l < N j → Few (X j l)) := fun h => ⟨(Q.out hs).1, fun j hj => by
            rcases (show j < k ∨ j = k by omega) with h' | rfl
            · exact (Q.out hs).2 j h'
            · exact (q1 h).2⟩
          clear q1 hw
          go_wp2_with fail
          go_round
          case rel => exact ⟨k + 1, _, hlt, step_num k, rfl, Q5⟩
          case measure => exact step_down n k hlt
        · have hsd : decide (s ≤ 1048576) = false := by simpa using hs
          go_wp2
          go_ret
          exact ⟨⟨_, rfl, fun h => absurd h (by omega)⟩, rfl⟩
      · obtain rfl : k = n := by omega
        go_wp2
        go_ret
        exact ⟨⟨_, rfl, fun h => ⟨(Q.out h).1, hbig, (Q.out h).2⟩⟩, rfl⟩
  · go_enter Try.func28, Try.ntmps28
    go_wp2_with fail
    go_ret
    exact ⟨⟨_, rfl, fun h => absurd h (by omega)⟩, rfl⟩

theorem recordsBytes_any (v0 : Value) (n : Nat) (Z : Nat → ZF) (G : Nat → Nat → ByteArray) (ao1 : Option Addr) (n1 cap1 : Nat) (g1 : Nat → ByteArray) (v2 : Value) (n2 : Nat) (A : Nat → Option Addr) (N C : Nat → Nat) (X : Nat → Nat → ZW) (name : ByteArray) (w : World)
    (hv : FilesAt w v0 n Z G) (hn : n ≤ 9223372036854775807) (hh : ∀ i, i < n → (Z i).hl ≤ 9223372036854775807) (hk : StrsAt 0 w ao1 n1 cap1 g1) (hn1 : n1 ≤ 9223372036854775807)
    (hu : UnAt w v2 n2 A N C X) (hn2 : n2 ≤ 9223372036854775807) (hN : ∀ i, i < n2 → N i ≤ 9223372036854775807) (hx : ∀ i, i < n2 → ∀ j, j < N i → Some63 (X i j)) :
    Calls Try.prog 7 #[v0, .slice ao1 n1 cap1, v2, .string name] w fun e w' => SomeInt (fun r => r ≤ 1048576 → (∀ i, i < n → (Z i).hl ≤ 65536) ∧ n2 ≤ 65536 ∧ ∀ i, i < n2 → N i ≤ 65536 ∧ ∀ j, j < N i → Few (X i j)) e ∧ w' = w := by
  have HV : Hid (FilesAt w v0 n Z G) := hv
  have HK : Hid (StrsAt 0 w ao1 n1 cap1 g1) := hk
  have HU : Hid (UnAt w v2 n2 A N C X) := hu
  have HH : Hid (∀ i, i < n → (Z i).hl ≤ 9223372036854775807) := hh
  have HX : Hid (∀ i, i < n2 → ∀ j, j < N i → Some63 (X i j)) := hx
  have HN : Hid (∀ i, i < n2 → N i ≤ 9223372036854775807) := hN
  obtain ⟨aoa, capa, hvs⟩ := hv.len
  subst hvs
  obtain ⟨aob, capb, hvu⟩ : ∃ ao cap, v2 = .slice ao n2 cap := by obtain ⟨ao, cap, _, _, h, _⟩ := hu; exact ⟨ao, cap, h⟩
  subst hvu
  clear hv hk hu hh hx hN
  go_enter Try.func7, Try.ntmps7
  go_wp2_with fail
  refine (addLen_any _ _ _).mono ?_
  rintro e w1 ⟨⟨r1, rfl, q1⟩, hw⟩
  obtain rfl := hw.symm
  clear q1 hw
  go_wp2_with fail
  refine (filesBytes_any _ _ n Z G _ HV.out hn HH.out).mono ?_
  rintro e w1 ⟨⟨r2, rfl, q2⟩, hw⟩
  obtain rfl := hw.symm
  have Q2 : Hid (FS r1 n Z r2) := q2
  clear q2 hw
  go_wp2_with fail
  refine (stringsBytes_any _ _ n1 _ g1 _ HK.out hn1).mono ?_
  rintro e w1 ⟨⟨r3, rfl, q3⟩, hw⟩
  obtain rfl := hw.symm
  have Q3 : Hid (AL r2 r3) := q3
  clear q3 hw
  go_wp2_with fail
  refine (unendedBytes_any _ _ n2 A N C X _ HU.out hn2 HN.out HX.out).mono ?_
  rintro e w1 ⟨⟨r4, rfl, q4⟩, hw⟩
  obtain rfl := hw.symm
  have Q4 : Hid (UB r3 n2 N X r4) := q4
  clear q4 hw
  go_wp2_with fail
  go_ret
  exact ⟨⟨_, rfl, fun h => ⟨(Q2.out (Q3.out (Q4.out h).1)).2, (Q4.out h).2⟩⟩, rfl⟩

end Go.Proofs.Qxb6612566a.st
