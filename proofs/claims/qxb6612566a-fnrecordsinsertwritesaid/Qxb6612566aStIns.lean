/-
  The walk of FnRecordsInsertWrite.
-/
import Derived.Test.Qxb6612566aStTail
import Derived.Test.Qxb6612566aStBytes
namespace Go.Proofs.Qxb6612566a.st
open Go.RowKit Go.Maps

/-- The inputs, as they lie in the world w; bx: the block of the boxed write. -/
def Ins (w : World) (v0 : Value) (n : Nat) (Z : Nat → ZF) (G : Nat → Nat → ByteArray) (ao1 : Option Addr) (n1 cap1 : Nat) (g1 : Nat → ByteArray) (v2 : Value) (n2 : Nat) (A : Nat → Option Addr) (N C : Nat → Nat) (X : Nat → Nat → ZW) (x : ZW) : Prop :=
  FilesAt w v0 n Z G ∧ StrsAt 0 w ao1 n1 cap1 g1 ∧ UnAt w v2 n2 A N C X ∧ RepAt w x

theorem Ins.over {B : Nat} {w w' : World} {v0 : Value} {n : Nat} {Z : Nat → ZF} {G : Nat → Nat → ByteArray} {ao1 : Option Addr} {n1 cap1 : Nat} {g1 : Nat → ByteArray} {v2 : Value} {n2 : Nat} {A : Nat → Option Addr} {N C : Nat → Nat} {X : Nat → Nat → ZW} {x : ZW}
    (h : Ins w v0 n Z G ao1 n1 cap1 g1 v2 n2 A N C X x) (hb : Below B w w') (hB : w.heap.size ≤ B) : Ins w' v0 n Z G ao1 n1 cap1 g1 v2 n2 A N C X x :=
  ⟨h.1.over hb hB, h.2.1.over hb hB, h.2.2.1.over hb hB, h.2.2.2.over hb hB⟩

theorem UnAt.len {w : World} {v : Value} {n : Nat} {A : Nat → Option Addr} {N C : Nat → Nat} {X : Nat → Nat → ZW} (h : UnAt w v n A N C X) : ∃ ao cap, v = .slice ao n cap := by
  obtain ⟨ao, cap, b, off, h1, _⟩ := h; exact ⟨ao, cap, h1⟩

theorem write_new (w : World) (x : ZW) (t : TypeId) : WriteAt (w.alloc (.cells #[.int .i64 x.ver, .string x.wr, .pointer x.rp] t)) w.heap.size 0 x := by
  have c1 : ∀ j, (w.alloc (.cells #[.int .i64 x.ver, .string x.wr, .pointer x.rp] t)).cell? ⟨w.heap.size, j, none⟩ = (#[.int .i64 x.ver, .string x.wr, .pointer x.rp] : Array Value)[j]? := fun j => cell_of_row _ _ j _ _ _ (heap_alloc_new w _)
  exact ⟨c1 0, c1 1, c1 2⟩

theorem news3 (W : World) (x : ZW) (t : TypeId) : ∀ j u, (cellsW x)[j]? = some u → (W.alloc (.cells #[.int .i64 x.ver, .string x.wr, .pointer x.rp] t)).cell? ((⟨W.heap.size, 0, none⟩ : Addr).add j) = some u := by
  intro j u hj
  rw [show (⟨W.heap.size, 0, none⟩ : Addr).add j = ⟨W.heap.size, j, none⟩ by unfold Addr.add; split <;> simp_all, World.cell?_alloc_new]
  simpa using hj

/-- What the gathering loops keep: the grown list's first k writes. -/
def GInv (w1 wr : World) (k : Nat) (v : Value) (Y : Nat → ZW) : Prop := wr.ownsRow w1.heap.size 27 3 v k (rowW Y k) ∧ Below w1.heap.size w1 wr

theorem ginv_step {w1 wr w3 : World} {k : Nat} {v v1 : Value} {Y : Nat → ZW} {y : ZW} {o : Obj} (h : GInv w1 wr k v Y) (hown : w3.ownsRow w1.heap.size 27 3 v1 (k + 1) (rowW Y k ++ cellsW y)) (hg : (wr.alloc o).grownBy w3 v.ownBlock) (hy : Y k = y) : GInv w1 w3 (k + 1) v1 Y := by
  subst hy
  exact ⟨hown, (h.2.alloc h.2.size o).grown hg (by have := h.2.size; simp; omega) (fun j e => (h.1.lt j e).1)⟩

theorem ginv_start {w1 w2 : World} {n : Nat} {Y : Nat → ZW} (hown : w2.ownsRow w1.heap.size 27 3 (.slice (some ⟨w1.heap.size, 0, none⟩) 0 n) 0 []) (hg : w1.grownBy w2 none) : GInv w1 w2 0 (.slice (some ⟨w1.heap.size, 0, none⟩) 0 n) Y :=
  ⟨hown, (Below.refl _ _).grown hg (Nat.le_refl _) (fun _ h => by cases h)⟩

set_option maxRecDepth 100000 in
set_option maxHeartbeats 8000000 in
theorem ins_any (v0 : Value) (n : Nat) (Z : Nat → ZF) (G : Nat → Nat → ByteArray) (ao1 : Option Addr) (n1 cap1 : Nat) (g1 : Nat → ByteArray) (v2 : Value) (n2 : Nat) (A : Nat → Option Addr) (N C : Nat → Nat) (X : Nat → Nat → ZW) (s : ByteArray) (p : Int) (x : ZW) (w : World)
    (hin : Ins w v0 n Z G ao1 n1 cap1 g1 v2 n2 A N C X x) (hn : n ≤ 9223372036854775807) (hh : ∀ i, i < n → (Z i).hl ≤ 9223372036854775807) (hm : ∀ i, i < n → (Z i).nm.size ≤ maxLen) (hn1 : n1 ≤ 9223372036854775807) (hkm : ∀ i, i < n1 → (g1 i).size ≤ maxLen)
    (hn2 : n2 ≤ 9223372036854775807) (hN : ∀ i, i < n2 → N i ≤ 9223372036854775807) (hx : ∀ i, i < n2 → ∀ j, j < N i → Some63 (X i j)) (hxl : Some63 x) (hs : s.size ≤ maxLen) :
    Calls Try.prog 3 #[v0, .slice ao1 n1 cap1, v2, .string s, .int .i64 p, wrVal x] w fun e w' => e = .returned (.bool true) ∧ Below w.heap.size w w' := by
  have HI : Hid (Ins w v0 n Z G ao1 n1 cap1 g1 v2 n2 A N C X x) := hin
  have HH : Hid (∀ i, i < n → (Z i).hl ≤ 9223372036854775807) := hh
  have HM : Hid (∀ i, i < n → (Z i).nm.size ≤ maxLen) := hm
  have HKM : Hid (∀ i, i < n1 → (g1 i).size ≤ maxLen) := hkm
  have HN : Hid (∀ i, i < n2 → N i ≤ 9223372036854775807) := hN
  have HX : Hid (∀ i, i < n2 → ∀ j, j < N i → Some63 (X i j)) := hx
  have HXL : Hid (Some63 x) := hxl
  have HSL : Hid (s.size ≤ maxLen) := hs
  have hs' : s.size ≤ 9223372036854775807 := by unfold maxLen at hs; omega
  obtain ⟨ao0, cap0, hvs⟩ := hin.1.len
  subst hvs
  obtain ⟨ao2, cap2, hvu⟩ := hin.2.2.1.len
  subst hvu
  clear hin hh hm hkm hN hx hxl hs
  go_enter Try.func3, Try.ntmps3
  go_wp2_with fail
  have HB0 : Hid (Below w.heap.size w (w.alloc (.cells #[.int .i64 x.ver, .string x.wr, .pointer x.rp] 27))) := (Below.refl w.heap.size w).alloc (Nat.le_refl _) _
  have HW0 : Hid (WriteAt (w.alloc (.cells #[.int .i64 x.ver, .string x.wr, .pointer x.rp] 27)) w.heap.size 0 x) := write_new w x 27
  have HS0 : Hid (w.heap.size + 1 ≤ (w.alloc (.cells #[.int .i64 x.ver, .string x.wr, .pointer x.rp] 27)).heap.size) := by show _ ≤ _; simp
  generalize (w.alloc (.cells #[.int .i64 x.ver, .string x.wr, .pointer x.rp] 27)) = W0 at HB0 HW0 HS0 ⊢
  have HI0 : Hid (Ins W0 (.slice ao0 n cap0) n Z G ao1 n1 cap1 g1 (.slice ao2 n2 cap2) n2 A N C X x) := HI.out.over HB0.out (Nat.le_refl _)
  clear HI
  refine (bytesA_any _ n Z G ao1 n1 cap1 g1 _ n2 A N C X s p x _ HI0.out.1 hn HH.out HI0.out.2.1 hn1 HI0.out.2.2.1 hn2 HN.out HX.out HI0.out.2.2.2 HXL.out).mono ?_
  rintro e w1 ⟨⟨bb, rfl⟩, hb1⟩
  have HB1 : Hid (Below w.heap.size w w1) := HB0.out.trans (hb1.mono HB0.out.size)
  have HW1 : Hid (WriteAt w1 w.heap.size 0 x) := HW0.out.over hb1 (Nat.le_refl _)
  have HS1 : Hid (w.heap.size + 1 ≤ w1.heap.size) := Nat.le_trans HS0.out hb1.size
  have HI1 : Hid (Ins w1 (.slice ao0 n cap0) n Z G ao1 n1 cap1 g1 (.slice ao2 n2 cap2) n2 A N C X x) := HI0.out.over hb1 (Nat.le_refl _)
  clear hb1 HB0 HW0 HS0 HI0
  obtain ⟨k0, k1, k2⟩ := HW1.out
  go_wp2_with fail
  any_goals (go_ret; exact ⟨rfl, HB1.out⟩)
  refine (recordsBytes_any _ n Z G ao1 n1 cap1 g1 _ n2 A N C X s _ HI1.out.1 hn HH.out HI1.out.2.1 hn1 HI1.out.2.2.1 hn2 HN.out HX.out).mono ?_
  rintro e w2 ⟨⟨r1, rfl, q1⟩, hw⟩
  obtain rfl := hw.symm
  have Q1 : Hid (r1 ≤ 1048576 → (∀ i, i < n → (Z i).hl ≤ 65536) ∧ n2 ≤ 65536 ∧ ∀ i, i < n2 → N i ≤ 65536 ∧ ∀ j, j < N i → Few (X i j)) := q1
  clear q1 hw
  go_wp2_with fail
  refine (addLen_any _ _ _).mono ?_
  rintro e w2 ⟨⟨r2, rfl, q1⟩, hw⟩
  obtain rfl := hw.symm
  have Q2 : Hid (AL r1 r2) := q1
  clear q1 hw
  go_wp2_with fail
  refine (fileBytes_rep _ x _ HI1.out.2.2.2 HXL.out).mono ?_
  rintro e w2 ⟨⟨r3, rfl, q1⟩, hw⟩
  obtain rfl := hw.symm
  have Q3 : Hid (r3 ≤ 1048576 → r2 ≤ 1048576 ∧ Few x) := q1
  clear q1 hw
  go_wp2_with fail
  any_goals (go_ret; exact ⟨rfl, HB1.out⟩)
  have hr3 : r3 ≤ 1048576 := by assumption
  have hn' : n ≤ 65536 := by omega
  have hn1' : n1 ≤ 65536 := by omega
  have hn2' : n2 ≤ 65536 := by omega
  have HHL : Hid (∀ i, i < n → (Z i).hl ≤ 65536) := (Q1.out (Q2.out (Q3.out hr3).1)).1
  have HFW : Hid (∀ i, i < n2 → N i ≤ 65536 ∧ ∀ j, j < N i → Few (X i j)) := (Q1.out (Q2.out (Q3.out hr3).1)).2.2
  have HFX : Hid (Few x) := (Q3.out hr3).2
  clear Q1 Q2 Q3 HH HN HX HXL hn hn1 hn2 hr3 hs'
  refine (minInt_any n1 n2 w1).mono ?_
  rintro e w2 ⟨rfl, hw⟩
  obtain rfl := hw.symm
  clear hw
  obtain ⟨m, hmd⟩ : ∃ m, m = min n1 n2 := ⟨_, rfl⟩
  rw [← hmd]
  have hm1 : m ≤ n1 := by omega
  have hm2 : m ≤ n2 := by omega
  have HMD : Hid (m = min n1 n2) := hmd
  clear hmd
  go_wp2_with fail
  refine (lastKey_any ao1 n1 cap1 g1 m s w1 HI1.out.2.1 hm1 (by omega)).mono ?_
  rintro e w2 ⟨⟨r4, rfl, q1⟩, hw⟩
  obtain rfl := hw.symm
  have Q4 : Hid (LastIs m g1 s r4) := q1
  clear q1 hw
  go_upto_if 81 with fail
  go_cut [14] (fun l wc => ∃ aoL nL capL XL, l = .slice aoL nL capL ∧ nL ≤ 65536 ∧ nL ≤ capL ∧ Hid (ListIs m g1 s N X nL XL) ∧ Hid (WritesAt w1 aoL nL capL XL) ∧ Hid (∀ i, i < nL → Few (XL i)) ∧ wc = w1)
  case first =>
    rcases Q4.out with ⟨rfl, hno⟩ | ⟨i, hi, rfl, he, hla⟩
    · go_wp2_with fail
      go_meet
      case rel => exact ⟨none, 0, 0, fun _ => x, rfl, by omega, by omega, Or.inl ⟨rfl, hno⟩, ⟨fun _ => ⟨rfl, rfl⟩, Nat.le_refl _, 0, 0, fun h => absurd h (by omega), fun i hi => absurd hi (by omega), fun i hi => absurd hi (by omega)⟩, fun i hi => absurd hi (by omega), rfl⟩
    · obtain ⟨ao', cap', b, off, e1, _, _, hao, hc, hw⟩ := HI1.out.2.2.1
      simp only [Value.slice.injEq, true_and] at e1
      obtain ⟨rfl, rfl⟩ := e1
      cases hao (by omega)
      have c0 := hc i (by omega)
      have hi' : (i : Int) < (n2 : Int) := by omega
      have HE : Hid (g1 i = s ∧ ∀ j, i < j → j < m → g1 j ≠ s) := ⟨he, hla⟩
      have HWI : Hid (WritesAt w1 (A i) (N i) (C i) (X i)) := hw i (by omega)
      clear hao hc hw he hla
      go_wp2_with fail
      go_meet
      case rel => exact ⟨_, _, _, X i, rfl, (HFW.out i (by omega)).1, HWI.out.2.1, Or.inr ⟨i, hi, HE.out.1, HE.out.2, rfl, rfl⟩, HWI, (HFW.out i (by omega)).2, rfl⟩
  case rest =>
    obtain ⟨aoL, nL, capL, XL, rfl, hnL, hcL, HLI, HWL, HFL, hwc⟩ := hcut
    obtain rfl := hwc.symm
    clear hwc Q4
    obtain ⟨i0, hi, hz0, hz1, hz2⟩ := info_parts info27
    go_upto_region 16 with fail
    any_goals (go_ret; exact ⟨rfl, HB1.out⟩)
    obtain ⟨P, rfl⟩ : ∃ P : Nat, p = (P : Int) := ⟨p.toNat, by omega⟩
    have hP : P ≤ nL := by omega
    go_wp2_with (at_make; refine wpList_make_own _ rfl (.const (.int .i64 0)) (.tmp 96) 32 rfl w1.heap.size 27 i0 _ 3 Try.underlying32 hi hz0 hz1 .i64 .i64 _ (nL + 1) rfl rfl (by simp) (by rw [hz2]; omega) (by unfold maxLen; omega) (Nat.le_refl _) ?_; intro w2 hown hgrow)
    have H0 : Hid (GInv w1 w2 0 _ (ins XL P x)) := ginv_start hown hgrow
    clear hown hgrow
    go_loopw [17, 16] (fun i v wr => ∃ k : Nat, k ≤ P ∧ i = .int .i64 k ∧ Hid (GInv w1 wr k v (ins XL P x))) (fun i _ _ => P - (intOf i).toNat)
    case atStart => exact ⟨0, Nat.zero_le _, rfl, H0⟩
    case round =>
      clear H0
      obtain ⟨k, hk, rfl, hG⟩ := hrel
      by_cases hlt : k < P
      · as_aux_lemma =>
          obtain ⟨_, _, bL, offL, hao, hc, _⟩ := HWL.out
          cases hao (by omega)
          obtain ⟨c0, c1, c2⟩ := (hc k (by omega)).over hG.out.2 (Nat.le_refl _)
          have hlt' : (k : Int) < (P : Int) := by omega
          have hlt2 : (k : Int) < (nL : Int) := by omega
          have hsz := hG.out.2.size
          clear hao hc
          go_wp2_with (at_builtin; refine wpList_append_own _ rfl (.tmp 103) (.tmp 108) 32 rfl w1.heap.size 27 i0 _ 3 32 Try.underlying32 hi hz0 hz1 hz2 rfl (by decide) u16 k (rowW (ins XL P x) k) rfl (hG.out.1.alloc _) ⟨wr.heap.size, 0, none⟩ 1 1 (cellsW (XL k)) rfl rfl ?_ (newsW _) ?_ ?_ ?_ ?_)
          · exact news3 _ _ _
          · unfold maxLen; omega
          · omega
          · simp; omega
          · intro v1 w3 hown' hgrow _
            have G2 : Hid (GInv w1 w3 (k + 1) v1 (ins XL P x)) := ginv_step hG.out hown' hgrow (ins_lt hlt)
            clear hown' hgrow c0 c1 c2 hG
            go_wp2
            go_roundw
            case rel => exact ⟨k + 1, hlt, step_num k, G2⟩
            case measure => exact step_down P k hlt
      · obtain rfl : k = P := by omega
        obtain ⟨c0, c1, c2⟩ := (HW1.out).over hG.out.2 (Nat.le_refl _)
        have hsz := hG.out.2.size
        go_wp2_with (at_builtin; refine wpList_append_own _ rfl (.tmp 110) (.tmp 112) 32 rfl w1.heap.size 27 i0 _ 3 32 Try.underlying32 hi hz0 hz1 hz2 rfl (by decide) u16 k (rowW (ins XL k x) k) rfl (hG.out.1.alloc _) ⟨wr.heap.size, 0, none⟩ 1 1 (cellsW x) rfl rfl ?_ (newsW _) ?_ ?_ ?_ ?_)
        · exact news3 _ _ _
        · unfold maxLen; omega
        · omega
        · simp; omega
        · intro v1 w3 hown' hgrow _
          have G2 : Hid (GInv w1 w3 (k + 1) v1 (ins XL k x)) := ginv_step hG.out hown' hgrow ins_at
          clear hown' hgrow c0 c1 c2 hG
          go_wp2_with fail
          clear hsz
          go_loopw [18, 16] (fun i v wr => ∃ j : Nat, k ≤ j ∧ j ≤ nL ∧ i = .int .i64 j ∧ Hid (GInv w1 wr (j + 1) v (ins XL k x))) (fun i _ _ => nL - (intOf i).toNat)
          case atStart => exact ⟨k, Nat.le_refl _, hP, rfl, G2⟩
          case round =>
            clear G2
            obtain ⟨j, hkj, hj, rfl, hG⟩ := hrel
            by_cases hlt : j < nL
            · as_aux_lemma =>
                obtain ⟨_, _, bL, offL, hao, hc, _⟩ := HWL.out
                cases hao (by omega)
                obtain ⟨c0, c1, c2⟩ := (hc j hlt).over hG.out.2 (Nat.le_refl _)
                have hlt2 : (j : Int) < (nL : Int) := by omega
                have hsz := hG.out.2.size
                clear hao hc
                go_wp2_with (at_builtin; refine wpList_append_own _ rfl (.tmp 121) (.tmp 126) 32 rfl w1.heap.size 27 i0 _ 3 32 Try.underlying32 hi hz0 hz1 hz2 rfl (by decide) u16 (j + 1) (rowW (ins XL k x) (j + 1)) rfl (hG.out.1.alloc _) ⟨wr.heap.size, 0, none⟩ 1 1 (cellsW (XL j)) rfl rfl ?_ (newsW _) ?_ ?_ ?_ ?_)
                · exact news3 _ _ _
                · unfold maxLen; omega
                · omega
                · simp; omega
                · intro v1 w3 hown' hgrow _
                  have G2 : Hid (GInv w1 w3 (j + 1 + 1) v1 (ins XL k x)) := ginv_step hG.out hown' hgrow (ins_gt hkj)
                  clear hown' hgrow c0 c1 c2 hG
                  go_wp2
                  go_roundw
                  case rel => exact ⟨j + 1, by omega, hlt, step_num j, G2⟩
                  case measure => exact step_down nL j hlt
            · obtain rfl : nL = j := by omega
              have HRG : Hid (∀ i, i < nL + 1 → RepAt wr (ins XL k x i)) := by
                obtain ⟨_, _, bL, offL, _, _, hrp⟩ := HWL.out
                intro i hi
                rcases Nat.lt_trichotomy i k with h | h | h
                · rw [ins_lt h]; exact (hrp i (by omega)).over hG.out.2 (Nat.le_refl _)
                · rw [h, ins_at]; exact HI1.out.2.2.2.over hG.out.2 (Nat.le_refl _)
                · obtain ⟨i', rfl⟩ : ∃ i', i = i' + 1 := ⟨i - 1, by omega⟩
                  rw [ins_gt (by omega)]; exact (hrp i' (by omega)).over hG.out.2 (Nat.le_refl _)
              have HFG : Hid (∀ i, i < nL + 1 → Few (ins XL k x i)) := by
                intro i hi
                rcases Nat.lt_trichotomy i k with h | h | h
                · rw [ins_lt h]; exact HFL.out i (by omega)
                · rw [h, ins_at]; exact HFX.out
                · obtain ⟨i', rfl⟩ : ∃ i', i = i' + 1 := ⟨i - 1, by omega⟩
                  rw [ins_gt (by omega)]; exact HFL.out i' (by omega)
              obtain ⟨aoG, capG, hvG, hWG⟩ := writes_of_own hG.out.1 HRG.out
              subst hvG
              have HWG : Hid (WritesAt wr aoG (nL + 1) capG (ins XL k x)) := hWG
              have HBa : Hid (Below w.heap.size w wr) := HB1.out.trans (hG.out.2.mono HB1.out.size)
              have HIa : Hid (Ins wr (.slice ao0 n cap0) n Z G ao1 n1 cap1 g1 (.slice ao2 n2 cap2) n2 A N C X x) := HI1.out.over hG.out.2 (Nat.le_refl _)
              have HWa : Hid (WriteAt wr w.heap.size 0 x) := HW1.out.over hG.out.2 (Nat.le_refl _)
              have HLa : Hid (WritesAt wr aoL nL capL XL) := HWL.out.over hG.out.2 (Nat.le_refl _)
              clear hWG hG HRG HB1 HI1 HW1 HWL HS1 k0 k1 k2 hi hz0 hz1 hz2
              go_wp2_with fail
              refine (build_any _ n Z G _ HIa.out.1 hn' HHL.out HM.out).mono ?_
              rintro e w4 ⟨rfl, V1, hBu⟩
              have HU1 : Hid (Build wr w4 n Z G V1) := hBu
              have HB4 : Hid (Below wr.heap.size wr w4) := hBu.2.2
              clear hBu
              go_wp2_with fail
              refine (unended_any ao1 n1 cap1 g1 _ n2 A N C X _ (HIa.out.2.1.over HB4.out (Nat.le_refl _)) (HIa.out.2.2.1.over HB4.out (Nat.le_refl _)) hn1' hn2' HFW.out HKM.out).mono ?_
              rintro e w5 ⟨rfl, V2, hBu⟩
              rw [← HMD.out] at hBu
              have HU2 : Hid (UnBuild w4 w5 m g1 N X V2) := hBu
              have HB5 : Hid (Below w4.heap.size w4 w5) := hBu.2.2
              clear hBu
              go_wp2_with fail
              refine (newStore_any _ _ _).mono ?_
              rintro e w6 ⟨rfl, hb6, hp1, hp2⟩
              have HB6 : Hid (Below w5.heap.size w5 w6) := hb6
              have HP1 : Hid (w6.cell? ⟨w5.heap.size, 4, none⟩ = some (.map (some wr.heap.size)) ∧ w6.cell? ⟨w5.heap.size, 5, none⟩ = some (.map (some w4.heap.size))) := ⟨hp1, hp2⟩
              clear hb6 hp1 hp2
              have HA6 : Hid (Below wr.heap.size wr w6) := (HB4.out.trans (HB5.out.mono HB4.out.size)).trans (HB6.out.mono (Nat.le_trans HB4.out.size HB5.out.size))
              go_wp2_with fail
              refine (unended_any ao1 n1 cap1 g1 _ n2 A N C X _ (HIa.out.2.1.over HA6.out (Nat.le_refl _)) (HIa.out.2.2.1.over HA6.out (Nat.le_refl _)) hn1' hn2' HFW.out HKM.out).mono ?_
              rintro e w7 ⟨rfl, V3, hBu⟩
              rw [← HMD.out] at hBu
              have HU3 : Hid (UnBuild w6 w7 m g1 N X V3) := hBu
              have HB7 : Hid (Below w6.heap.size w6 w7) := hBu.2.2
              clear hBu
              go_wp2_with fail
              refine (toWrites_any aoG (nL + 1) capG (ins XL k x) _ ((HWG.out.over HA6.out (Nat.le_refl _)).over HB7.out (Nat.le_refl _)) (by omega) HFG.out).mono ?_
              rintro e w8 ⟨vg, rfl, hog, hb8⟩
              obtain ⟨w9, hrun9, hgr9, hown9⟩ := put38 HU3.out.1 hb8 (by omega) s HSL.out vg
              have HO8 : Hid (OutAt w7.heap.size w8 vg (nL + 1) (ins XL k x)) := hog
              have HB8 : Hid (Below w7.heap.size w7 w8) := hb8
              have HG9 : Hid (w8.grownBy w9 (some w6.heap.size)) := hgr9
              have HU9 : Hid (w9.ownsMap Try.prog 9 heldR w6.heap.size (m + 1) ((Mfold g1 V3 m).put (keyS s) (.held vg))) := hown9
              clear hog hb8 hgr9 hown9
              have HB9 : Hid (Below w6.heap.size w6 w9) := (HB7.out.trans (HB8.out.mono HB7.out.size)).grown HG9.out (Nat.le_trans HB7.out.size HB8.out.size) (fun i e => by cases e; exact Nat.le_refl _)
              have HA9 : Hid (Below wr.heap.size wr w9) := HA6.out.trans (HB9.out.mono HA6.out.size)
              go_wp2_with fail
              refine (build_any _ n Z G _ (HIa.out.1.over HA9.out (Nat.le_refl _)) hn' HHL.out HM.out).mono ?_
              rintro e w10 ⟨rfl, V4, hBu⟩
              have HU4 : Hid (Build w9 w10 n Z G V4) := hBu
              have HB10 : Hid (Below w9.heap.size w9 w10) := hBu.2.2
              clear hBu hrun9
              go_wp2_with fail
              refine (newStore_any _ _ _).mono ?_
              rintro e w11 ⟨rfl, hb11, hp1, hp2⟩
              have HB11 : Hid (Below w10.heap.size w10 w11) := hb11
              have HP2 : Hid (w11.cell? ⟨w10.heap.size, 4, none⟩ = some (.map (some w9.heap.size)) ∧ w11.cell? ⟨w10.heap.size, 5, none⟩ = some (.map (some w6.heap.size))) := ⟨hp1, hp2⟩
              clear hb11 hp1 hp2
              have HC9 : Hid (Below w9.heap.size w9 w11) := HB10.out.trans (HB11.out.mono HB10.out.size)
              have HC6 : Hid (Below w6.heap.size w6 w11) := HB9.out.trans (HC9.out.mono HB9.out.size)
              have HC5 : Hid (Below w5.heap.size w5 w11) := HB6.out.trans (HC6.out.mono HB6.out.size)
              have HC4 : Hid (Below w4.heap.size w4 w11) := HB5.out.trans (HC5.out.mono HB5.out.size)
              have HCr : Hid (Below wr.heap.size wr w11) := HB4.out.trans (HC4.out.mono HB4.out.size)
              have HP1' : Hid (w11.cell? ⟨w5.heap.size, 4, none⟩ = some (.map (some wr.heap.size)) ∧ w11.cell? ⟨w5.heap.size, 5, none⟩ = some (.map (some w4.heap.size))) := ⟨cell_over HC6.out (Nat.le_refl _) HP1.out.1, cell_over HC6.out (Nat.le_refl _) HP1.out.2⟩
              have e1 : Hid (w11.heap[wr.heap.size]? = w4.heap[wr.heap.size]?) := HC4.out.block _ HU1.out.1.lt
              have e2 : Hid (w11.heap[w4.heap.size]? = w5.heap[w4.heap.size]?) := HC5.out.block _ HU2.out.1.lt
              have e3 : Hid (w11.heap[w9.heap.size]? = w10.heap[w9.heap.size]?) := HB11.out.block _ HU4.out.1.lt
              have e4 : Hid (w11.heap[w6.heap.size]? = w9.heap[w6.heap.size]?) := HC9.out.block _ HU9.out.lt
              have l2 : Hid (w4.heap.size < w11.heap.size) := Nat.lt_of_lt_of_le HU2.out.1.lt HC5.out.size
              have l4 : Hid (w6.heap.size < w11.heap.size) := Nat.lt_of_lt_of_le HU9.out.lt HC9.out.size
              have l1 : Hid (wr.heap.size < w11.heap.size) := Nat.lt_of_lt_of_le HU1.out.1.lt HC4.out.size
              have l3 : Hid (w9.heap.size < w11.heap.size) := Nat.lt_of_lt_of_le HU4.out.1.lt HB11.out.size
              have HO11 : Hid (OutAt w7.heap.size w11 vg (nL + 1) (ins XL k x)) := HO8.out.kept fun i h1 h2 => (HC9.out.block i (Nat.lt_of_lt_of_le h2 HG9.out.size)).trans (HG9.out.block i h2 (by have := HU3.out.1.lt; simp; omega))
              have HBb : Hid (Below w.heap.size w w11) := HBa.out.trans (HCr.out.mono HBa.out.size)
              have HIb : Hid (Ins w11 (.slice ao0 n cap0) n Z G ao1 n1 cap1 g1 (.slice ao2 n2 cap2) n2 A N C X x) := HIa.out.over HCr.out (Nat.le_refl _)
              have HWb : Hid (WriteAt w11 w.heap.size 0 x) := HWa.out.over HCr.out (Nat.le_refl _)
              have HLb : Hid (WritesAt w11 aoL nL capL XL) := HLa.out.over HCr.out (Nat.le_refl _)
              have q42 : ∀ (w : World) (a : Option Addr) (n c n' c' : Nat), (binOp .eql 42 (.slice a n c) (.slice none n' c')).run Try.prog w = .ok (.bool a.isNone) w := fun w a n c n' c' => Lib.run_eql_slice_nil w _ _ a n c n' c' Try.underlying42
              go_wp2_with fail
              rcases last_exists n (fun j => (Z j).nm) s with hno | ⟨i, hi, hie, hil⟩
              · as_aux_lemma =>
                  have HNO : Hid (∀ j, j < n → (Z j).nm ≠ s) := hno
                  clear hno
                  refine (zrec_none w5.heap.size wr.heap.size s _ HP1'.out.1 (fun w' h => file_look_no HU1.out HSL.out HNO.out w' (h.trans e1.out))).mono ?_
                  rintro e w12 ⟨rfl, hb12⟩
                  have HB12 : Hid (Below w11.heap.size w11 w12) := hb12
                  clear hb12
                  go_wp2_with fail
                  refine (zrec_none w10.heap.size w9.heap.size s _ (cell_over HB12.out (Nat.le_refl _) HP2.out.1) (fun w' h => file_look_no HU4.out HSL.out HNO.out w' (h.trans ((HB12.out.block _ l3.out).trans e3.out)))).mono ?_
                  rintro e w13 ⟨rfl, hb13⟩
                  have HB13 : Hid (Below w.heap.size w w13) := (HBb.out.trans (HB12.out.mono HBb.out.size)).trans (hb13.mono (Nat.le_trans HBb.out.size HB12.out.size))
                  have HV13 : Hid (FilesAt w13 (.slice ao0 n cap0) n Z G) := (HIb.out.1.over HB12.out (Nat.le_refl _)).over hb13 (Nat.le_refl _)
                  clear hb13
                  go_wp2_with fail
                  refine (last_any _ n Z G s _ HV13.out hn').mono ?_
                  rintro e w14 ⟨⟨r5, rfl, q5⟩, hw⟩
                  obtain rfl := hw.symm
                  obtain rfl : r5 = -1 := by
                    rcases q5 with h | ⟨i, hi, _, h, _⟩
                    · exact h.1
                    · exact absurd h (HNO.out i hi)
                  clear q5 hw
                  go_wp2_with fail
                  go_ret
                  exact ⟨rfl, HB13.out⟩
              · have HIE : Hid ((Z i).nm = s ∧ ∀ j, i < j → j < n → (Z j).nm ≠ s) := ⟨hie, hil⟩
                clear hie hil
                obtain ⟨zf1, hl1, hk1⟩ := file_look HU1.out HSL.out hi HIE.out.1 HIE.out.2
                obtain ⟨vu1, ho1, hk2⟩ := un_look HU2.out HSL.out HLI.out
                have HL1 : Hid (Like w11 zf1 (Z i, G i)) := hl1.over HC4.out (Nat.le_refl _)
                have HK1 : Hid (∀ w', w'.heap[wr.heap.size]? = w4.heap[wr.heap.size]? → (Instr.lookup 36 (.map (some wr.heap.size)) (.string s) true).run Try.prog w' = .ok (.tuple #[fileVal zf1 zf1.ha zf1.hc, .bool true]) w') := hk1
                have HO1 : Hid (OutAt 0 w11 vu1 nL XL) := ho1.kept fun i _ h2 => HC5.out.block i h2
                have HK2 : Hid (∀ w', w'.heap[w4.heap.size]? = w5.heap[w4.heap.size]? → (Instr.lookup 38 (.map (some w4.heap.size)) (.string s) false).run Try.prog w' = .ok vu1 w') := hk2
                clear hl1 hk1 ho1 hk2
                refine (zrec_some w5.heap.size wr.heap.size w4.heap.size s zf1 vu1 nL 0 XL (Z i, G i) _ HP1'.out.1 HP1'.out.2 l2.out (fun w' h => HK1.out w' (h.trans e1.out)) (fun w' h => HK2.out w' (h.trans e2.out)) HL1.out HO1.out (by omega)).mono ?_
                rintro e w12 ⟨vr1, F1, rfl, hlk1, hrc1, hb12⟩
                have HB12 : Hid (Below w11.heap.size w11 w12) := hb12
                have HF1 : Hid (Likes w12 F1 ((Z i, G i) :: reps XL nL)) := Likes.over hb12 (Nat.le_refl _) hlk1
                have HR1 : Hid (RecsAt w12 vr1 F1) := hrc1
                obtain ⟨capr1, br1, hv1, hcr1, _⟩ := hrc1
                subst hv1
                clear hlk1 hb12 HL1 HK1 HO1 HK2
                go_wp2_with fail
                obtain ⟨zf2, hl2, hk3⟩ := file_look HU4.out HSL.out hi HIE.out.1 HIE.out.2
                have hk4 := look38 HU9.out s HSL.out vg (fun y => Or.inl (atKey_put_same (Mfold_isMap _ V3 m) (show WideAt.IsKeyLit (keyS _) from trivial) _ y))
                have HL2 : Hid (Like w12 zf2 (Z i, G i)) := (hl2.over HB11.out (Nat.le_refl _)).over HB12.out (Nat.le_refl _)
                have HK3 : Hid (∀ w', w'.heap[w9.heap.size]? = w10.heap[w9.heap.size]? → (Instr.lookup 36 (.map (some w9.heap.size)) (.string s) true).run Try.prog w' = .ok (.tuple #[fileVal zf2 zf2.ha zf2.hc, .bool true]) w') := hk3
                have HK4 : Hid (∀ w', w'.heap[w6.heap.size]? = w9.heap[w6.heap.size]? → (Instr.lookup 38 (.map (some w6.heap.size)) (.string s) false).run Try.prog w' = .ok vg w') := hk4
                have HO2 : Hid (OutAt w7.heap.size w12 vg (nL + 1) (ins XL k x)) := HO11.out.kept fun i _ h2 => HB12.out.block i h2
                clear hl2 hk3 hk4
                refine (zrec_some w10.heap.size w9.heap.size w6.heap.size s zf2 vg (nL + 1) w7.heap.size (ins XL k x) (Z i, G i) _ (cell_over HB12.out (Nat.le_refl _) HP2.out.1) (cell_over HB12.out (Nat.le_refl _) HP2.out.2) (Nat.lt_of_lt_of_le l4.out HB12.out.size) (fun w' h => HK3.out w' (h.trans ((HB12.out.block _ l3.out).trans e3.out))) (fun w' h => HK4.out w' (h.trans ((HB12.out.block _ l4.out).trans e4.out))) HL2.out HO2.out (by omega)).mono ?_
                rintro e w13 ⟨vr2, F2, rfl, hlk2, hrc2, hb13⟩
                have HB13 : Hid (Below w12.heap.size w12 w13) := hb13
                have HF2 : Hid (Likes w13 F2 ((Z i, G i) :: reps (ins XL k x) (nL + 1))) := Likes.over hb13 (Nat.le_refl _) hlk2
                have HR2 : Hid (RecsAt w13 vr2 F2) := hrc2
                obtain ⟨capr2, br2, hv2, hcr2, _⟩ := hrc2
                subst hv2
                have HD : Hid (Below w11.heap.size w11 w13) := HB12.out.trans (HB13.out.mono HB12.out.size)
                have HBc : Hid (Below w.heap.size w w13) := HBb.out.trans (HD.out.mono HBb.out.size)
                have HIc : Hid (Ins w13 (.slice ao0 n cap0) n Z G ao1 n1 cap1 g1 (.slice ao2 n2 cap2) n2 A N C X x) := HIb.out.over HD.out (Nat.le_refl _)
                have HWc : Hid (WriteAt w13 w.heap.size 0 x) := HWb.out.over HD.out (Nat.le_refl _)
                have HLc : Hid (WritesAt w13 aoL nL capL XL) := HLb.out.over HD.out (Nat.le_refl _)
                have HF1' : Hid (Likes w13 F1 ((Z i, G i) :: reps XL nL)) := Likes.over HB13.out (Nat.le_refl _) HF1.out
                have HR1' : Hid (RecsAt w13 (.slice (some ⟨br1, 0, none⟩) F1.length capr1) F1) := HR1.out.over HB13.out (Nat.le_refl _)
                clear hlk2 hb13 HL2 HK3 HK4 HO2 HO11 HF1 HR1 HU1 HU2 HU3 HU4 HU9 HG9 HB4 HB5 HB6 HB7 HB8 HB9 HB10 HB11 HC4 HC5 HC6 HC9 HCr HA6 HA9 e1 e2 e3 e4 l1 l2 l3 l4 HP1 HP1' HP2 HIa HWa HLa HBa HIb HWb HLb HBb HB12 HB13 HD HO8 HWG
                go_wp2_with fail
                refine (last_any _ n Z G s _ HIc.out.1 hn').mono ?_
                rintro e w14 ⟨⟨r5, rfl, q5⟩, hw⟩
                obtain rfl := hw.symm
                obtain rfl : r5 = (i : Int) := by
                  rcases q5 with h | ⟨i', hi', h1, h2, h3⟩
                  · exact absurd HIE.out.1 (h.2 i hi)
                  · rcases Nat.lt_trichotomy i i' with h | h | h
                    · exact absurd h2 (HIE.out.2 i' h hi')
                    · rw [h1, h]
                    · exact absurd HIE.out.1 (h3 i h hi)
                clear q5 hw
                obtain ⟨ao', cap', b, off, e1, _, _, hao, hc, hsi⟩ := HIc.out.1
                simp only [Value.slice.injEq, true_and] at e1
                obtain ⟨rfl, rfl⟩ := e1
                cases hao (by omega)
                obtain ⟨f0, f1, f2, f3, f4, f5, f6, f7, f8, f9, f10⟩ := hc i hi
                have HSi : Hid (StrsAt 0 w13 (Z i).ha (Z i).hl (Z i).hc (G i)) := hsi i hi
                have hi' : (i : Int) < (n : Int) := by omega
                clear hao hc hsi
                go_wp2_with fail
                refine (match_any _ F1 (Z i) (G i) aoL nL capL XL _ HR1'.out HF1'.out HSi.out (HHL.out i hi) HLc.out (by omega) HFL.out).mono ?_
                rintro e w15 ⟨rfl, hb15⟩
                have HD : Hid (Below w13.heap.size w13 w15) := hb15
                have HBd : Hid (Below w.heap.size w w15) := HBc.out.trans (hb15.mono HBc.out.size)
                obtain ⟨_, _, k2⟩ := HWc.out.over hb15 (Nat.le_refl _)
                clear hb15 f0 f1 f2 f3 f4 f5 f6 f7 f8 f9 f10
                obtain ⟨M, hM⟩ : ∃ M, F1.length = M + 1 := ⟨_, HF1'.out.length⟩
                have hMb : M ≤ 65536 := by
                  have h1 := HF1'.out.length
                  have h2 := reps_bound XL nL
                  rw [List.length_cons] at h1
                  omega
                rcases HIc.out.2.2.2 with hno | ⟨b4, o4, hyes, hf4, hst4⟩
                · as_aux_lemma =>
                    obtain ⟨hle, heq⟩ := tail_none HF1'.out HF2.out (recs_cells HR1'.out) (recs_cells HR2.out) hP hno (HHL.out i hi) HFL.out
                    have HEQ : Hid (∀ j, j < M + 1 → EqAt w15 br2 (j * 11) br1 (j * 11)) := fun j hj => (heq j (by omega)).over HD.out (Nat.le_refl _)
                    rw [hle, hM]
                    rw [hno] at k2
                    clear hle heq hM hcr1 hcr2 HF1' HF2 HR1' HR2
                    go_wp2_with fail
                    go_loopw [25] (fun j wr => ∃ jj : Nat, jj ≤ M + 1 ∧ j = .int .i64 jj ∧ Hid (Below w15.heap.size w15 wr)) (fun j _ => M + 1 - (intOf j).toNat)
                    case atStart => exact ⟨0, Nat.zero_le _, rfl, Below.refl _ _⟩
                    case round =>
                      obtain ⟨j, hj, rfl, hB⟩ := hrel
                      by_cases hlt : j < M + 1
                      · as_aux_lemma =>
                          obtain ⟨z, g, ao, cap, ao', cap', hf2, hf1, hs2, hs1, hnn, hzl⟩ := (HEQ.out j hlt).over hB.out.drew (Nat.le_refl _)
                          have HP : Hid (FileAt wr.drew br2 (j * 11) { z with ha := ao, hc := cap } ∧ FileAt wr.drew br1 (j * 11) { z with ha := ao', hc := cap' }) := ⟨hf2, hf1⟩
                          have HS2 : Hid (StrsAt 0 wr.drew ao z.hl cap g) := hs2
                          have HS1 : Hid (StrsAt 0 wr.drew ao' z.hl cap' g) := hs1
                          have HNN : Hid (ao = none ↔ ao' = none) := hnn
                          have hj1 : (j : Int) < (M : Int) + 1 := by omega
                          have hj2 : (j : Int) < (M : Int) + 1 + 1 := by omega
                          have hj3 : (j : Int) + 1 < (M : Int) + 1 + 1 := by omega
                          clear hf1 hf2 hs1 hs2 hnn
                          go_wp2_with fail
                          go_region_held3 (fun w' => w'.cell? ⟨br2, j * 11, none⟩ = some (.string z.nm) ∧ w'.cell? ⟨br2, j * 11 + 1, none⟩ = some (.int .i64 z.sz) ∧ w'.cell? ⟨br2, j * 11 + 2, none⟩ = some (.string z.sha) ∧ w'.cell? ⟨br2, j * 11 + 3, none⟩ = some (.string z.md) ∧ w'.cell? ⟨br2, j * 11 + 4, none⟩ = some (.int .i64 z.rep) ∧ w'.cell? ⟨br2, j * 11 + 5, none⟩ = some (.slice ao z.hl cap) ∧ w'.cell? ⟨br2, j * 11 + 6, none⟩ = some (.int .i64 z.ver) ∧ w'.cell? ⟨br2, j * 11 + 7, none⟩ = some (.int .i64 z.ep) ∧ w'.cell? ⟨br2, j * 11 + 8, none⟩ = some (.int .i64 z.rem) ∧ w'.cell? ⟨br2, j * 11 + 9, none⟩ = some (.bool z.ptr) ∧ w'.cell? ⟨br2, j * 11 + 10, none⟩ = some (.bool z.dam) ∧ w'.cell? ⟨br1, j * 11, none⟩ = some (.string z.nm) ∧ w'.cell? ⟨br1, j * 11 + 1, none⟩ = some (.int .i64 z.sz) ∧ w'.cell? ⟨br1, j * 11 + 2, none⟩ = some (.string z.sha) ∧ w'.cell? ⟨br1, j * 11 + 3, none⟩ = some (.string z.md) ∧ w'.cell? ⟨br1, j * 11 + 4, none⟩ = some (.int .i64 z.rep) ∧ w'.cell? ⟨br1, j * 11 + 5, none⟩ = some (.slice ao' z.hl cap') ∧ w'.cell? ⟨br1, j * 11 + 6, none⟩ = some (.int .i64 z.ver) ∧ w'.cell? ⟨br1, j * 11 + 7, none⟩ = some (.int .i64 z.ep) ∧ w'.cell? ⟨br1, j * 11 + 8, none⟩ = some (.int .i64 z.rem) ∧ w'.cell? ⟨br1, j * 11 + 9, none⟩ = some (.bool z.ptr) ∧ w'.cell? ⟨br1, j * 11 + 10, none⟩ = some (.bool z.dam))
                            (first | exact two_flat2 HP.out | exact two_flat2 (two_over hb1 HP.out))
                            (first | (go_at_call 19; refine (eqFile_any z ao ao' cap cap' g _ HS2.out HS1.out HNN.out hzl).mono ?_; rintro e w2 ⟨rfl, hb1⟩))
                          have HB2 : Hid (Below w15.heap.size w15 w2) := hB.out.drew.trans (hb1.mono hB.out.size)
                          clear hb1 HP HS2 HS1 HNN
                          go_wp2
                          go_roundw
                          case rel => exact ⟨j + 1, hlt, step_num j, HB2⟩
                          case measure => exact step_down (M + 1) j hlt

                      · obtain rfl : j = M + 1 := by omega
                        go_wp2
                        go_ret
                        exact ⟨rfl, HBd.out.trans (hB.out.mono HBd.out.size)⟩
                · as_aux_lemma =>
                    have hrp : x.rp ≠ none := by rw [hyes]; simp
                    obtain ⟨hle, hQ, heq1, ⟨ao5, cap5, hfq, hsq, hnq⟩, heq2⟩ := tail_some HF1'.out HF2.out (recs_cells HR1'.out) (recs_cells HR2.out) hP hrp (HHL.out i hi) HFL.out
                    obtain ⟨Q, hQd⟩ : ∃ Q, Q = (reps XL k).length + 1 := ⟨_, rfl⟩
                    rw [← hQd] at hQ heq1 hfq heq2
                    rw [hM] at hQ
                    have HQD : Hid (Q = (reps XL k).length + 1) := hQd
                    have HEQ1 : Hid (∀ j, j < Q → EqAt w15 br2 (j * 11) br1 (j * 11)) := fun j hj => (heq1 j hj).over HD.out (Nat.le_refl _)
                    have HEQ2 : Hid (∀ j, Q ≤ j → j < M + 1 → EqAt w15 br2 ((j + 1) * 11) br1 (j * 11)) := fun j hj hj' => (heq2 j hj (by omega)).over HD.out (Nat.le_refl _)
                    have HFQ : Hid (FileAt w15 br2 (Q * 11) { x.z with ha := ao5, hc := cap5 } ∧ FileAt w15 b4 o4 x.z) := ⟨hfq.over HD.out (Nat.le_refl _), hf4.over HD.out (Nat.le_refl _)⟩
                    have HSQ : Hid (StrsAt 0 w15 ao5 x.z.hl cap5 x.g) := hsq.over HD.out (Nat.le_refl _)
                    have HST : Hid (StrsAt 0 w15 x.z.ha x.z.hl x.z.hc x.g) := hst4.over HD.out (Nat.le_refl _)
                    have HNQ : Hid (ao5 = none ↔ x.z.ha = none) := hnq
                    have hfew : x.z.hl ≤ 65536 := by rcases HFX.out with h | h; (rw [hyes] at h; cases h); exact h
                    have HLd : Hid (WritesAt w15 aoL nL capL XL) := HLc.out.over HD.out (Nat.le_refl _)
                    rw [hle, hM]
                    rw [hyes] at k2
                    have K2 : Hid (w15.cell? ⟨w.heap.size, 0 + 2, none⟩ = some (.pointer (some ⟨b4, o4, none⟩))) := k2
                    clear hle hQd heq1 heq2 hfq hsq hnq hf4 hst4 hM hcr1 hcr2 HF1' HF2 HR1' HR2 HLc hrp
                    go_wp2_with fail
                    go_loopw [26, 27] (fun q j wr => ∃ jj : Nat, jj ≤ k ∧ j = .int .i64 jj ∧ q = .int .i64 (((reps XL jj).length + 1 : Nat) : Int) ∧ wr = w15) (fun _ j _ => k - (intOf j).toNat)
                    case atStart => exact ⟨0, Nat.zero_le _, rfl, rfl, rfl⟩
                    case round =>
                      obtain ⟨j, hj, rfl, rfl, hw⟩ := hrel
                      obtain rfl := hw.symm
                      clear hw
                      obtain ⟨kk, hkk⟩ : ∃ kk, kk = (reps XL j).length + 1 := ⟨_, rfl⟩
                      rw [← hkk]
                      have HKK : Hid (kk = (reps XL j).length + 1) := hkk
                      have hkb : kk ≤ 65538 := by have h1 := reps_bound XL j; omega
                      clear hkk
                      by_cases hlt : j < k
                      · as_aux_lemma =>
                          obtain ⟨_, _, bL, offL, hao, hc, _⟩ := HLd.out
                          cases hao (by omega)
                          obtain ⟨_, _, c2⟩ := hc j (by omega)
                          have hlt' : (j : Int) < (k : Int) := by omega
                          have hlt2 : (j : Int) < (nL : Int) := by omega
                          clear hao hc
                          cases hrj : (XL j).rp with
                          | none =>
                            rw [hrj] at c2
                            go_wp2
                            go_roundw
                            case rel => exact ⟨j + 1, hlt, step_num j, by rw [reps_skip XL j hrj, HKK.out], trivial⟩
                            case measure => exact step_down k j hlt
                          | some a =>
                            rw [hrj] at c2
                            go_wp2
                            go_roundw
                            case rel => exact ⟨j + 1, hlt, step_num j, congrArg (Value.int .i64) (by have h1 := reps_succ XL j (by rw [hrj]; simp); have h2 := HKK.out; omega), trivial⟩
                            case measure => exact step_down k j hlt
                      · obtain rfl : k = j := by omega
                        obtain rfl : Q = kk := by rw [HKK.out, HQD.out]
                        clear HKK HLd hlt
                        go_wp2_with fail
                        go_loopw [28] (fun j wr => ∃ jj : Nat, jj ≤ Q ∧ j = .int .i64 jj ∧ Hid (Below w15.heap.size w15 wr)) (fun j _ => Q - (intOf j).toNat)
                        case atStart => exact ⟨0, Nat.zero_le _, rfl, Below.refl _ _⟩
                        case round =>
                          obtain ⟨j, hj, rfl, hB⟩ := hrel
                          by_cases hlt : j < Q
                          · as_aux_lemma =>
                              have hj4 : (j : Int) < (Q : Int) := by omega
                              obtain ⟨z, g, ao, cap, ao', cap', hf2, hf1, hs2, hs1, hnn, hzl⟩ := (HEQ1.out j hlt).over hB.out.drew (Nat.le_refl _)
                              have HP : Hid (FileAt wr.drew br2 (j * 11) { z with ha := ao, hc := cap } ∧ FileAt wr.drew br1 (j * 11) { z with ha := ao', hc := cap' }) := ⟨hf2, hf1⟩
                              have HS2 : Hid (StrsAt 0 wr.drew ao z.hl cap g) := hs2
                              have HS1 : Hid (StrsAt 0 wr.drew ao' z.hl cap' g) := hs1
                              have HNN : Hid (ao = none ↔ ao' = none) := hnn
                              have hj1 : (j : Int) < (M : Int) + 1 := by omega
                              have hj2 : (j : Int) < (M : Int) + 1 + 1 := by omega
                              have hj3 : (j : Int) + 1 < (M : Int) + 1 + 1 := by omega
                              clear hf1 hf2 hs1 hs2 hnn
                              go_wp2_with fail
                              go_region_held3 (fun w' => w'.cell? ⟨br2, j * 11, none⟩ = some (.string z.nm) ∧ w'.cell? ⟨br2, j * 11 + 1, none⟩ = some (.int .i64 z.sz) ∧ w'.cell? ⟨br2, j * 11 + 2, none⟩ = some (.string z.sha) ∧ w'.cell? ⟨br2, j * 11 + 3, none⟩ = some (.string z.md) ∧ w'.cell? ⟨br2, j * 11 + 4, none⟩ = some (.int .i64 z.rep) ∧ w'.cell? ⟨br2, j * 11 + 5, none⟩ = some (.slice ao z.hl cap) ∧ w'.cell? ⟨br2, j * 11 + 6, none⟩ = some (.int .i64 z.ver) ∧ w'.cell? ⟨br2, j * 11 + 7, none⟩ = some (.int .i64 z.ep) ∧ w'.cell? ⟨br2, j * 11 + 8, none⟩ = some (.int .i64 z.rem) ∧ w'.cell? ⟨br2, j * 11 + 9, none⟩ = some (.bool z.ptr) ∧ w'.cell? ⟨br2, j * 11 + 10, none⟩ = some (.bool z.dam) ∧ w'.cell? ⟨br1, j * 11, none⟩ = some (.string z.nm) ∧ w'.cell? ⟨br1, j * 11 + 1, none⟩ = some (.int .i64 z.sz) ∧ w'.cell? ⟨br1, j * 11 + 2, none⟩ = some (.string z.sha) ∧ w'.cell? ⟨br1, j * 11 + 3, none⟩ = some (.string z.md) ∧ w'.cell? ⟨br1, j * 11 + 4, none⟩ = some (.int .i64 z.rep) ∧ w'.cell? ⟨br1, j * 11 + 5, none⟩ = some (.slice ao' z.hl cap') ∧ w'.cell? ⟨br1, j * 11 + 6, none⟩ = some (.int .i64 z.ver) ∧ w'.cell? ⟨br1, j * 11 + 7, none⟩ = some (.int .i64 z.ep) ∧ w'.cell? ⟨br1, j * 11 + 8, none⟩ = some (.int .i64 z.rem) ∧ w'.cell? ⟨br1, j * 11 + 9, none⟩ = some (.bool z.ptr) ∧ w'.cell? ⟨br1, j * 11 + 10, none⟩ = some (.bool z.dam))
                                (first | exact two_flat2 HP.out | exact two_flat2 (two_over hb1 HP.out))
                                (first | (go_at_call 19; refine (eqFile_any z ao ao' cap cap' g _ HS2.out HS1.out HNN.out hzl).mono ?_; rintro e w2 ⟨rfl, hb1⟩))
                              have HB2 : Hid (Below w15.heap.size w15 w2) := hB.out.drew.trans (hb1.mono hB.out.size)
                              clear hb1 HP HS2 HS1 HNN
                              go_wp2
                              go_roundw
                              case rel => exact ⟨j + 1, hlt, step_num j, HB2⟩
                              case measure => exact step_down Q j hlt

                          · obtain rfl : Q = j := by omega
                            have HCC : Hid (wr.drew.cell? ⟨w.heap.size, 0 + 2, none⟩ = some (.pointer (some ⟨b4, o4, none⟩))) := cell_over hB.out.drew (Nat.le_refl _) K2.out
                            have HP : Hid (FileAt wr.drew br2 (Q * 11) { x.z with ha := ao5, hc := cap5 } ∧ FileAt wr.drew b4 o4 x.z) := two_over hB.out.drew HFQ.out
                            have HSF : Hid (StrsAt 0 wr.drew ao5 x.z.hl cap5 x.g) := HSQ.out.over hB.out.drew (Nat.le_refl _)
                            have HSS : Hid (StrsAt 0 wr.drew x.z.ha x.z.hl x.z.hc x.g) := HST.out.over hB.out.drew (Nat.le_refl _)
                            have hq2 : (Q : Int) < (M : Int) + 1 + 1 := by omega
                            clear hlt
                            go_wp2_with fail
                            go_region_held3 (fun w' => w'.cell? ⟨w.heap.size, 0 + 2, none⟩ = some (.pointer (some ⟨b4, o4, none⟩)) ∧ w'.cell? ⟨br2, Q * 11, none⟩ = some (.string x.z.nm) ∧ w'.cell? ⟨br2, Q * 11 + 1, none⟩ = some (.int .i64 x.z.sz) ∧ w'.cell? ⟨br2, Q * 11 + 2, none⟩ = some (.string x.z.sha) ∧ w'.cell? ⟨br2, Q * 11 + 3, none⟩ = some (.string x.z.md) ∧ w'.cell? ⟨br2, Q * 11 + 4, none⟩ = some (.int .i64 x.z.rep) ∧ w'.cell? ⟨br2, Q * 11 + 5, none⟩ = some (.slice ao5 x.z.hl cap5) ∧ w'.cell? ⟨br2, Q * 11 + 6, none⟩ = some (.int .i64 x.z.ver) ∧ w'.cell? ⟨br2, Q * 11 + 7, none⟩ = some (.int .i64 x.z.ep) ∧ w'.cell? ⟨br2, Q * 11 + 8, none⟩ = some (.int .i64 x.z.rem) ∧ w'.cell? ⟨br2, Q * 11 + 9, none⟩ = some (.bool x.z.ptr) ∧ w'.cell? ⟨br2, Q * 11 + 10, none⟩ = some (.bool x.z.dam) ∧ w'.cell? ⟨b4, o4, none⟩ = some (.string x.z.nm) ∧ w'.cell? ⟨b4, o4 + 1, none⟩ = some (.int .i64 x.z.sz) ∧ w'.cell? ⟨b4, o4 + 2, none⟩ = some (.string x.z.sha) ∧ w'.cell? ⟨b4, o4 + 3, none⟩ = some (.string x.z.md) ∧ w'.cell? ⟨b4, o4 + 4, none⟩ = some (.int .i64 x.z.rep) ∧ w'.cell? ⟨b4, o4 + 5, none⟩ = some (.slice x.z.ha x.z.hl x.z.hc) ∧ w'.cell? ⟨b4, o4 + 6, none⟩ = some (.int .i64 x.z.ver) ∧ w'.cell? ⟨b4, o4 + 7, none⟩ = some (.int .i64 x.z.ep) ∧ w'.cell? ⟨b4, o4 + 8, none⟩ = some (.int .i64 x.z.rem) ∧ w'.cell? ⟨b4, o4 + 9, none⟩ = some (.bool x.z.ptr) ∧ w'.cell? ⟨b4, o4 + 10, none⟩ = some (.bool x.z.dam))
                              (first | exact ⟨HCC.out, two_flat HP.out⟩ | exact ⟨cell_over hb1 (Nat.le_refl _) HCC.out, two_flat (two_over hb1 HP.out)⟩)
                              (first | (go_at_call 20; refine (sameFile_any x.z ao5 cap5 x.g _ HSF.out HSS.out HNQ.out hfew).mono ?_; rintro e w2 ⟨rfl, hb1⟩))
                            have HB2 : Hid (Below w15.heap.size w15 w2) := hB.out.drew.trans (hb1.mono hB.out.size)
                            clear hb1 hB HP HCC HSF HSS HFQ HSQ HST HNQ HEQ1 K2 k2
                            go_wp2_with fail
                            go_loopw [29] (fun j wr => ∃ jj : Nat, Q ≤ jj ∧ jj ≤ M + 1 ∧ j = .int .i64 jj ∧ Hid (Below w15.heap.size w15 wr)) (fun j _ => M + 1 - (intOf j).toNat)
                            case atStart => exact ⟨Q, Nat.le_refl _, hQ, rfl, HB2⟩
                            case round =>
                              clear HB2
                              obtain ⟨j, hQj, hj, rfl, hB⟩ := hrel
                              by_cases hlt : j < M + 1
                              · as_aux_lemma =>
                                  obtain ⟨z, g, ao, cap, ao', cap', hf2, hf1, hs2, hs1, hnn, hzl⟩ := (HEQ2.out j hQj hlt).over hB.out.drew (Nat.le_refl _)
                                  have HP : Hid (FileAt wr.drew br2 ((j + 1) * 11) { z with ha := ao, hc := cap } ∧ FileAt wr.drew br1 (j * 11) { z with ha := ao', hc := cap' }) := ⟨hf2, hf1⟩
                                  have HS2 : Hid (StrsAt 0 wr.drew ao z.hl cap g) := hs2
                                  have HS1 : Hid (StrsAt 0 wr.drew ao' z.hl cap' g) := hs1
                                  have HNN : Hid (ao = none ↔ ao' = none) := hnn
                                  have hj1 : (j : Int) < (M : Int) + 1 := by omega
                                  have hj2 : (j : Int) < (M : Int) + 1 + 1 := by omega
                                  have hj3 : (j : Int) + 1 < (M : Int) + 1 + 1 := by omega
                                  have hwr : IntKind.i64.wrap ((j : Int) + 1) = (j : Int) + 1 := Go.IntWalk.i64_in _ (by omega)
                                  have hj5 : (0 : Int) ≤ (j : Int) + 1 := by omega
                                  clear hf1 hf2 hs1 hs2 hnn
                                  go_wp2_with fail
                                  go_region_held3 (fun w' => w'.cell? ⟨br2, (j + 1) * 11, none⟩ = some (.string z.nm) ∧ w'.cell? ⟨br2, (j + 1) * 11 + 1, none⟩ = some (.int .i64 z.sz) ∧ w'.cell? ⟨br2, (j + 1) * 11 + 2, none⟩ = some (.string z.sha) ∧ w'.cell? ⟨br2, (j + 1) * 11 + 3, none⟩ = some (.string z.md) ∧ w'.cell? ⟨br2, (j + 1) * 11 + 4, none⟩ = some (.int .i64 z.rep) ∧ w'.cell? ⟨br2, (j + 1) * 11 + 5, none⟩ = some (.slice ao z.hl cap) ∧ w'.cell? ⟨br2, (j + 1) * 11 + 6, none⟩ = some (.int .i64 z.ver) ∧ w'.cell? ⟨br2, (j + 1) * 11 + 7, none⟩ = some (.int .i64 z.ep) ∧ w'.cell? ⟨br2, (j + 1) * 11 + 8, none⟩ = some (.int .i64 z.rem) ∧ w'.cell? ⟨br2, (j + 1) * 11 + 9, none⟩ = some (.bool z.ptr) ∧ w'.cell? ⟨br2, (j + 1) * 11 + 10, none⟩ = some (.bool z.dam) ∧ w'.cell? ⟨br1, j * 11, none⟩ = some (.string z.nm) ∧ w'.cell? ⟨br1, j * 11 + 1, none⟩ = some (.int .i64 z.sz) ∧ w'.cell? ⟨br1, j * 11 + 2, none⟩ = some (.string z.sha) ∧ w'.cell? ⟨br1, j * 11 + 3, none⟩ = some (.string z.md) ∧ w'.cell? ⟨br1, j * 11 + 4, none⟩ = some (.int .i64 z.rep) ∧ w'.cell? ⟨br1, j * 11 + 5, none⟩ = some (.slice ao' z.hl cap') ∧ w'.cell? ⟨br1, j * 11 + 6, none⟩ = some (.int .i64 z.ver) ∧ w'.cell? ⟨br1, j * 11 + 7, none⟩ = some (.int .i64 z.ep) ∧ w'.cell? ⟨br1, j * 11 + 8, none⟩ = some (.int .i64 z.rem) ∧ w'.cell? ⟨br1, j * 11 + 9, none⟩ = some (.bool z.ptr) ∧ w'.cell? ⟨br1, j * 11 + 10, none⟩ = some (.bool z.dam))
                                    (first | exact two_flat2 HP.out | exact two_flat2 (two_over hb1 HP.out))
                                    (first | (go_at_call 19; refine (eqFile_any z ao ao' cap cap' g _ HS2.out HS1.out HNN.out hzl).mono ?_; rintro e w2 ⟨rfl, hb1⟩))
                                  have HB2 : Hid (Below w15.heap.size w15 w2) := hB.out.drew.trans (hb1.mono hB.out.size)
                                  clear hb1 HP HS2 HS1 HNN
                                  go_wp2
                                  go_roundw
                                  case rel => exact ⟨j + 1, by omega, hlt, step_num j, HB2⟩
                                  case measure => exact step_down (M + 1) j hlt

                              · obtain rfl : j = M + 1 := by omega
                                go_wp2
                                go_ret
                                exact ⟨rfl, HBd.out.trans (hB.out.mono HBd.out.size)⟩

end Go.Proofs.Qxb6612566a.st
