/-
  ZZsupersede and the law FnSupersedeNeverBothWays.
-/
import Derived.Test.Qxb6612566aFmtStSup
import Derived.Test.Qxb6612566aFmtStBytes
namespace Go.Proofs.Qxb6612566aFmt.st
open Go.RowKit Go.Maps Go.Extern.Stop Go.Stop Go.Extern
attribute [local go_sem ↓] Go.wp_at_zero Go.wp_at_succ

/-- What 'supersede' hands back. -/
def SupVal (old : Bool) (v : Value) : Prop := (old = true ∧ ∃ x, v = .iface 75 x) ∨ (old = false ∧ v = .nilIface)

theorem supVal {b : Bool} {e : Ending} (h : SupEnd b e) : ∃ v, e = .returned v ∧ SupVal b v := by
  rcases h with ⟨h1, x, rfl⟩ | ⟨h1, rfl⟩
  · exact ⟨_, rfl, Or.inl ⟨h1, x, rfl⟩⟩
  · exact ⟨_, rfl, Or.inr ⟨h1, rfl⟩⟩

theorem zsup_none (p m : Nat) (z : ZF) (ao : Option Addr) (cap : Nat) (w : World) (hp : w.cell? ⟨p, 4, none⟩ = some (.map (some m))) (hm : m < w.heap.size)
    (hlook : ∀ w', w'.heap[m]? = w.heap[m]? → (Instr.lookup 32 (.map (some m)) (.string z.nm) true).run Tryf.prog w' = .ok (.tuple #[zero40, .bool false]) w') :
    Calls Tryf.prog 9 #[.pointer (some ⟨p, 0, none⟩), fileVal z ao cap] w fun e w' => (∃ v, e = .returned v ∧ SupVal false v) ∧ Below w.heap.size w w' := by
  have HL : Hid (∀ w', w'.heap[m]? = w.heap[m]? → (Instr.lookup 32 (.map (some m)) (.string z.nm) true).run Tryf.prog w' = .ok (.tuple #[zero40, .bool false]) w') := hlook
  have HM : Hid (m < w.heap.size) := hm
  have HP : Hid (w.cell? ⟨p, 4, none⟩ = some (.map (some m))) := hp
  clear hlook hm hp
  go_enter Tryf.func9, Tryf.ntmps9
  go_wp2_with fail
  refine (sup_none p m z ao cap _ (cell_over ((Below.refl w.heap.size w).alloc (Nat.le_refl _) _) (Nat.le_refl _) HP.out) (by have := HM.out; simp; omega) (fun w' h => HL.out w' (h.trans (Below.heap_alloc _ _ _ HM.out)))).mono ?_
  rintro e w1 ⟨rfl, hb⟩
  have HB : Hid (Below w.heap.size w w1) := ((Below.refl w.heap.size w).alloc (Nat.le_refl _) _).trans (hb.mono (by simp))
  clear hb
  go_wp2_with fail
  go_ret
  exact ⟨⟨_, rfl, Or.inr ⟨rfl, rfl⟩⟩, HB.out⟩

theorem zsup_some (F : Interp) (p m : Nat) (z zo : ZF) (a : Addr) (s : ByteArray) (w : World) (hF : F.answers w.tape) (hg : w.cell? ⟨0, 0, none⟩ = some (.iface 76 (.pointer (some a)))) (hs : w.cell? a = some (.string s))
    (hp : w.cell? ⟨p, 4, none⟩ = some (.map (some m))) (hm : m < w.heap.size)
    (hlook : ∀ w', w'.heap[m]? = w.heap[m]? → (Instr.lookup 32 (.map (some m)) (.string z.nm) true).run Tryf.prog w' = .ok (.tuple #[fileVal zo zo.ha zo.hc, .bool true]) w') :
    Calls Tryf.prog 9 #[.pointer (some ⟨p, 0, none⟩), fileVal z z.ha z.hc] w fun e w' => (∃ v, e = .returned v ∧ SupVal (olderB z.ver z.ep zo.ver zo.ep) v) ∧ Below w.heap.size w w' := by
  have HL : Hid (∀ w', w'.heap[m]? = w.heap[m]? → (Instr.lookup 32 (.map (some m)) (.string z.nm) true).run Tryf.prog w' = .ok (.tuple #[fileVal zo zo.ha zo.hc, .bool true]) w') := hlook
  have HM : Hid (m < w.heap.size) := hm
  have HP : Hid (w.cell? ⟨p, 4, none⟩ = some (.map (some m))) := hp
  have HG : Hid (w.cell? ⟨0, 0, none⟩ = some (.iface 76 (.pointer (some a)))) := hg
  have HT : Hid (w.cell? a = some (.string s)) := hs
  have HF : Hid (F.answers w.tape) := hF
  clear hlook hm hp hg hs hF
  go_enter Tryf.func9, Tryf.ntmps9
  go_wp2_with fail
  refine (sup_some F p m z zo a s _ (by show F.answers w.tape; exact HF.out) (cell_over ((Below.refl w.heap.size w).alloc (Nat.le_refl _) _) (Nat.le_refl _) HG.out) (cell_over ((Below.refl w.heap.size w).alloc (Nat.le_refl _) _) (Nat.le_refl _) HT.out) (cell_over ((Below.refl w.heap.size w).alloc (Nat.le_refl _) _) (Nat.le_refl _) HP.out) (by have := HM.out; simp; omega) (fun w' h => HL.out w' (h.trans (Below.heap_alloc _ _ _ HM.out)))).mono ?_
  rintro e w1 ⟨hS, hb⟩
  obtain ⟨v, rfl, hv⟩ := supVal hS
  have HB : Hid (Below w.heap.size w w1) := ((Below.refl w.heap.size w).alloc (Nat.le_refl _) _).trans (hb.mono (by simp))
  have HV : Hid (SupVal (olderB z.ver z.ep zo.ver zo.ep) v) := hv
  clear hb hS hv
  go_wp2_with fail
  go_ret
  exact ⟨⟨_, rfl, HV.out⟩, HB.out⟩

theorem last_exists (n : Nat) (nm : Nat → ByteArray) (s : ByteArray) : (∀ j, j < n → nm j ≠ s) ∨ ∃ i, i < n ∧ nm i = s ∧ ∀ j, i < j → j < n → nm j ≠ s := by
  induction n with
  | zero => exact Or.inl fun j h => absurd h (by omega)
  | succ n ih =>
    by_cases h : nm n = s
    · exact Or.inr ⟨n, by omega, h, fun j h1 h2 => absurd h1 (by omega)⟩
    · rcases ih with h' | ⟨i, h1, h2, h3⟩
      · refine Or.inl fun j hj => ?_
        rcases (show j < n ∨ j = n by omega) with h1 | rfl
        · exact h' j h1
        · exact h
      · refine Or.inr ⟨i, by omega, h2, fun j h4 h5 => ?_⟩
        rcases (show j < n ∨ j = n by omega) with h6 | rfl
        · exact h3 j h4 h6
        · exact h

/-- One store more. -/
theorem put_step {w7 w8 : World} {m n : Nat} {D : DataW Value} (h : w7.ownsMap Tryf.prog 9 heldR m n D) (hb : Below w7.drew.heap.size w7.drew w8) (hn : n ≤ 65536) (s : ByteArray) (hs : s.size ≤ maxLen) (v : Value) :
    ∃ w9, (Instr.mapUpdate 32 (.map (some m)) (.string s) v).run Tryf.prog w8 = .ok () w9 ∧ w8.grownBy w9 (some m) ∧ w9.ownsMap Tryf.prog 9 heldR m (n + 1) (D.put (keyS s) (.held v)) := by
  have hlt : m < w7.heap.size := h.lt
  have h8 : w8.ownsMap Tryf.prog 9 heldR m n D := by
    obtain ⟨es, clock, hbk, r⟩ := h
    exact ⟨es, clock, (hb.block m hlt).trans hbk, r⟩
  obtain ⟨w9, hrun, hown, hg⟩ := h8.update law9 Tryf.underlying32 (by unfold maxLen; omega) (WideMaps.keyOf_string_mk Tryf.underlying9 hs) (show heldR v = some (.held v, []) from rfl)
  exact ⟨w9, hrun, hg, hown⟩

/-- A file in a new block. -/
theorem file_new (w : World) (z : ZF) (t : TypeId) : FileAt (w.alloc (.cells #[.string z.nm, .int .i64 z.sz, .string z.sha, .string z.md, .int .i64 z.rep, .slice z.ha z.hl z.hc, .int .i64 z.ver, .int .i64 z.ep, .int .i64 z.rem, .bool z.ptr, .bool z.dam] t)) w.heap.size 0 z := by
  have c1 : ∀ j, (w.alloc (.cells #[.string z.nm, .int .i64 z.sz, .string z.sha, .string z.md, .int .i64 z.rep, .slice z.ha z.hl z.hc, .int .i64 z.ver, .int .i64 z.ep, .int .i64 z.rem, .bool z.ptr, .bool z.dam] t)).cell? ⟨w.heap.size, j, none⟩ = (#[.string z.nm, .int .i64 z.sz, .string z.sha, .string z.md, .int .i64 z.rep, .slice z.ha z.hl z.hc, .int .i64 z.ver, .int .i64 z.ep, .int .i64 z.rem, .bool z.ptr, .bool z.dam] : Array Value)[j]? := fun j => cell_of_row _ _ j _ _ _ (heap_alloc_new w _)
  exact ⟨c1 0, c1 1, c1 2, c1 3, c1 4, c1 5, c1 6, c1 7, c1 8, c1 9, c1 10⟩

set_option maxRecDepth 100000 in
set_option maxHeartbeats 8000000 in
theorem main_any (F : Interp) (v : Value) (n : Nat) (Z : Nat → ZF) (G : Nat → Nat → ByteArray) (z : ZF) (g : Nat → ByteArray) (a : Addr) (s : ByteArray) (w : World) (hF : F.answers w.tape) (hg : w.cell? ⟨0, 0, none⟩ = some (.iface 76 (.pointer (some a)))) (hs : w.cell? a = some (.string s))
    (hv : FilesAt w v n Z G) (hz : StrsAt 0 w z.ha z.hl z.hc g) (hn : n ≤ 9223372036854775807) (hh : ∀ i, i < n → (Z i).hl ≤ 9223372036854775807) (hzl : z.hl ≤ 9223372036854775807) (hm : ∀ i, i < n → (Z i).nm.size ≤ maxLen) (hzm : z.nm.size ≤ maxLen) :
    Calls Tryf.prog 3 #[v, fileVal z z.ha z.hc] w fun e w' => e = .returned (.bool true) ∧ Below w.heap.size w w' := by
  have HF : Hid (F.answers w.tape) := hF
  have HG : Hid (w.cell? ⟨0, 0, none⟩ = some (.iface 76 (.pointer (some a)))) := hg
  have HT : Hid (w.cell? a = some (.string s)) := hs
  have HV : Hid (FilesAt w v n Z G) := hv
  have HZ : Hid (StrsAt 0 w z.ha z.hl z.hc g) := hz
  have HH : Hid (∀ i, i < n → (Z i).hl ≤ 9223372036854775807) := hh
  have HM : Hid (∀ i, i < n → (Z i).nm.size ≤ maxLen) := hm
  have HZM : Hid (z.nm.size ≤ maxLen) := hzm
  obtain ⟨ao, cap, hvs⟩ := hv.len
  subst hvs
  clear hF hg hs hv hz hh hm hzm
  go_enter Tryf.func3, Tryf.ntmps3
  go_upto_region 1 with fail
  have HBW0 : Hid (Below w.heap.size w (w.alloc (.cells #[.string z.nm, .int .i64 z.sz, .string z.sha, .string z.md, .int .i64 z.rep, .slice z.ha z.hl z.hc, .int .i64 z.ver, .int .i64 z.ep, .int .i64 z.rem, .bool z.ptr, .bool z.dam] 25))) := (Below.refl _ _).alloc (Nat.le_refl _) _
  have HFW0 : Hid (FileAt (w.alloc (.cells #[.string z.nm, .int .i64 z.sz, .string z.sha, .string z.md, .int .i64 z.rep, .slice z.ha z.hl z.hc, .int .i64 z.ver, .int .i64 z.ep, .int .i64 z.rem, .bool z.ptr, .bool z.dam] 25)) w.heap.size 0 z) := file_new w z 25
  have hsz : w.heap.size < (w.alloc (.cells #[.string z.nm, .int .i64 z.sz, .string z.sha, .string z.md, .int .i64 z.rep, .slice z.ha z.hl z.hc, .int .i64 z.ver, .int .i64 z.ep, .int .i64 z.rem, .bool z.ptr, .bool z.dam] 25)).heap.size := by simp
  generalize (w.alloc (.cells #[.string z.nm, .int .i64 z.sz, .string z.sha, .string z.md, .int .i64 z.rep, .slice z.ha z.hl z.hc, .int .i64 z.ver, .int .i64 z.ep, .int .i64 z.rem, .bool z.ptr, .bool z.dam] 25)) = W0 at HBW0 HFW0 hsz ⊢
  obtain ⟨k0, k1, k2, k3, k4, k5, k6, k7, k8, k9, k10⟩ := HFW0.out
  go_wp2_with fail
  refine (bytesF_any _ n Z G z g _ (HV.out.over HBW0.out (Nat.le_refl _)) (HZ.out.over HBW0.out (Nat.le_refl _)) hn HH.out hzl).mono ?_
  rintro e w1 ⟨⟨bb, rfl⟩, hb1⟩
  have HBw1 : Hid (Below w.heap.size w w1) := HBW0.out.trans (hb1.mono HBW0.out.size)
  have HFw1 : Hid (FileAt w1 w.heap.size 0 z) := HFW0.out.over hb1 (Nat.le_refl _)
  clear k0 k1 k2 k3 k4 k5 k6 k7 k8 k9 k10
  obtain ⟨k0, k1, k2, k3, k4, k5, k6, k7, k8, k9, k10⟩ := HFw1.out
  have szw1 : w.heap.size < w1.heap.size := by have := hb1.size; omega
  clear hb1 hsz
  go_wp2_with fail
  any_goals (go_ret; exact ⟨rfl, HBw1.out⟩)
  refine (filesBytes_any _ _ n Z G _ (HV.out.over HBw1.out (Nat.le_refl _)) hn HH.out).mono ?_
  rintro e w2 ⟨⟨r1, rfl, q1⟩, hw⟩
  obtain rfl := hw.symm
  have Q1 : Hid (FS 0 n Z r1) := q1
  clear q1 hw
  go_wp2_with fail
  refine (fileBytes_any _ _ _ z g _ HFw1.out (HZ.out.over HBw1.out (Nat.le_refl _)) hzl).mono ?_
  rintro e w2 ⟨⟨r2, rfl, q1⟩, hw⟩
  obtain rfl := hw.symm
  have Q2 : Hid (FB r1 z.hl r2) := q1
  clear q1 hw
  go_wp2_with fail
  any_goals (go_ret; exact ⟨rfl, HBw1.out⟩)
  have hr2 : r2 ≤ 1048576 := by assumption
  have hn1 : n ≤ 65536 := by omega
  have hzl1 : z.hl ≤ 65536 := (Q2.out hr2).2
  have HHL : Hid (∀ i, i < n → (Z i).hl ≤ 65536) := (Q1.out (Q2.out hr2).1).2
  clear Q1 Q2 hn hzl HH
  refine (build_any _ n Z G _ (HV.out.over HBw1.out (Nat.le_refl _)) hn1 HHL.out HM.out).mono ?_
  rintro e w2 ⟨rfl, V, hBu⟩
  have hb2 := hBu.2.2
  have HBw2 : Hid (Below w.heap.size w w2) := HBw1.out.trans (hb2.mono HBw1.out.size)
  have HFw2 : Hid (FileAt w2 w.heap.size 0 z) := HFw1.out.over hb2 (Nat.le_refl _)
  clear k0 k1 k2 k3 k4 k5 k6 k7 k8 k9 k10
  obtain ⟨k0, k1, k2, k3, k4, k5, k6, k7, k8, k9, k10⟩ := HFw2.out
  have HBu : Hid (Build w1 w2 n Z G V) := hBu
  clear hBu
  go_wp2_with fail
  refine (newStore_any _ _).mono ?_
  rintro e w3 ⟨rfl, hb3, hp3⟩
  have HBw3 : Hid (Below w.heap.size w w3) := HBw2.out.trans (hb3.mono HBw2.out.size)
  have HFw3 : Hid (FileAt w3 w.heap.size 0 z) := HFw2.out.over hb3 (Nat.le_refl _)
  clear k0 k1 k2 k3 k4 k5 k6 k7 k8 k9 k10
  obtain ⟨k0, k1, k2, k3, k4, k5, k6, k7, k8, k9, k10⟩ := HFw3.out
  have HP3 : Hid (w3.cell? ⟨w2.heap.size, 4, none⟩ = some (.map (some w1.heap.size))) := hp3
  have HX3 : Hid (Below w2.heap.size w2 w3) := hb3
  clear hb3 hp3 hb2
  go_wp2_with fail
  refine (toFile_any z g _ (HZ.out.over HBw3.out (Nat.le_refl _)) hzl1).mono ?_
  rintro e w4 ⟨ao1, cap1, rfl, _, _, hb4⟩
  have HBw4 : Hid (Below w.heap.size w w4) := HBw3.out.trans (hb4.mono HBw3.out.size)
  have HFw4 : Hid (FileAt w4 w.heap.size 0 z) := HFw3.out.over hb4 (Nat.le_refl _)
  clear k0 k1 k2 k3 k4 k5 k6 k7 k8 k9 k10
  obtain ⟨k0, k1, k2, k3, k4, k5, k6, k7, k8, k9, k10⟩ := HFw4.out
  have HX4 : Hid (Below w3.heap.size w3 w4) := hb4
  clear hb4
  go_wp2_with fail
  have hm4 : w1.heap.size < w4.heap.size := by have := HBu.out.1.lt; have := HX3.out.size; have := HX4.out.size; omega
  have HE : Hid (w4.heap[w1.heap.size]? = w2.heap[w1.heap.size]?) := (HX4.out.block _ (by have := HBu.out.1.lt; have := HX3.out.size; omega)).trans (HX3.out.block _ HBu.out.1.lt)
  have HP4 : Hid (w4.cell? ⟨w2.heap.size, 4, none⟩ = some (.map (some w1.heap.size))) := cell_over HX4.out (Nat.le_refl _) HP3.out
  rcases last_exists n (fun j => (Z j).nm) z.nm with hno | ⟨i, hi, hie, hil⟩
  · have HNO : Hid (∀ j, j < n → (Z j).nm ≠ z.nm) := hno
    clear hno
    refine (zsup_none w2.heap.size w1.heap.size z ao1 cap1 _ HP4.out hm4 (fun w' h => by
      have hno := Mfold_no (fun j => (Z j).nm) V z.nm n HNO.out
      have := look_at HBu.out.1 z.nm HZM.out zero40 (fun x => Or.inr ⟨atKey_of_not_has hno x, rfl⟩) w' (h.trans HE.out)
      rw [hno] at this; exact this)).mono ?_
    rintro e w5 ⟨⟨vA, rfl, hvA⟩, hb5⟩
    have HVA : Hid (SupVal false vA) := hvA
    clear hvA
    have HBw5 : Hid (Below w.heap.size w w5) := HBw4.out.trans (hb5.mono HBw4.out.size)
    have HFw5 : Hid (FileAt w5 w.heap.size 0 z) := HFw4.out.over hb5 (Nat.le_refl _)
    clear k0 k1 k2 k3 k4 k5 k6 k7 k8 k9 k10
    obtain ⟨k0, k1, k2, k3, k4, k5, k6, k7, k8, k9, k10⟩ := HFw5.out
    clear hb5
    go_wp2_with fail
    refine (last_any _ n Z G z.nm _ (HV.out.over HBw5.out (Nat.le_refl _)) hn1).mono ?_
    rintro e w6 ⟨⟨r3, rfl, q3⟩, hw⟩
    obtain rfl := hw.symm
    obtain rfl : r3 = -1 := by
      rcases q3 with h | ⟨i, hi, _, h, _⟩
      · exact h.1
      · exact absurd h (HNO.out i hi)
    clear q3 hw
    rcases HVA.out with ⟨h, _⟩ | ⟨_, rfl⟩
    · cases h
    go_wp2_with fail
    go_ret
    exact ⟨rfl, HBw5.out⟩
  · have HIE : Hid ((Z i).nm = z.nm ∧ ∀ j, i < j → j < n → (Z j).nm ≠ z.nm) := ⟨hie, hil⟩
    clear hie hil
    obtain ⟨ao2, cap2, hVi, _, _⟩ := HBu.out.2.1 i hi
    have HVi : Hid (V i = fileVal (Z i) ao2 cap2) := hVi
    clear hVi
    refine (zsup_some F w2.heap.size w1.heap.size { z with ha := ao1, hc := cap1 } { Z i with ha := ao2, hc := cap2 } a s _ (by rw [HBw4.out.tape]; exact HF.out) (cell_over HBw4.out (Nat.le_refl _) HG.out) (cell_over HBw4.out (Nat.le_refl _) HT.out) HP4.out hm4 (fun w' h => by
      obtain ⟨r1, r2⟩ := Mfold_last (fun j => (Z j).nm) V z.nm i HIE.out.1 n hi HIE.out.2
      have := look_at HBu.out.1 z.nm HZM.out (V i) (fun x => Or.inl (r2 x)) w' (h.trans HE.out)
      rw [r1, HVi.out] at this; exact this)).mono ?_
    rintro e w5 ⟨⟨vA, rfl, hvA⟩, hb5⟩
    have HVA : Hid (SupVal (olderB z.ver z.ep (Z i).ver (Z i).ep) vA) := hvA
    clear hvA
    have HBw5 : Hid (Below w.heap.size w w5) := HBw4.out.trans (hb5.mono HBw4.out.size)
    have HFw5 : Hid (FileAt w5 w.heap.size 0 z) := HFw4.out.over hb5 (Nat.le_refl _)
    clear k0 k1 k2 k3 k4 k5 k6 k7 k8 k9 k10
    obtain ⟨k0, k1, k2, k3, k4, k5, k6, k7, k8, k9, k10⟩ := HFw5.out
    clear hb5 HBu HVi HE HP3 HP4 HX3 HX4 hm4
    go_wp2_with fail
    refine (last_any _ n Z G z.nm _ (HV.out.over HBw5.out (Nat.le_refl _)) hn1).mono ?_
    rintro e w6 ⟨⟨r3, rfl, q3⟩, hw⟩
    obtain rfl := hw.symm
    obtain rfl : r3 = (i : Int) := by
      rcases q3 with h | ⟨i', hi', h1, h2, h3⟩
      · exact absurd HIE.out.1 (h.2 i hi)
      · rcases Nat.lt_trichotomy i i' with h | h | h
        · exact absurd h2 (HIE.out.2 i' h hi')
        · rw [h1, h]
        · exact absurd HIE.out.1 (h3 i h hi)
    clear q3 hw
    obtain ⟨ao', cap', b, off, e1, _, _, hao, hc, hsi⟩ := HV.out
    simp only [Value.slice.injEq, true_and] at e1
    obtain ⟨rfl, rfl⟩ := e1
    cases hao (by omega)
    have HO5 : Hid (FileAt w5 b (off + i * 11) (Z i)) := (hc i hi).over HBw5.out (Nat.le_refl _)
    have HSI : Hid (∀ i, i < n → StrsAt 0 w (Z i).ha (Z i).hl (Z i).hc (G i)) := hsi
    clear hao hc hsi
    obtain ⟨o0, o1, o2, o3, o4, o5, o6, o7, o8, o9, o10⟩ := HO5.out
    have hi' : (i : Int) < (n : Int) := by omega
    go_upto_region 13 with fail
    have HBW6 : Hid (Below w.heap.size w (w5.alloc (.cells #[.string (Z i).nm, .int .i64 (Z i).sz, .string (Z i).sha, .string (Z i).md, .int .i64 (Z i).rep, .slice (Z i).ha (Z i).hl (Z i).hc, .int .i64 (Z i).ver, .int .i64 (Z i).ep, .int .i64 (Z i).rem, .bool (Z i).ptr, .bool (Z i).dam] 25))) := HBw5.out.alloc HBw5.out.size _
    have HFW6 : Hid (FileAt (w5.alloc (.cells #[.string (Z i).nm, .int .i64 (Z i).sz, .string (Z i).sha, .string (Z i).md, .int .i64 (Z i).rep, .slice (Z i).ha (Z i).hl (Z i).hc, .int .i64 (Z i).ver, .int .i64 (Z i).ep, .int .i64 (Z i).rem, .bool (Z i).ptr, .bool (Z i).dam] 25)) w.heap.size 0 z) := HFw5.out.over ((Below.refl w5.heap.size w5).alloc (Nat.le_refl _) _) (Nat.le_refl _)
    have HOW6 : Hid (FileAt (w5.alloc (.cells #[.string (Z i).nm, .int .i64 (Z i).sz, .string (Z i).sha, .string (Z i).md, .int .i64 (Z i).rep, .slice (Z i).ha (Z i).hl (Z i).hc, .int .i64 (Z i).ver, .int .i64 (Z i).ep, .int .i64 (Z i).rem, .bool (Z i).ptr, .bool (Z i).dam] 25)) w5.heap.size 0 (Z i)) := file_new w5 (Z i) 25
    have sz6 : w5.heap.size < (w5.alloc (.cells #[.string (Z i).nm, .int .i64 (Z i).sz, .string (Z i).sha, .string (Z i).md, .int .i64 (Z i).rep, .slice (Z i).ha (Z i).hl (Z i).hc, .int .i64 (Z i).ver, .int .i64 (Z i).ep, .int .i64 (Z i).rem, .bool (Z i).ptr, .bool (Z i).dam] 25)).heap.size := by simp
    have sz5 : w.heap.size < w5.heap.size := World.block_lt_of_cell? w5 _ k0
    clear k0 k1 k2 k3 k4 k5 k6 k7 k8 k9 k10 o0 o1 o2 o3 o4 o5 o6 o7 o8 o9 o10 HO5
    generalize (w5.alloc (.cells #[.string (Z i).nm, .int .i64 (Z i).sz, .string (Z i).sha, .string (Z i).md, .int .i64 (Z i).rep, .slice (Z i).ha (Z i).hl (Z i).hc, .int .i64 (Z i).ver, .int .i64 (Z i).ep, .int .i64 (Z i).rem, .bool (Z i).ptr, .bool (Z i).dam] 25)) = W6 at HBW6 HFW6 HOW6 sz6 ⊢
    go_wp2_with fail
    refine (build_any _ n Z G _ (HV.out.over HBW6.out (Nat.le_refl _)) hn1 HHL.out HM.out).mono ?_
    rintro e w7 ⟨rfl, V2, hBu2⟩
    have HBu2 : Hid (w7.ownsMap Tryf.prog 9 heldR W6.heap.size n (Mfold (fun j => (Z j).nm) V2 n)) := hBu2.1
    have hb7 := hBu2.2.2
    have HBw7 : Hid (Below w.heap.size w w7) := HBW6.out.trans (hb7.mono HBW6.out.size)
    have HFw7 : Hid (FileAt w7.drew w.heap.size 0 z) := (HFW6.out.over hb7 (Nat.le_refl _)).over (Below.drew (Below.refl _ _)) (Nat.le_refl _)
    have HOw7 : Hid (FileAt w7 w5.heap.size 0 (Z i)) := HOW6.out.over hb7 (Nat.le_refl _)
    have HZ7 : Hid (StrsAt 0 w7.drew z.ha z.hl z.hc g) := HZ.out.over HBw7.out.drew (Nat.le_refl _)
    have hne1 : w.heap.size ≠ W6.heap.size := by omega
    clear hBu2 hb7
    go_wp2_with fail
    go_region_held3 (fun w' => w'.cell? ⟨w.heap.size, 0, none⟩ = some (.string z.nm) ∧ w'.cell? ⟨w.heap.size, 1, none⟩ = some (.int .i64 z.sz) ∧ w'.cell? ⟨w.heap.size, 2, none⟩ = some (.string z.sha) ∧ w'.cell? ⟨w.heap.size, 3, none⟩ = some (.string z.md) ∧ w'.cell? ⟨w.heap.size, 4, none⟩ = some (.int .i64 z.rep) ∧ w'.cell? ⟨w.heap.size, 5, none⟩ = some (.slice z.ha z.hl z.hc) ∧ w'.cell? ⟨w.heap.size, 6, none⟩ = some (.int .i64 z.ver) ∧ w'.cell? ⟨w.heap.size, 7, none⟩ = some (.int .i64 z.ep) ∧ w'.cell? ⟨w.heap.size, 8, none⟩ = some (.int .i64 z.rem) ∧ w'.cell? ⟨w.heap.size, 9, none⟩ = some (.bool z.ptr) ∧ w'.cell? ⟨w.heap.size, 10, none⟩ = some (.bool z.dam))
      (first | exact HFw7.out | exact FileAt.over HFw7.out hb8 (Nat.le_refl _) | exact FileAt.grown (FileAt.over HFw7.out hb8 (Nat.le_refl _)) hgr9 hne1)
      (first | (go_at_call 10; refine (toFile_any z g w7.drew HZ7.out hzl1).mono ?_; rintro e w8 ⟨ao4, cap4, rfl, hs8, hn8, hb8⟩; obtain ⟨w9, hrun9, hgr9, hown9⟩ := put_step HBu2.out hb8 hn1 z.nm HZM.out (fileVal z ao4 cap4)))
    go_wp2_with fail
    have HBw9 : Hid (Below w.heap.size w w9) := (HBw7.out.drew.trans (hb8.mono HBw7.out.size)).grown hgr9 (by have := HBw7.out.size; have := hb8.size; exact Nat.le_trans HBw7.out.size hb8.size) (fun j e => by cases e; exact HBW6.out.size)
    have HFw9 : Hid (FileAt w9 w.heap.size 0 z) := FileAt.grown (FileAt.over HFw7.out hb8 (Nat.le_refl _)) hgr9 hne1
    have HOw9 : Hid (FileAt w9 w5.heap.size 0 (Z i)) := FileAt.grown (FileAt.over (FileAt.over HOw7.out (Below.drew (Below.refl _ _)) (Nat.le_refl _)) hb8 (Nat.le_refl _)) hgr9 (by omega)
    have HW9 : Hid (w9.ownsMap Tryf.prog 9 heldR W6.heap.size (n + 1) ((Mfold (fun j => (Z j).nm) V2 n).put (keyS z.nm) (.held (fileVal z ao4 cap4)))) := hown9
    clear hrun9 hgr9 hown9 hb8 hs8 hn8 HBw7 HFw7 HOw7 HZ7 HBu2
    refine (newStore_any _ _).mono ?_
    rintro e w10 ⟨rfl, hb10, hp10⟩
    have hsi : StrsAt 0 w (Z i).ha (Z i).hl (Z i).hc (G i) := HSI.out i hi
    have HBx : Hid (Below w.heap.size w w10) := HBw9.out.trans (hb10.mono HBw9.out.size)
    have HFx : Hid (FileAt w10 w.heap.size 0 z) := HFw9.out.over hb10 (Nat.le_refl _)
    have HOx : Hid (FileAt w10 w5.heap.size 0 (Z i)) := HOw9.out.over hb10 (Nat.le_refl _)
    have HX10 : Hid (Below w9.heap.size w9 w10) := hb10
    have HP10 : Hid (w10.cell? ⟨w9.heap.size, 4, none⟩ = some (.map (some W6.heap.size))) := hp10
    clear hb10 hp10
    obtain ⟨o0, o1, o2, o3, o4, o5, o6, o7, o8, o9, o10⟩ := HOx.out
    go_wp2_with fail
    refine (toFile_any (Z i) (G i) _ (hsi.over HBx.out (Nat.le_refl _)) (HHL.out i hi)).mono ?_
    rintro e w11 ⟨ao3, cap3, rfl, _, _, hb11⟩
    have HBy : Hid (Below w.heap.size w w11) := HBx.out.trans (hb11.mono HBx.out.size)
    have HFy : Hid (FileAt w11 w.heap.size 0 z) := HFx.out.over hb11 (Nat.le_refl _)
    have HOy : Hid (FileAt w11 w5.heap.size 0 (Z i)) := HOx.out.over hb11 (Nat.le_refl _)
    have HP11 : Hid (w11.cell? ⟨w9.heap.size, 4, none⟩ = some (.map (some W6.heap.size))) := cell_over hb11 (Nat.le_refl _) HP10.out
    have hmy : W6.heap.size < w11.heap.size := by have := HW9.out.lt; have := HX10.out.size; have := hb11.size; omega
    have HEy : Hid (w11.heap[W6.heap.size]? = w9.heap[W6.heap.size]?) := (hb11.block _ (by have := HW9.out.lt; have := HX10.out.size; omega)).trans (HX10.out.block _ HW9.out.lt)
    clear hb11 HX10 HP10 o0 o1 o2 o3 o4 o5 o6 o7 o8 o9 o10 HBx HFx HOx HBw9 HFw9 HOw9
    go_wp2_with fail
    refine (zsup_some F w9.heap.size W6.heap.size { Z i with ha := ao3, hc := cap3 } { z with ha := ao4, hc := cap4 } a s _ (by rw [HBy.out.tape]; exact HF.out) (cell_over HBy.out (Nat.le_refl _) HG.out) (cell_over HBy.out (Nat.le_refl _) HT.out) HP11.out hmy (fun w' h => by
      have e1 : (Z i).nm = z.nm := HIE.out.1
      have := look_at HW9.out z.nm HZM.out (fileVal z ao4 cap4) (fun x => Or.inl (atKey_put_same (Mfold_isMap _ V2 n) (show WideAt.IsKeyLit (keyS _) from trivial) _ x)) w' (h.trans HEy.out)
      rw [has_put_same (Mfold_isMap _ V2 n) (show WideAt.IsKeyLit (keyS _) from trivial)] at this
      show (Instr.lookup 32 _ (.string (Z i).nm) true).run _ _ = _
      rw [e1]; exact this)).mono ?_
    rintro e w12 ⟨⟨vB, rfl, hvB⟩, hb12⟩
    have HVB : Hid (SupVal (olderB (Z i).ver (Z i).ep z.ver z.ep) vB) := hvB
    have HBz : Hid (Below w.heap.size w w12) := HBy.out.trans (hb12.mono HBy.out.size)
    obtain ⟨k0, k1, k2, k3, k4, k5, k6, k7, k8, k9, k10⟩ : FileAt w12 w.heap.size 0 z := HFy.out.over hb12 (Nat.le_refl _)
    obtain ⟨o0, o1, o2, o3, o4, o5, o6, o7, o8, o9, o10⟩ : FileAt w12 w5.heap.size 0 (Z i) := HOy.out.over hb12 (Nat.le_refl _)
    clear hvB hb12
    rcases HVA.out with ⟨hA, xA, rfl⟩ | ⟨hA, rfl⟩ <;> rcases HVB.out with ⟨hB, xB, rfl⟩ | ⟨hB, rfl⟩
    all_goals (have HA : Hid _ := hA; have HB : Hid _ := hB; clear hA hB)
    all_goals go_wp2_with fail
    all_goals (go_ret; refine ⟨?_, HBz.out⟩; have hA := HA.out; have hB := HB.out; unfold olderB at hA hB; clear HA HB HBz HW9 HSI HIE HZM HM HZ HF HG HT HBy HFy HOy HEy HP11 HV HHL)
    all_goals (first | rfl | (exfalso; simp at hA hB; omega) | (congr 2; simp at hA hB ⊢; omega))

end Go.Proofs.Qxb6612566aFmt.st
