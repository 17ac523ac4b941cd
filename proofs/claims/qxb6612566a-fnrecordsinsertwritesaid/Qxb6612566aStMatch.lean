/-
  ZZrecords, matchRecords.
-/
import Derived.Test.Qxb6612566aStRecs
namespace Go.Proofs.Qxb6612566a.st
open Go.RowKit Go.Maps

theorem zrec_none (p m1 : Nat) (s : ByteArray) (w : World) (hp : w.cell? ⟨p, 4, none⟩ = some (.map (some m1)))
    (hlook : ∀ w', w'.heap[m1]? = w.heap[m1]? → (Instr.lookup 36 (.map (some m1)) (.string s) true).run Try.prog w' = .ok (.tuple #[zero52, .bool false]) w') :
    Calls Try.prog 16 #[.pointer (some ⟨p, 0, none⟩), .string s] w fun e w' => e = .returned (.slice none 0 0) ∧ Below w.heap.size w w' := by
  go_enter Try.func16, Try.ntmps16
  go_wp2_with fail
  refine (rec_none p m1 s w hp hlook).mono ?_
  rintro e w1 ⟨rfl, hb⟩
  have HB : Hid (Below w.heap.size w w1) := hb
  clear hb hp hlook
  go_wp2
  go_ret
  exact ⟨rfl, HB.out⟩

theorem zrec_some (p m1 m2 : Nat) (s : ByteArray) (z : ZF) (vu : Value) (n lo : Nat) (X : Nat → ZW) (y : ZF × (Nat → ByteArray)) (w : World) (hp : w.cell? ⟨p, 4, none⟩ = some (.map (some m1))) (hp2 : w.cell? ⟨p, 5, none⟩ = some (.map (some m2))) (hm2 : m2 < w.heap.size)
    (hlook : ∀ w', w'.heap[m1]? = w.heap[m1]? → (Instr.lookup 36 (.map (some m1)) (.string s) true).run Try.prog w' = .ok (.tuple #[fileVal z z.ha z.hc, .bool true]) w')
    (hlook2 : ∀ w', w'.heap[m2]? = w.heap[m2]? → (Instr.lookup 38 (.map (some m2)) (.string s) false).run Try.prog w' = .ok vu w')
    (hy : Like w z y) (hu : OutAt lo w vu n X) (hn : n ≤ 65537) :
    Calls Try.prog 16 #[.pointer (some ⟨p, 0, none⟩), .string s] w fun e w' => ∃ v F, e = .returned v ∧ Likes w F (y :: reps X n) ∧ RecsAt w' v F ∧ Below w.heap.size w w' := by
  go_enter Try.func16, Try.ntmps16
  go_wp2_with fail
  refine (rec_some p m1 m2 s z vu n lo X y w hp hp2 hm2 hlook hlook2 hy hu hn).mono ?_
  rintro e w1 ⟨v, F, rfl, h1, h2, h3⟩
  have HE : Hid (Likes w F (y :: reps X n) ∧ RecsAt w1 v F ∧ Below w.heap.size w w1) := ⟨h1, h2, h3⟩
  clear h1 h2 h3 hp hp2 hm2 hlook hlook2 hy hu hn
  obtain ⟨_, _, hv7, _⟩ := HE.out.2.1
  subst hv7
  go_wp2
  go_ret
  exact ⟨_, F, rfl, HE.out⟩

theorem two_flat {w : World} {b1 o1 b2 o2 : Nat} {z : ZF} {ao : Option Addr} {cap : Nat} (h : FileAt w b1 o1 { z with ha := ao, hc := cap } ∧ FileAt w b2 o2 z) : w.cell? ⟨b1, o1, none⟩ = some (.string z.nm) ∧ w.cell? ⟨b1, o1 + 1, none⟩ = some (.int .i64 z.sz) ∧ w.cell? ⟨b1, o1 + 2, none⟩ = some (.string z.sha) ∧ w.cell? ⟨b1, o1 + 3, none⟩ = some (.string z.md) ∧ w.cell? ⟨b1, o1 + 4, none⟩ = some (.int .i64 z.rep) ∧ w.cell? ⟨b1, o1 + 5, none⟩ = some (.slice ao z.hl cap) ∧ w.cell? ⟨b1, o1 + 6, none⟩ = some (.int .i64 z.ver) ∧ w.cell? ⟨b1, o1 + 7, none⟩ = some (.int .i64 z.ep) ∧ w.cell? ⟨b1, o1 + 8, none⟩ = some (.int .i64 z.rem) ∧ w.cell? ⟨b1, o1 + 9, none⟩ = some (.bool z.ptr) ∧ w.cell? ⟨b1, o1 + 10, none⟩ = some (.bool z.dam) ∧ w.cell? ⟨b2, o2, none⟩ = some (.string z.nm) ∧ w.cell? ⟨b2, o2 + 1, none⟩ = some (.int .i64 z.sz) ∧ w.cell? ⟨b2, o2 + 2, none⟩ = some (.string z.sha) ∧ w.cell? ⟨b2, o2 + 3, none⟩ = some (.string z.md) ∧ w.cell? ⟨b2, o2 + 4, none⟩ = some (.int .i64 z.rep) ∧ w.cell? ⟨b2, o2 + 5, none⟩ = some (.slice z.ha z.hl z.hc) ∧ w.cell? ⟨b2, o2 + 6, none⟩ = some (.int .i64 z.ver) ∧ w.cell? ⟨b2, o2 + 7, none⟩ = some (.int .i64 z.ep) ∧ w.cell? ⟨b2, o2 + 8, none⟩ = some (.int .i64 z.rem) ∧ w.cell? ⟨b2, o2 + 9, none⟩ = some (.bool z.ptr) ∧ w.cell? ⟨b2, o2 + 10, none⟩ = some (.bool z.dam) := by
  obtain ⟨⟨h0, h1, h2, h3, h4, h5, h6, h7, h8, h9, h10⟩, ⟨k0, k1, k2, k3, k4, k5, k6, k7, k8, k9, k10⟩⟩ := h
  exact ⟨h0, h1, h2, h3, h4, h5, h6, h7, h8, h9, h10, k0, k1, k2, k3, k4, k5, k6, k7, k8, k9, k10⟩
theorem two_over {w w' : World} {b1 o1 b2 o2 : Nat} {z z' : ZF} (hb : Below w.heap.size w w') (h : FileAt w b1 o1 z ∧ FileAt w b2 o2 z') : FileAt w' b1 o1 z ∧ FileAt w' b2 o2 z' :=
  ⟨h.1.over hb (Nat.le_refl _), h.2.over hb (Nat.le_refl _)⟩

theorem reps_le (X : Nat → ZW) (j : Nat) : ∀ n, j ≤ n → (reps X j).length ≤ (reps X n).length
  | 0, h => by obtain rfl : j = 0 := by omega
               exact Nat.le_refl _
  | n + 1, h => by
    rcases (show j ≤ n ∨ j = n + 1 by omega) with h' | rfl
    · have := reps_le X j n h'
      show _ ≤ (reps X n ++ _).length
      rw [List.length_append]; omega
    · exact Nat.le_refl _
theorem reps_bound (X : Nat → ZW) : ∀ n, (reps X n).length ≤ n
  | 0 => Nat.le_refl _
  | n + 1 => by
    have := reps_bound X n
    show (reps X n ++ _).length ≤ _
    rw [List.length_append]
    cases (X n).rp.isNone <;> simp <;> omega
theorem reps_succ (X : Nat → ZW) (j : Nat) (h : (X j).rp ≠ none) : (reps X (j + 1)).length = (reps X j).length + 1 := by
  show (reps X j ++ _).length = _
  have : (X j).rp.isNone = false := by cases hh : (X j).rp with | none => exact absurd hh h | some a => rfl
  rw [this]; simp
theorem reps_skip (X : Nat → ZW) (j : Nat) (h : (X j).rp = none) : reps X (j + 1) = reps X j := by
  show reps X j ++ _ = _
  rw [h]; simp
theorem reps_get (X : Nat → ZW) (j : Nat) (h : (X j).rp ≠ none) : ∀ n, j < n → (reps X n)[(reps X j).length]? = some ((X j).z, (X j).g)
  | 0, h' => absurd h' (by omega)
  | n + 1, h' => by
    have hlen := reps_le X (j + 1) n
    have hs := reps_succ X j h
    show (reps X n ++ _)[_]? = _
    rcases (show j < n ∨ j = n by omega) with h1 | rfl
    · rw [List.getElem?_append_left (by have := hlen (by omega); omega)]
      exact reps_get X j h n h1
    · have : (X j).rp.isNone = false := by cases hh : (X j).rp with | none => exact absurd hh h | some a => rfl
      rw [this, List.getElem?_append_right (Nat.le_refl _)]
      simp

set_option maxRecDepth 100000 in
set_option maxHeartbeats 8000000 in
theorem match_any (v : Value) (F : List ZF) (z : ZF) (g : Nat → ByteArray) (ao0 : Option Addr) (n cap0 : Nat) (X : Nat → ZW) (w : World) (hr : RecsAt w v F) (hl : Likes w F ((z, g) :: reps X n)) (hz : StrsAt 0 w z.ha z.hl z.hc g) (hzl : z.hl ≤ 65536)
    (hw : WritesAt w ao0 n cap0 X) (hn : n ≤ 65537) (hx : ∀ i, i < n → Few (X i)) :
    Calls Try.prog 18 #[v, fileVal z z.ha z.hc, .slice ao0 n cap0] w fun e w' => e = .returned (.bool true) ∧ Below w.heap.size w w' := by
  obtain ⟨capr, b, rfl, hcapr, hfr⟩ := hr
  obtain ⟨hnil, hcap, bl, offl, hao, hc, hs⟩ := hw
  have HA : Hid (0 < n → ao0 = some ⟨bl, offl, none⟩) := hao
  have HC : Hid (∀ i, i < n → WriteAt w bl (offl + i * 3) (X i)) := hc
  have HS : Hid (∀ i, i < n → RepAt w (X i)) := hs
  have HX : Hid (∀ i, i < n → Few (X i)) := hx
  have HFR : Hid (∀ k z, F[k]? = some z → FileAt w b (k * 11) z) := hfr
  have HL : Hid (Likes w F ((z, g) :: reps X n)) := hl
  have HZ : Hid (StrsAt 0 w z.ha z.hl z.hc g) := hz
  obtain ⟨M, hM⟩ : ∃ M, F.length = M + 1 := ⟨(reps X n).length, hl.length⟩
  rw [hM] at hcapr ⊢
  have HLEN : Hid (M = (reps X n).length) := Nat.succ.inj (hM.symm.trans hl.length)
  clear hM
  clear hao hc hs hx hfr hl hz hnil
  obtain ⟨zf, hz0, ao, cap, rfl, hsf, hnf⟩ := HL.out.get 0 (z, g) rfl
  have HP0 : Hid (FileAt w b 0 { z with ha := ao, hc := cap }) := by have := HFR.out 0 _ hz0; rw [Nat.zero_mul] at this; exact this
  have HSF : Hid (StrsAt 0 w ao z.hl cap g) := hsf
  have HNF : Hid (ao = none ↔ z.ha = none) := hnf
  clear hsf hnf hz0
  have hg1 : decide ((M : Int) + 1 < 1) = false := by simp; omega
  have hbl : b < w.heap.size := World.block_lt_of_cell? w _ HP0.out.1
  go_enter Try.func18, Try.ntmps18
  go_wp2_with fail
  have HP : Hid (FileAt ((w.alloc (.cells #[.string z.nm, .int .i64 z.sz, .string z.sha, .string z.md, .int .i64 z.rep, .slice z.ha z.hl z.hc, .int .i64 z.ver, .int .i64 z.ep, .int .i64 z.rem, .bool z.ptr, .bool z.dam] 47)).drew) b 0 { z with ha := ao, hc := cap } ∧ FileAt ((w.alloc (.cells #[.string z.nm, .int .i64 z.sz, .string z.sha, .string z.md, .int .i64 z.rep, .slice z.ha z.hl z.hc, .int .i64 z.ver, .int .i64 z.ep, .int .i64 z.rem, .bool z.ptr, .bool z.dam] 47)).drew) w.heap.size 0 z) :=
    ⟨HP0.out.over (((Below.refl w.heap.size w).alloc (Nat.le_refl _) _).drew) (Nat.le_refl _), (file_new w z 47).over (Below.drew (Below.refl _ _)) (Nat.le_refl _)⟩
  have HB : Hid (Below w.heap.size w ((w.alloc (.cells #[.string z.nm, .int .i64 z.sz, .string z.sha, .string z.md, .int .i64 z.rep, .slice z.ha z.hl z.hc, .int .i64 z.ver, .int .i64 z.ep, .int .i64 z.rem, .bool z.ptr, .bool z.dam] 47)).drew)) := ((Below.refl w.heap.size w).alloc (Nat.le_refl _) _).drew
  generalize (w.alloc (.cells #[.string z.nm, .int .i64 z.sz, .string z.sha, .string z.md, .int .i64 z.rep, .slice z.ha z.hl z.hc, .int .i64 z.ver, .int .i64 z.ep, .int .i64 z.rem, .bool z.ptr, .bool z.dam] 47)) = W at HP HB ⊢
  go_region_held3 (fun w' => w'.cell? ⟨b, 0, none⟩ = some (.string z.nm) ∧ w'.cell? ⟨b, 0 + 1, none⟩ = some (.int .i64 z.sz) ∧ w'.cell? ⟨b, 0 + 2, none⟩ = some (.string z.sha) ∧ w'.cell? ⟨b, 0 + 3, none⟩ = some (.string z.md) ∧ w'.cell? ⟨b, 0 + 4, none⟩ = some (.int .i64 z.rep) ∧ w'.cell? ⟨b, 0 + 5, none⟩ = some (.slice ao z.hl cap) ∧ w'.cell? ⟨b, 0 + 6, none⟩ = some (.int .i64 z.ver) ∧ w'.cell? ⟨b, 0 + 7, none⟩ = some (.int .i64 z.ep) ∧ w'.cell? ⟨b, 0 + 8, none⟩ = some (.int .i64 z.rem) ∧ w'.cell? ⟨b, 0 + 9, none⟩ = some (.bool z.ptr) ∧ w'.cell? ⟨b, 0 + 10, none⟩ = some (.bool z.dam) ∧ w'.cell? ⟨w.heap.size, 0, none⟩ = some (.string z.nm) ∧ w'.cell? ⟨w.heap.size, 0 + 1, none⟩ = some (.int .i64 z.sz) ∧ w'.cell? ⟨w.heap.size, 0 + 2, none⟩ = some (.string z.sha) ∧ w'.cell? ⟨w.heap.size, 0 + 3, none⟩ = some (.string z.md) ∧ w'.cell? ⟨w.heap.size, 0 + 4, none⟩ = some (.int .i64 z.rep) ∧ w'.cell? ⟨w.heap.size, 0 + 5, none⟩ = some (.slice z.ha z.hl z.hc) ∧ w'.cell? ⟨w.heap.size, 0 + 6, none⟩ = some (.int .i64 z.ver) ∧ w'.cell? ⟨w.heap.size, 0 + 7, none⟩ = some (.int .i64 z.ep) ∧ w'.cell? ⟨w.heap.size, 0 + 8, none⟩ = some (.int .i64 z.rem) ∧ w'.cell? ⟨w.heap.size, 0 + 9, none⟩ = some (.bool z.ptr) ∧ w'.cell? ⟨w.heap.size, 0 + 10, none⟩ = some (.bool z.dam))
    (first | exact two_flat HP.out | exact two_flat (two_over hb1 HP.out))
    (first | (go_at_call 20; refine (sameFile_any z ao cap g _ (HSF.out.over HB.out (Nat.le_refl _)) (HZ.out.over HB.out (Nat.le_refl _)) HNF.out hzl).mono ?_; rintro e w1 ⟨rfl, hb1⟩))
  have HB1 : Hid (Below w.heap.size w w1) := HB.out.trans (hb1.mono HB.out.size)
  clear hb1 HP HB HP0 HSF HNF HZ
  go_wp2
  go_loopw [7, 8] (fun k j wr => ∃ jj : Nat, jj ≤ n ∧ j = .int .i64 jj ∧ k = .int .i64 (((reps X jj).length + 1 : Nat) : Int) ∧ Hid (Below w.heap.size w wr)) (fun _ j _ => n - (intOf j).toNat)
  case atStart => exact ⟨0, Nat.zero_le _, rfl, rfl, HB1⟩
  case round =>
    clear HB1
    obtain ⟨j, hj, rfl, rfl, hB⟩ := hrel
    obtain ⟨kk, hkk⟩ : ∃ kk, kk = (reps X j).length + 1 := ⟨_, rfl⟩
    rw [← hkk]
    have HKK : Hid (kk = (reps X j).length + 1) := hkk
    clear hkk
    by_cases hlt : j < n
    · cases HA.out (Nat.lt_of_le_of_lt (Nat.zero_le _) hlt)
      have hlt' : (j : Int) < (n : Int) := by omega
      obtain ⟨_, _, c2⟩ := (HC.out j hlt).over hB.out (Nat.le_refl _)
      rcases HS.out j hlt with hno | ⟨b4, o4, hyes, hf4, hst4⟩
      · rw [hno] at c2
        go_wp2
        go_roundw
        case rel => exact ⟨j + 1, hlt, step_num j, by rw [reps_skip X j hno, HKK.out], hB⟩
        case measure => exact step_down n j hlt
      · rw [hyes] at c2
        have hrp : (X j).rp ≠ none := by rw [hyes]; simp
        have HRP : Hid ((X j).rp ≠ none) := hrp
        have hfew : (X j).z.hl ≤ 65536 := by rcases HX.out j hlt with h | h; (rw [hyes] at h; cases h); exact h
        have hkM : kk < M + 1 := by
          have h1 := reps_le X (j + 1) n hlt
          have h2 := reps_succ X j hrp
          rw [HLEN.out, HKK.out]; omega
        obtain ⟨zf, hzk, ao5, cap5, rfl, hsf, hnf⟩ := HL.out.get kk ((X j).z, (X j).g) (by rw [HKK.out, List.getElem?_cons_succ]; exact reps_get X j hrp n hlt)
        have HP : Hid (FileAt wr.drew b (kk * 11) { (X j).z with ha := ao5, hc := cap5 } ∧ FileAt wr.drew b4 o4 (X j).z) := ⟨(HFR.out kk _ hzk).over hB.out.drew (Nat.le_refl _), hf4.over hB.out.drew (Nat.le_refl _)⟩
        have HCC : Hid (wr.drew.cell? ⟨bl, offl + j * 3 + 2, none⟩ = some (.pointer (some ⟨b4, o4, none⟩))) := c2
        have HSF : Hid (StrsAt 0 wr.drew ao5 (X j).z.hl cap5 (X j).g) := hsf.over hB.out.drew (Nat.le_refl _)
        have HST : Hid (StrsAt 0 wr.drew (X j).z.ha (X j).z.hl (X j).z.hc (X j).g) := hst4.over hB.out.drew (Nat.le_refl _)
        have HNF : Hid (ao5 = none ↔ (X j).z.ha = none) := hnf
        have hg4 : decide ((M : Int) + 1 ≤ (kk : Int)) = false := by simp; omega
        have hkb : kk ≤ 65538 := by have h1 := reps_bound X j; have h2 := HKK.out; omega
        have hg5 : (kk : Int) < (M : Int) + 1 := by omega
        clear hsf hnf hzk hst4 hf4 hrp
        go_wp2_with fail
        go_region_held3 (fun w' => w'.cell? ⟨bl, offl + j * 3 + 2, none⟩ = some (.pointer (some ⟨b4, o4, none⟩)) ∧ w'.cell? ⟨b, kk * 11, none⟩ = some (.string (X j).z.nm) ∧ w'.cell? ⟨b, kk * 11 + 1, none⟩ = some (.int .i64 (X j).z.sz) ∧ w'.cell? ⟨b, kk * 11 + 2, none⟩ = some (.string (X j).z.sha) ∧ w'.cell? ⟨b, kk * 11 + 3, none⟩ = some (.string (X j).z.md) ∧ w'.cell? ⟨b, kk * 11 + 4, none⟩ = some (.int .i64 (X j).z.rep) ∧ w'.cell? ⟨b, kk * 11 + 5, none⟩ = some (.slice ao5 (X j).z.hl cap5) ∧ w'.cell? ⟨b, kk * 11 + 6, none⟩ = some (.int .i64 (X j).z.ver) ∧ w'.cell? ⟨b, kk * 11 + 7, none⟩ = some (.int .i64 (X j).z.ep) ∧ w'.cell? ⟨b, kk * 11 + 8, none⟩ = some (.int .i64 (X j).z.rem) ∧ w'.cell? ⟨b, kk * 11 + 9, none⟩ = some (.bool (X j).z.ptr) ∧ w'.cell? ⟨b, kk * 11 + 10, none⟩ = some (.bool (X j).z.dam) ∧ w'.cell? ⟨b4, o4, none⟩ = some (.string (X j).z.nm) ∧ w'.cell? ⟨b4, o4 + 1, none⟩ = some (.int .i64 (X j).z.sz) ∧ w'.cell? ⟨b4, o4 + 2, none⟩ = some (.string (X j).z.sha) ∧ w'.cell? ⟨b4, o4 + 3, none⟩ = some (.string (X j).z.md) ∧ w'.cell? ⟨b4, o4 + 4, none⟩ = some (.int .i64 (X j).z.rep) ∧ w'.cell? ⟨b4, o4 + 5, none⟩ = some (.slice (X j).z.ha (X j).z.hl (X j).z.hc) ∧ w'.cell? ⟨b4, o4 + 6, none⟩ = some (.int .i64 (X j).z.ver) ∧ w'.cell? ⟨b4, o4 + 7, none⟩ = some (.int .i64 (X j).z.ep) ∧ w'.cell? ⟨b4, o4 + 8, none⟩ = some (.int .i64 (X j).z.rem) ∧ w'.cell? ⟨b4, o4 + 9, none⟩ = some (.bool (X j).z.ptr) ∧ w'.cell? ⟨b4, o4 + 10, none⟩ = some (.bool (X j).z.dam))
          (first | exact ⟨HCC.out, two_flat HP.out⟩ | exact ⟨cell_over hb1 (Nat.le_refl _) HCC.out, two_flat (two_over hb1 HP.out)⟩)
          (first | (go_at_call 20; refine (sameFile_any (X j).z ao5 cap5 (X j).g _ HSF.out HST.out HNF.out hfew).mono ?_; rintro e w2 ⟨rfl, hb1⟩))
        have HB2 : Hid (Below w.heap.size w w2) := hB.out.drew.trans (hb1.mono hB.out.size)
        clear hb1 HP HCC HSF HST HNF
        go_wp2
        go_roundw
        case rel => exact ⟨j + 1, hlt, step_num j, congrArg (Value.int .i64) (by have h1 := reps_succ X j HRP.out; have h2 := HKK.out; omega), HB2⟩
        case measure => exact step_down n j hlt
    · obtain rfl : j = n := by omega
      obtain rfl : kk = M + 1 := by rw [HKK.out, HLEN.out]
      go_wp2
      go_ret
      exact ⟨rfl, hB.out⟩

end Go.Proofs.Qxb6612566a.st
