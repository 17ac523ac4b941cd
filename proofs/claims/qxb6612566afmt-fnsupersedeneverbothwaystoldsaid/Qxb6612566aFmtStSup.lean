/-
  ZZnewStore, supersede, ZZsupersede.
-/
import Derived.Test.Qxb6612566aFmtStErr
namespace Go.Proofs.Qxb6612566aFmt.st
open Go.RowKit Go.Maps Go.Extern.Stop Go.Stop Go.Extern
attribute [local go_sem ↓] Go.wp_at_zero Go.wp_at_succ

theorem newStore_any (m : Nat) (w : World) : Calls Tryf.prog 7 #[.map (some m), .map none, .map none] w fun e w' => e = .returned (.pointer (some ⟨w.heap.size, 0, none⟩)) ∧ Below w.heap.size w w' ∧ w'.cell? ⟨w.heap.size, 4, none⟩ = some (.map (some m)) := by
  go_enter Tryf.func7, Tryf.ntmps7
  go_wp2
  go_ret
  exact ⟨rfl, (Below.refl _ _).alloc (Nat.le_refl _) _, by rw [World.cell?_alloc_new]; rfl⟩

/-- The zero file. -/
abbrev zero40 : Value := .agg #[.string ByteArray.empty, .int .i64 0, .string ByteArray.empty, .string ByteArray.empty, .int .i64 0, .slice none 0 0, .int .i64 0, .int .i64 0, .int .i64 0, .bool false, .bool false]
theorem zero40_run (w : World) : (zeroValue 40).run Tryf.prog w = .ok zero40 w := by kernel_rfl

/-- The look-up, in every world that has left the map's block as it was. -/
theorem look_at {w : World} {m n : Nat} {D : DataW Value} (h : w.ownsMap Tryf.prog 9 heldR m n D) (s : ByteArray) (hs : s.size ≤ maxLen) (v : Value) (hv : ∀ z, D.atKey (keyS s) z = .held v ∨ (D.atKey (keyS s) z = z ∧ v = zero40)) :
    ∀ w', w'.heap[m]? = w.heap[m]? → (Instr.lookup 32 (.map (some m)) (.string s) true).run Tryf.prog w' = .ok (.tuple #[v, .bool (Maps.has D (keyS s))]) w' := by
  intro w' hw
  have h' : w'.ownsMap Tryf.prog 9 heldR m n D := by
    obtain ⟨es, clock, hb, r⟩ := h
    exact ⟨es, clock, hw.trans hb, r⟩
  obtain ⟨v', ps, hrun, hR⟩ := h'.look_ok law9 Tryf.underlying32 (zero40_run w') (show heldR zero40 = some (.held zero40, []) from rfl) (WideMaps.keyOf_string_mk Tryf.underlying9 hs)
  have e : v' = v := by
    have e1 : DataW.held v' = D.atKey (keyS s) (.held zero40) := by
      have := hR
      unfold heldR at this
      simp only [Option.some.injEq, Prod.mk.injEq] at this
      exact this.1
    rcases hv (.held zero40) with h1 | ⟨h1, h2⟩
    · rw [h1] at e1; cases e1; rfl
    · rw [h1] at e1; cases e1; exact h2.symm
  rw [← e]; exact hrun

theorem below2 (w : World) (o1 o2 : Obj) : Below w.heap.size w ((w.alloc o1).alloc o2) := ((Below.refl w.heap.size w).alloc (Nat.le_refl _) o1).alloc (by simp) o2

theorem heap_al {w X : World} {m : Nat} {o : Obj} (h : X.heap[m]? = w.heap[m]?) (hlt : m < X.heap.size) : (X.alloc o).heap[m]? = w.heap[m]? := (Below.heap_alloc _ _ _ hlt).trans h

set_option maxRecDepth 100000 in
set_option maxHeartbeats 4000000 in
theorem sup_none (p m : Nat) (z : ZF) (ao : Option Addr) (cap : Nat) (w : World) (hp : w.cell? ⟨p, 4, none⟩ = some (.map (some m))) (hm : m < w.heap.size)
    (hlook : ∀ w', w'.heap[m]? = w.heap[m]? → (Instr.lookup 32 (.map (some m)) (.string z.nm) true).run Tryf.prog w' = .ok (.tuple #[zero40, .bool false]) w') :
    Calls Tryf.prog 13 #[.pointer (some ⟨p, 0, none⟩), fileVal z ao cap] w fun e w' => e = .returned .nilIface ∧ Below w.heap.size w w' := by
  have HL : Hid (∀ w', w'.heap[m]? = w.heap[m]? → (Instr.lookup 32 (.map (some m)) (.string z.nm) true).run Tryf.prog w' = .ok (.tuple #[zero40, .bool false]) w') := hlook
  have HM : Hid (m < w.heap.size) := hm
  have hpl : p < w.heap.size := World.block_lt_of_cell? w _ hp
  clear hlook hm
  obtain ⟨nm, sz, sha, md, rep, ha, hl, hcp, ver, ep, rem, ptr, dam⟩ := z
  simp only at HL ⊢
  go_enter Tryf.func13, Tryf.ntmps13
  go_wp2
  go_region_held3 (fun w' => w'.cell? ⟨p, 4, none⟩ = some (.map (some m)) ∧ w'.cell? ⟨w.heap.size, 0, none⟩ = some (.string nm) ∧ (Instr.lookup 32 (.map (some m)) (.string nm) true).run Tryf.prog w' = .ok (.tuple #[zero40, .bool false]) w') (first | (go_keep; done) | (refine ⟨by go_keep, by go_keep, HL.out _ ?_⟩; first | exact heap_al rfl HM.out | exact heap_al (heap_al rfl HM.out) (by have := HM.out; simp; omega))) (fail)
  all_goals go_wp2
  all_goals go_quiet (fail)
  all_goals go_wp2
  all_goals go_ret
  all_goals exact ⟨rfl, below_drewN' (below2 w _ _).drew _⟩

theorem pair_over {w w' : World} {b1 b2 : Nat} {z zo : ZF} (hb : Below w.heap.size w w') (h : FileAt w b1 0 z ∧ FileAt w b2 0 zo) : FileAt w' b1 0 z ∧ FileAt w' b2 0 zo :=
  ⟨h.1.over hb (Nat.le_refl _), h.2.over hb (Nat.le_refl _)⟩

theorem pair_flat {w : World} {b1 b2 : Nat} {z zo : ZF} (h : FileAt w b1 0 z ∧ FileAt w b2 0 zo) : w.cell? ⟨b1, 0, none⟩ = some (.string z.nm) ∧ w.cell? ⟨b1, 1, none⟩ = some (.int .i64 z.sz) ∧ w.cell? ⟨b1, 2, none⟩ = some (.string z.sha) ∧ w.cell? ⟨b1, 3, none⟩ = some (.string z.md) ∧ w.cell? ⟨b1, 4, none⟩ = some (.int .i64 z.rep) ∧ w.cell? ⟨b1, 5, none⟩ = some (.slice z.ha z.hl z.hc) ∧ w.cell? ⟨b1, 6, none⟩ = some (.int .i64 z.ver) ∧ w.cell? ⟨b1, 7, none⟩ = some (.int .i64 z.ep) ∧ w.cell? ⟨b1, 8, none⟩ = some (.int .i64 z.rem) ∧ w.cell? ⟨b1, 9, none⟩ = some (.bool z.ptr) ∧ w.cell? ⟨b1, 10, none⟩ = some (.bool z.dam) ∧ w.cell? ⟨b2, 0, none⟩ = some (.string zo.nm) ∧ w.cell? ⟨b2, 1, none⟩ = some (.int .i64 zo.sz) ∧ w.cell? ⟨b2, 2, none⟩ = some (.string zo.sha) ∧ w.cell? ⟨b2, 3, none⟩ = some (.string zo.md) ∧ w.cell? ⟨b2, 4, none⟩ = some (.int .i64 zo.rep) ∧ w.cell? ⟨b2, 5, none⟩ = some (.slice zo.ha zo.hl zo.hc) ∧ w.cell? ⟨b2, 6, none⟩ = some (.int .i64 zo.ver) ∧ w.cell? ⟨b2, 7, none⟩ = some (.int .i64 zo.ep) ∧ w.cell? ⟨b2, 8, none⟩ = some (.int .i64 zo.rem) ∧ w.cell? ⟨b2, 9, none⟩ = some (.bool zo.ptr) ∧ w.cell? ⟨b2, 10, none⟩ = some (.bool zo.dam) := by
  obtain ⟨⟨h0, h1, h2, h3, h4, h5, h6, h7, h8, h9, h10⟩, ⟨k0, k1, k2, k3, k4, k5, k6, k7, k8, k9, k10⟩⟩ := h
  exact ⟨h0, h1, h2, h3, h4, h5, h6, h7, h8, h9, h10, k0, k1, k2, k3, k4, k5, k6, k7, k8, k9, k10⟩
theorem pair_deep {w : World} {b1 b2 : Nat} {z zo : ZF} (h : w.cell? ⟨b1, 0, none⟩ = some (.string z.nm) ∧ w.cell? ⟨b1, 1, none⟩ = some (.int .i64 z.sz) ∧ w.cell? ⟨b1, 2, none⟩ = some (.string z.sha) ∧ w.cell? ⟨b1, 3, none⟩ = some (.string z.md) ∧ w.cell? ⟨b1, 4, none⟩ = some (.int .i64 z.rep) ∧ w.cell? ⟨b1, 5, none⟩ = some (.slice z.ha z.hl z.hc) ∧ w.cell? ⟨b1, 6, none⟩ = some (.int .i64 z.ver) ∧ w.cell? ⟨b1, 7, none⟩ = some (.int .i64 z.ep) ∧ w.cell? ⟨b1, 8, none⟩ = some (.int .i64 z.rem) ∧ w.cell? ⟨b1, 9, none⟩ = some (.bool z.ptr) ∧ w.cell? ⟨b1, 10, none⟩ = some (.bool z.dam) ∧ w.cell? ⟨b2, 0, none⟩ = some (.string zo.nm) ∧ w.cell? ⟨b2, 1, none⟩ = some (.int .i64 zo.sz) ∧ w.cell? ⟨b2, 2, none⟩ = some (.string zo.sha) ∧ w.cell? ⟨b2, 3, none⟩ = some (.string zo.md) ∧ w.cell? ⟨b2, 4, none⟩ = some (.int .i64 zo.rep) ∧ w.cell? ⟨b2, 5, none⟩ = some (.slice zo.ha zo.hl zo.hc) ∧ w.cell? ⟨b2, 6, none⟩ = some (.int .i64 zo.ver) ∧ w.cell? ⟨b2, 7, none⟩ = some (.int .i64 zo.ep) ∧ w.cell? ⟨b2, 8, none⟩ = some (.int .i64 zo.rem) ∧ w.cell? ⟨b2, 9, none⟩ = some (.bool zo.ptr) ∧ w.cell? ⟨b2, 10, none⟩ = some (.bool zo.dam)) : FileAt w b1 0 z ∧ FileAt w b2 0 zo := by
  obtain ⟨h0, h1, h2, h3, h4, h5, h6, h7, h8, h9, h10, k0, k1, k2, k3, k4, k5, k6, k7, k8, k9, k10⟩ := h
  exact ⟨⟨h0, h1, h2, h3, h4, h5, h6, h7, h8, h9, h10⟩, ⟨k0, k1, k2, k3, k4, k5, k6, k7, k8, k9, k10⟩⟩

theorem pair_start (w : World) (z zo : ZF) : FileAt (((w.alloc (.cells #[.string z.nm, .int .i64 z.sz, .string z.sha, .string z.md, .int .i64 z.rep, .slice z.ha z.hl z.hc, .int .i64 z.ver, .int .i64 z.ep, .int .i64 z.rem, .bool z.ptr, .bool z.dam] 40)).alloc (.cells #[.string zo.nm, .int .i64 zo.sz, .string zo.sha, .string zo.md, .int .i64 zo.rep, .slice zo.ha zo.hl zo.hc, .int .i64 zo.ver, .int .i64 zo.ep, .int .i64 zo.rem, .bool zo.ptr, .bool zo.dam] 40)).drew) w.heap.size 0 z ∧ FileAt (((w.alloc (.cells #[.string z.nm, .int .i64 z.sz, .string z.sha, .string z.md, .int .i64 z.rep, .slice z.ha z.hl z.hc, .int .i64 z.ver, .int .i64 z.ep, .int .i64 z.rem, .bool z.ptr, .bool z.dam] 40)).alloc (.cells #[.string zo.nm, .int .i64 zo.sz, .string zo.sha, .string zo.md, .int .i64 zo.rep, .slice zo.ha zo.hl zo.hc, .int .i64 zo.ver, .int .i64 zo.ep, .int .i64 zo.rem, .bool zo.ptr, .bool zo.dam] 40)).drew) (w.heap.size + 1) 0 zo := by
  have h1 : (((w.alloc (.cells #[.string z.nm, .int .i64 z.sz, .string z.sha, .string z.md, .int .i64 z.rep, .slice z.ha z.hl z.hc, .int .i64 z.ver, .int .i64 z.ep, .int .i64 z.rem, .bool z.ptr, .bool z.dam] 40)).alloc (.cells #[.string zo.nm, .int .i64 zo.sz, .string zo.sha, .string zo.md, .int .i64 zo.rep, .slice zo.ha zo.hl zo.hc, .int .i64 zo.ver, .int .i64 zo.ep, .int .i64 zo.rem, .bool zo.ptr, .bool zo.dam] 40)).drew).heap[w.heap.size]? = some (.cells #[.string z.nm, .int .i64 z.sz, .string z.sha, .string z.md, .int .i64 z.rep, .slice z.ha z.hl z.hc, .int .i64 z.ver, .int .i64 z.ep, .int .i64 z.rem, .bool z.ptr, .bool z.dam] 40 (0, 0)) := by
    show ((w.alloc _).alloc _).heap[w.heap.size]? = _
    rw [Below.heap_alloc _ _ _ (by simp)]; exact heap_alloc_new w _
  have h2 : (((w.alloc (.cells #[.string z.nm, .int .i64 z.sz, .string z.sha, .string z.md, .int .i64 z.rep, .slice z.ha z.hl z.hc, .int .i64 z.ver, .int .i64 z.ep, .int .i64 z.rem, .bool z.ptr, .bool z.dam] 40)).alloc (.cells #[.string zo.nm, .int .i64 zo.sz, .string zo.sha, .string zo.md, .int .i64 zo.rep, .slice zo.ha zo.hl zo.hc, .int .i64 zo.ver, .int .i64 zo.ep, .int .i64 zo.rem, .bool zo.ptr, .bool zo.dam] 40)).drew).heap[w.heap.size + 1]? = some (.cells #[.string zo.nm, .int .i64 zo.sz, .string zo.sha, .string zo.md, .int .i64 zo.rep, .slice zo.ha zo.hl zo.hc, .int .i64 zo.ver, .int .i64 zo.ep, .int .i64 zo.rem, .bool zo.ptr, .bool zo.dam] 40 (0, 0)) := by
    have h := heap_alloc_new (w.alloc (.cells #[.string z.nm, .int .i64 z.sz, .string z.sha, .string z.md, .int .i64 z.rep, .slice z.ha z.hl z.hc, .int .i64 z.ver, .int .i64 z.ep, .int .i64 z.rem, .bool z.ptr, .bool z.dam] 40)) (.cells #[.string zo.nm, .int .i64 zo.sz, .string zo.sha, .string zo.md, .int .i64 zo.rep, .slice zo.ha zo.hl zo.hc, .int .i64 zo.ver, .int .i64 zo.ep, .int .i64 zo.rem, .bool zo.ptr, .bool zo.dam] 40)
    show ((w.alloc _).alloc _).heap[w.heap.size + 1]? = _
    simpa using h
  have c1 : ∀ j, (((w.alloc (.cells #[.string z.nm, .int .i64 z.sz, .string z.sha, .string z.md, .int .i64 z.rep, .slice z.ha z.hl z.hc, .int .i64 z.ver, .int .i64 z.ep, .int .i64 z.rem, .bool z.ptr, .bool z.dam] 40)).alloc (.cells #[.string zo.nm, .int .i64 zo.sz, .string zo.sha, .string zo.md, .int .i64 zo.rep, .slice zo.ha zo.hl zo.hc, .int .i64 zo.ver, .int .i64 zo.ep, .int .i64 zo.rem, .bool zo.ptr, .bool zo.dam] 40)).drew).cell? ⟨w.heap.size, j, none⟩ = (#[.string z.nm, .int .i64 z.sz, .string z.sha, .string z.md, .int .i64 z.rep, .slice z.ha z.hl z.hc, .int .i64 z.ver, .int .i64 z.ep, .int .i64 z.rem, .bool z.ptr, .bool z.dam] : Array Value)[j]? := fun j => cell_of_row _ _ j _ _ _ h1
  have c2 : ∀ j, (((w.alloc (.cells #[.string z.nm, .int .i64 z.sz, .string z.sha, .string z.md, .int .i64 z.rep, .slice z.ha z.hl z.hc, .int .i64 z.ver, .int .i64 z.ep, .int .i64 z.rem, .bool z.ptr, .bool z.dam] 40)).alloc (.cells #[.string zo.nm, .int .i64 zo.sz, .string zo.sha, .string zo.md, .int .i64 zo.rep, .slice zo.ha zo.hl zo.hc, .int .i64 zo.ver, .int .i64 zo.ep, .int .i64 zo.rem, .bool zo.ptr, .bool zo.dam] 40)).drew).cell? ⟨w.heap.size + 1, j, none⟩ = (#[.string zo.nm, .int .i64 zo.sz, .string zo.sha, .string zo.md, .int .i64 zo.rep, .slice zo.ha zo.hl zo.hc, .int .i64 zo.ver, .int .i64 zo.ep, .int .i64 zo.rem, .bool zo.ptr, .bool zo.dam] : Array Value)[j]? := fun j => cell_of_row _ _ j _ _ _ h2
  exact ⟨⟨c1 0, c1 1, c1 2, c1 3, c1 4, c1 5, c1 6, c1 7, c1 8, c1 9, c1 10⟩, ⟨c2 0, c2 1, c2 2, c2 3, c2 4, c2 5, c2 6, c2 7, c2 8, c2 9, c2 10⟩⟩

theorem below_three {w W w1 w2 w3 : World} (h : Below w.heap.size w W) (h1 : Below W.drew.heap.size W.drew w1) (h2 : Below w1.heap.size w1 w2) (h3 : Below w2.heap.size w2 w3) : Below w.heap.size w w3 := by
  have s0 : w.heap.size ≤ W.heap.size := h.size
  have s1 : W.heap.size ≤ w1.heap.size := h1.size
  have s2 := h2.size
  exact ((h.drew.trans (h1.mono s0)).trans (h2.mono (by omega))).trans (h3.mono (by omega))

/-- How 'supersede' ends: an error just where the file is the older. -/
def SupEnd (old : Bool) (e : Ending) : Prop := (old = true ∧ ∃ x, e = .returned (.iface 75 x)) ∨ (old = false ∧ e = .returned .nilIface)

set_option maxRecDepth 100000 in
set_option maxHeartbeats 8000000 in
theorem sup_some (F : Interp) (p m : Nat) (z zo : ZF) (a : Addr) (s : ByteArray) (w : World) (hF : F.answers w.tape) (hg : w.cell? ⟨0, 0, none⟩ = some (.iface 76 (.pointer (some a)))) (hs : w.cell? a = some (.string s))
    (hp : w.cell? ⟨p, 4, none⟩ = some (.map (some m))) (hm : m < w.heap.size)
    (hlook : ∀ w', w'.heap[m]? = w.heap[m]? → (Instr.lookup 32 (.map (some m)) (.string z.nm) true).run Tryf.prog w' = .ok (.tuple #[fileVal zo zo.ha zo.hc, .bool true]) w') :
    Calls Tryf.prog 13 #[.pointer (some ⟨p, 0, none⟩), fileVal z z.ha z.hc] w fun e w' => SupEnd (olderB z.ver z.ep zo.ver zo.ep) e ∧ Below w.heap.size w w' := by
  have HL : Hid (∀ w', w'.heap[m]? = w.heap[m]? → (Instr.lookup 32 (.map (some m)) (.string z.nm) true).run Tryf.prog w' = .ok (.tuple #[fileVal zo zo.ha zo.hc, .bool true]) w') := hlook
  have HM : Hid (m < w.heap.size) := hm
  have hpl : p < w.heap.size := World.block_lt_of_cell? w _ hp
  have HG : Hid (w.cell? ⟨0, 0, none⟩ = some (.iface 76 (.pointer (some a)))) := hg
  have HT : Hid (w.cell? a = some (.string s)) := hs
  have HF : Hid (F.answers w.tape) := hF
  clear hlook hm hg hs hF
  go_enter Tryf.func13, Tryf.ntmps13
  go_wp2
  go_region_held3 (fun w' => w'.cell? ⟨p, 4, none⟩ = some (.map (some m)) ∧ w'.cell? ⟨w.heap.size, 0, none⟩ = some (.string z.nm) ∧ (Instr.lookup 32 (.map (some m)) (.string z.nm) true).run Tryf.prog w' = .ok (.tuple #[fileVal zo zo.ha zo.hc, .bool true]) w') (first | (go_keep; done) | (refine ⟨by go_keep, by go_keep, HL.out _ ?_⟩; first | exact heap_al rfl HM.out | exact heap_al (heap_al rfl HM.out) (by have := HM.out; simp; omega))) (fail)
  all_goals go_wp2
  all_goals (
    have HP : Hid (FileAt (((w.alloc (.cells #[.string z.nm, .int .i64 z.sz, .string z.sha, .string z.md, .int .i64 z.rep, .slice z.ha z.hl z.hc, .int .i64 z.ver, .int .i64 z.ep, .int .i64 z.rem, .bool z.ptr, .bool z.dam] 40)).alloc (.cells #[.string zo.nm, .int .i64 zo.sz, .string zo.sha, .string zo.md, .int .i64 zo.rep, .slice zo.ha zo.hl zo.hc, .int .i64 zo.ver, .int .i64 zo.ep, .int .i64 zo.rem, .bool zo.ptr, .bool zo.dam] 40)).drew) w.heap.size 0 z ∧ FileAt (((w.alloc (.cells #[.string z.nm, .int .i64 z.sz, .string z.sha, .string z.md, .int .i64 z.rep, .slice z.ha z.hl z.hc, .int .i64 z.ver, .int .i64 z.ep, .int .i64 z.rem, .bool z.ptr, .bool z.dam] 40)).alloc (.cells #[.string zo.nm, .int .i64 zo.sz, .string zo.sha, .string zo.md, .int .i64 zo.rep, .slice zo.ha zo.hl zo.hc, .int .i64 zo.ver, .int .i64 zo.ep, .int .i64 zo.rem, .bool zo.ptr, .bool zo.dam] 40)).drew) (w.heap.size + 1) 0 zo) := pair_start w z zo
    have HB : Hid (Below w.heap.size w (((w.alloc (.cells #[.string z.nm, .int .i64 z.sz, .string z.sha, .string z.md, .int .i64 z.rep, .slice z.ha z.hl z.hc, .int .i64 z.ver, .int .i64 z.ep, .int .i64 z.rem, .bool z.ptr, .bool z.dam] 40)).alloc (.cells #[.string zo.nm, .int .i64 zo.sz, .string zo.sha, .string zo.md, .int .i64 zo.rep, .slice zo.ha zo.hl zo.hc, .int .i64 zo.ver, .int .i64 zo.ep, .int .i64 zo.rem, .bool zo.ptr, .bool zo.dam] 40)).drew)) := (below2 w _ _).drew
    generalize (((w.alloc (.cells #[.string z.nm, .int .i64 z.sz, .string z.sha, .string z.md, .int .i64 z.rep, .slice z.ha z.hl z.hc, .int .i64 z.ver, .int .i64 z.ep, .int .i64 z.rem, .bool z.ptr, .bool z.dam] 40)).alloc (.cells #[.string zo.nm, .int .i64 zo.sz, .string zo.sha, .string zo.md, .int .i64 zo.rep, .slice zo.ha zo.hl zo.hc, .int .i64 zo.ver, .int .i64 zo.ep, .int .i64 zo.rem, .bool zo.ptr, .bool zo.dam] 40)).drew) = W at HP HB ⊢
    go_region_held3 (fun w' => w'.cell? ⟨w.heap.size, 0, none⟩ = some (.string z.nm) ∧ w'.cell? ⟨w.heap.size, 1, none⟩ = some (.int .i64 z.sz) ∧ w'.cell? ⟨w.heap.size, 2, none⟩ = some (.string z.sha) ∧ w'.cell? ⟨w.heap.size, 3, none⟩ = some (.string z.md) ∧ w'.cell? ⟨w.heap.size, 4, none⟩ = some (.int .i64 z.rep) ∧ w'.cell? ⟨w.heap.size, 5, none⟩ = some (.slice z.ha z.hl z.hc) ∧ w'.cell? ⟨w.heap.size, 6, none⟩ = some (.int .i64 z.ver) ∧ w'.cell? ⟨w.heap.size, 7, none⟩ = some (.int .i64 z.ep) ∧ w'.cell? ⟨w.heap.size, 8, none⟩ = some (.int .i64 z.rem) ∧ w'.cell? ⟨w.heap.size, 9, none⟩ = some (.bool z.ptr) ∧ w'.cell? ⟨w.heap.size, 10, none⟩ = some (.bool z.dam) ∧ w'.cell? ⟨w.heap.size + 1, 0, none⟩ = some (.string zo.nm) ∧ w'.cell? ⟨w.heap.size + 1, 1, none⟩ = some (.int .i64 zo.sz) ∧ w'.cell? ⟨w.heap.size + 1, 2, none⟩ = some (.string zo.sha) ∧ w'.cell? ⟨w.heap.size + 1, 3, none⟩ = some (.string zo.md) ∧ w'.cell? ⟨w.heap.size + 1, 4, none⟩ = some (.int .i64 zo.rep) ∧ w'.cell? ⟨w.heap.size + 1, 5, none⟩ = some (.slice zo.ha zo.hl zo.hc) ∧ w'.cell? ⟨w.heap.size + 1, 6, none⟩ = some (.int .i64 zo.ver) ∧ w'.cell? ⟨w.heap.size + 1, 7, none⟩ = some (.int .i64 zo.ep) ∧ w'.cell? ⟨w.heap.size + 1, 8, none⟩ = some (.int .i64 zo.rem) ∧ w'.cell? ⟨w.heap.size + 1, 9, none⟩ = some (.bool zo.ptr) ∧ w'.cell? ⟨w.heap.size + 1, 10, none⟩ = some (.bool zo.dam))
      (first | exact pair_flat (pair_over (by assumption) (pair_deep (by assumption))) | exact pair_flat (pair_over (Below.drew (Below.refl _ _)) HP.out))
      (first | (go_at_call_of 15 (Value.agg #[Value.string z.nm, Value.int .i64 z.sz, Value.string z.sha, Value.string z.md, Value.int .i64 z.rep, Value.slice z.ha z.hl z.hc, Value.int .i64 z.ver, Value.int .i64 z.ep, Value.int .i64 z.rem, Value.bool z.ptr, Value.bool z.dam]); refine (stamp_any z z.ha z.hc _).mono ?_; rintro e w1 ⟨rfl, hb1⟩) | (go_at_call_of 15 (Value.agg #[Value.string zo.nm, Value.int .i64 zo.sz, Value.string zo.sha, Value.string zo.md, Value.int .i64 zo.rep, Value.slice zo.ha zo.hl zo.hc, Value.int .i64 zo.ver, Value.int .i64 zo.ep, Value.int .i64 zo.rem, Value.bool zo.ptr, Value.bool zo.dam]); refine (stamp_any zo zo.ha zo.hc _).mono ?_; rintro e w2 ⟨rfl, hb2⟩) | (go_at_call 16; refine (before_any _ _ _ _ _).mono ?_; rintro e w3 ⟨rfl, hb3⟩))
    have HP3 : Hid (FileAt w3 w.heap.size 0 z ∧ FileAt w3 (w.heap.size + 1) 0 zo) := pair_over hb3 (pair_over hb2 (pair_over hb1 (pair_over (Below.drew (Below.refl _ _)) HP.out)))
    have HB3 : Hid (Below w.heap.size w w3) := below_three HB.out hb1 hb2 hb3
    clear HP HB hb1 hb2 hb3
    cases hq : olderB z.ver z.ep zo.ver zo.ep
    · go_wp2
      go_ret
      exact ⟨by first | exact Or.inr ⟨rfl, rfl⟩ | exact Or.inr ⟨hq, rfl⟩, HB3.out⟩
    · obtain ⟨⟨k0, _, _, _, _, _, k6, k7, _⟩, ⟨_, _, _, _, _, _, l6, l7, _⟩⟩ := HP3.out
      have kg := cell_over HB3.out (Nat.le_refl _) HG.out
      go_wp2_with fail
      refine (errorf_any F w3.heap.size a s z.nm zo.ver zo.ep z.ver z.ep _ (by show F.answers w3.tape; rw [HB3.out.tape]; exact HF.out) (by rw [World.cell?_alloc_new]; rfl) (by rw [World.cell?_alloc_new]; rfl) (by rw [World.cell?_alloc_new]; rfl) (by rw [World.cell?_alloc_new]; rfl) (by rw [World.cell?_alloc_new]; rfl) (by rw [World.cell?_alloc_new]; rfl) (cell_over ((Below.refl w3.heap.size w3).alloc (Nat.le_refl _) _) (Nat.le_refl _) (cell_over HB3.out (Nat.le_refl _) HT.out))).mono ?_
      rintro e w5 ⟨⟨x, rfl⟩, hb5⟩
      have HB5 : Hid (Below w.heap.size w w5) := (HB3.out.alloc HB3.out.size _).trans (hb5.mono (by have := HB3.out.size; simp; omega))
      clear hb5
      go_wp2_with fail
      go_ret
      exact ⟨by first | exact Or.inl ⟨rfl, _, rfl⟩ | exact Or.inl ⟨hq, _, rfl⟩, HB5.out⟩)

end Go.Proofs.Qxb6612566aFmt.st
