/-
  records, ZZrecords.
-/
import Derived.Test.Qxb6612566aStUn
namespace Go.Proofs.Qxb6612566a.st
open Go.RowKit Go.Maps

/-- The records that the first n writes replaced, in their order. -/
def reps (X : Nat → ZW) : Nat → List (ZF × (Nat → ByteArray))
  | 0 => []
  | n + 1 => reps X n ++ (if (X n).rp.isNone then [] else [((X n).z, (X n).g)])

/-- zf is the file zg, its holders cloned. -/
def Like (w : World) (zf : ZF) (zg : ZF × (Nat → ByteArray)) : Prop :=
  ∃ ao cap, zf = { zg.1 with ha := ao, hc := cap } ∧ StrsAt 0 w ao zg.1.hl cap zg.2 ∧ (ao = none ↔ zg.1.ha = none)

/-- The list F of files is the list L, holders cloned. -/
def Likes (w : World) : List ZF → List (ZF × (Nat → ByteArray)) → Prop
  | [], [] => True
  | z :: F, y :: L => Like w z y ∧ Likes w F L
  | _, _ => False

theorem Likes.snoc {w : World} : ∀ {F : List ZF} {L : List (ZF × (Nat → ByteArray))} {z : ZF} {y : ZF × (Nat → ByteArray)}, Likes w F L → Like w z y → Likes w (F ++ [z]) (L ++ [y])
  | [], [], _, _, _, h => ⟨h, trivial⟩
  | [], _ :: _, _, _, h, _ => h.elim
  | _ :: _, [], _, _, h, _ => h.elim
  | _ :: _, _ :: _, _, _, h, h' => ⟨h.1, Likes.snoc h.2 h'⟩
theorem Likes.length {w : World} : ∀ {F : List ZF} {L : List (ZF × (Nat → ByteArray))}, Likes w F L → F.length = L.length
  | [], [], _ => rfl
  | [], _ :: _, h => h.elim
  | _ :: _, [], h => h.elim
  | _ :: _, _ :: _, h => by simp [Likes.length h.2]
theorem Likes.get {w : World} : ∀ {F : List ZF} {L : List (ZF × (Nat → ByteArray))}, Likes w F L → ∀ (k : Nat) (y : ZF × (Nat → ByteArray)), L[k]? = some y → ∃ z, F[k]? = some z ∧ Like w z y
  | [], [], _, k, y, h => by simp at h
  | [], _ :: _, h, _, _, _ => h.elim
  | _ :: _, [], h, _, _, _ => h.elim
  | z :: F, x :: L, h, 0, y, e => by
    simp only [List.getElem?_cons_zero, Option.some.injEq] at e
    subst e
    exact ⟨z, rfl, h.1⟩
  | z :: F, x :: L, h, k + 1, y, e => by
    simp only [List.getElem?_cons_succ] at e ⊢
    exact Likes.get h.2 k y e

/-- The eleven cells of a file, as a list. -/
abbrev cellsF (z : ZF) : List Value := [.string z.nm, .int .i64 z.sz, .string z.sha, .string z.md, .int .i64 z.rep, .slice z.ha z.hl z.hc, .int .i64 z.ver, .int .i64 z.ep, .int .i64 z.rem, .bool z.ptr, .bool z.dam]

theorem cellsF_get : ∀ (F : List ZF) (k : Nat) (z : ZF) (j : Nat), F[k]? = some z → j < 11 → (F.flatMap cellsF)[k * 11 + j]? = (cellsF z)[j]?
  | [], k, z, j, h, _ => by simp at h
  | x :: F, 0, z, j, h, hj => by
    simp only [List.getElem?_cons_zero, Option.some.injEq] at h
    subst h
    rw [List.flatMap_cons, List.getElem?_append_left (by simp; omega)]
    simp
  | x :: F, k + 1, z, j, h, hj => by
    simp only [List.getElem?_cons_succ] at h
    rw [List.flatMap_cons, List.getElem?_append_right (by simp; omega)]
    have := cellsF_get F k z j h hj
    rw [← this]
    congr 1
    simp
    omega

/-- The slice value v of the files F. -/
def RecsAt (w : World) (v : Value) (F : List ZF) : Prop :=
  ∃ cap b, v = .slice (some ⟨b, 0, none⟩) F.length cap ∧ F.length ≤ cap ∧ ∀ k z, F[k]? = some z → FileAt w b (k * 11) z

theorem recs_of_own {w : World} {base : Nat} {v : Value} {F : List ZF} (h : w.ownsRow base 52 11 v F.length (F.flatMap cellsF)) (hne : F ≠ []) : RecsAt w v F := by
  rcases h.2 with ⟨_, h0⟩ | ⟨g, cap, cur, rfl, _, hg, hcap, _, hs, ht⟩
  · exact absurd (List.eq_nil_of_length_eq_zero h0) hne
  · refine ⟨cap, g, rfl, hcap, fun k z hk => ?_⟩
    have hkl : k < F.length := (List.getElem?_eq_some_iff.1 hk).1
    have c : ∀ j, j < 11 → w.cell? ⟨g, k * 11 + j, none⟩ = (cellsF z)[j]? := fun j hj => by
      rw [cell_of_row w g _ cur 52 (0, 0) hg, ← cellsF_get F k z j hk hj, ← ht, List.getElem?_take_of_lt (by omega)]
      simp
    exact ⟨c 0 (by omega), c 1 (by omega), c 2 (by omega), c 3 (by omega), c 4 (by omega), c 5 (by omega), c 6 (by omega), c 7 (by omega), c 8 (by omega), c 9 (by omega), c 10 (by omega)⟩

theorem RecsAt.over {B : Nat} {w w' : World} {v : Value} {F : List ZF} (h : RecsAt w v F) (hb : Below B w w') (hB : w.heap.size ≤ B) : RecsAt w' v F := by
  obtain ⟨cap, b, h1, h2, h3⟩ := h
  exact ⟨cap, b, h1, h2, fun k z hk => (h3 k z hk).over hb hB⟩

theorem info52 : (Try.prog.info? 52).map (fun i => (i.zero, i.size, i.bytes)) = some (some (.agg #[.string ByteArray.empty, .int .i64 0, .string ByteArray.empty, .string ByteArray.empty, .int .i64 0, .slice none 0 0, .int .i64 0, .int .i64 0, .int .i64 0, .bool false, .bool false]), 11, 120) := by kernel_rfl

/-- The zero file. -/
abbrev zero52 : Value := .agg #[.string ByteArray.empty, .int .i64 0, .string ByteArray.empty, .string ByteArray.empty, .int .i64 0, .slice none 0 0, .int .i64 0, .int .i64 0, .int .i64 0, .bool false, .bool false]

set_option maxRecDepth 100000 in
set_option maxHeartbeats 4000000 in
theorem rec_none (p m1 : Nat) (s : ByteArray) (w : World) (hp : w.cell? ⟨p, 4, none⟩ = some (.map (some m1)))
    (hlook : ∀ w', w'.heap[m1]? = w.heap[m1]? → (Instr.lookup 36 (.map (some m1)) (.string s) true).run Try.prog w' = .ok (.tuple #[zero52, .bool false]) w') :
    Calls Try.prog 30 #[.pointer (some ⟨p, 0, none⟩), .string s] w fun e w' => e = .returned (.slice none 0 0) ∧ Below w.heap.size w w' := by
  have h1 := hlook w rfl
  have hpl : p < w.heap.size := World.block_lt_of_cell? w _ hp
  clear hlook
  go_enter Try.func30, Try.ntmps30
  go_wp2
  go_ret
  exact ⟨rfl, (Below.refl _ _).alloc (Nat.le_refl _) _⟩

/-- What a round of the gathering loop keeps. -/
def RInv (w wr : World) (y : ZF × (Nat → ByteArray)) (X : Nat → ZW) (k : Nat) (v : Value) : Prop :=
  ∃ F, F ≠ [] ∧ F.length ≤ k + 1 ∧ Likes w F (y :: reps X k) ∧ wr.ownsRow w.heap.size 52 11 v F.length (F.flatMap cellsF) ∧ Below w.heap.size w wr

theorem rinv_start (w : World) (z : ZF) (y : ZF × (Nat → ByteArray)) (X : Nat → ZW) (hy : Like w z y) : RInv w ((w.alloc (.cells #[.string z.nm, .int .i64 z.sz, .string z.sha, .string z.md, .int .i64 z.rep, .slice z.ha z.hl z.hc, .int .i64 z.ver, .int .i64 z.ep, .int .i64 z.rem, .bool z.ptr, .bool z.dam] 52)).alloc (.cells #[.string z.nm, .int .i64 z.sz, .string z.sha, .string z.md, .int .i64 z.rep, .slice z.ha z.hl z.hc, .int .i64 z.ver, .int .i64 z.ep, .int .i64 z.rem, .bool z.ptr, .bool z.dam] 52)) y X 0 (.slice (some ⟨w.heap.size + 1, 0, none⟩) 1 1) := by
  refine ⟨[z], by simp, by simp, ⟨hy, trivial⟩, ⟨by simp, Or.inr ⟨w.heap.size + 1, 1, #[.string z.nm, .int .i64 z.sz, .string z.sha, .string z.md, .int .i64 z.rep, .slice z.ha z.hl z.hc, .int .i64 z.ver, .int .i64 z.ep, .int .i64 z.rem, .bool z.ptr, .bool z.dam], rfl, by omega, ?_, by simp, by unfold maxLen; omega, by simp, by simp⟩⟩, below2' w _ _⟩
  have h := heap_alloc_new (w.alloc (.cells #[.string z.nm, .int .i64 z.sz, .string z.sha, .string z.md, .int .i64 z.rep, .slice z.ha z.hl z.hc, .int .i64 z.ver, .int .i64 z.ep, .int .i64 z.rem, .bool z.ptr, .bool z.dam] 52)) (.cells #[.string z.nm, .int .i64 z.sz, .string z.sha, .string z.md, .int .i64 z.rep, .slice z.ha z.hl z.hc, .int .i64 z.ver, .int .i64 z.ep, .int .i64 z.rem, .bool z.ptr, .bool z.dam] 52)
  simpa using h

theorem news11 (W : World) (z : ZF) (t : TypeId) : ∀ j u, (cellsF z)[j]? = some u → (W.alloc (.cells #[.string z.nm, .int .i64 z.sz, .string z.sha, .string z.md, .int .i64 z.rep, .slice z.ha z.hl z.hc, .int .i64 z.ver, .int .i64 z.ep, .int .i64 z.rem, .bool z.ptr, .bool z.dam] t)).cell? ((⟨W.heap.size, 0, none⟩ : Addr).add j) = some u := by
  intro j u hj
  rw [show (⟨W.heap.size, 0, none⟩ : Addr).add j = ⟨W.heap.size, j, none⟩ by unfold Addr.add; split <;> simp_all, World.cell?_alloc_new]
  simpa using hj

theorem news11one (z : ZF) : ∀ u ∈ cellsF z, u.oneCell' = true := by
  intro u hu
  simp only [List.mem_cons, List.not_mem_nil, or_false] at hu
  rcases hu with rfl | rfl | rfl | rfl | rfl | rfl | rfl | rfl | rfl | rfl | rfl <;> rfl

theorem rinv_skip {w wr : World} {y : ZF × (Nat → ByteArray)} {X : Nat → ZW} {k : Nat} {v : Value} (h : RInv w wr y X k v) (hno : (X k).rp = none) (o : Obj) : RInv w (wr.alloc o) y X (k + 1) v := by
  obtain ⟨F, h1, h2, h3, h4, h5⟩ := h
  refine ⟨F, h1, by omega, ?_, h4.alloc o, h5.alloc h5.size o⟩
  show Likes w F (y :: (reps X k ++ if (X k).rp.isNone then [] else [((X k).z, (X k).g)]))
  rw [hno]; simpa using h3

theorem rinv_step {w wr w2 : World} {y : ZF × (Nat → ByteArray)} {X : Nat → ZW} {k : Nat} {v v1 : Value} {F : List ZF} {o1 o2 : Obj} {zf : ZF} (h2 : F.length ≤ k + 1) (h3 : Likes w F (y :: reps X k)) (h4 : wr.ownsRow w.heap.size 52 11 v F.length (F.flatMap cellsF)) (h5 : Below w.heap.size w wr)
    (hyes : (X k).rp ≠ none) (hl : Like w zf ((X k).z, (X k).g)) (hown : w2.ownsRow w.heap.size 52 11 v1 (F.length + 1) (F.flatMap cellsF ++ cellsF zf)) (hg : ((wr.alloc o1).alloc o2).grownBy w2 v.ownBlock) : RInv w w2 y X (k + 1) v1 := by
  refine ⟨F ++ [zf], by simp, by simp; omega, ?_, by simpa using hown, ((h5.alloc h5.size o1).alloc (by have := h5.size; simp; omega) o2).grown hg (by have := h5.size; simp; omega) (fun j e => (h4.lt j e).1)⟩
  show Likes w (F ++ [zf]) (y :: (reps X k ++ if (X k).rp.isNone then [] else [((X k).z, (X k).g)]))
  have : (X k).rp.isNone = false := by cases hh : (X k).rp with | none => exact absurd hh hyes | some a => rfl
  rw [this]
  exact Likes.snoc h3 hl

set_option maxRecDepth 100000 in
set_option maxHeartbeats 4000000 in
theorem rec_some (p m1 m2 : Nat) (s : ByteArray) (z : ZF) (vu : Value) (n lo : Nat) (X : Nat → ZW) (y : ZF × (Nat → ByteArray)) (w : World) (hp : w.cell? ⟨p, 4, none⟩ = some (.map (some m1))) (hp2 : w.cell? ⟨p, 5, none⟩ = some (.map (some m2))) (hm2 : m2 < w.heap.size)
    (hlook : ∀ w', w'.heap[m1]? = w.heap[m1]? → (Instr.lookup 36 (.map (some m1)) (.string s) true).run Try.prog w' = .ok (.tuple #[fileVal z z.ha z.hc, .bool true]) w')
    (hlook2 : ∀ w', w'.heap[m2]? = w.heap[m2]? → (Instr.lookup 38 (.map (some m2)) (.string s) false).run Try.prog w' = .ok vu w')
    (hy : Like w z y) (hu : OutAt lo w vu n X) (hn : n ≤ 65537) :
    Calls Try.prog 30 #[.pointer (some ⟨p, 0, none⟩), .string s] w fun e w' => ∃ v F, e = .returned v ∧ Likes w F (y :: reps X n) ∧ RecsAt w' v F ∧ Below w.heap.size w w' := by
  have h1 := hlook w rfl
  have HL2 : Hid (∀ w', w'.heap[m2]? = w.heap[m2]? → (Instr.lookup 38 (.map (some m2)) (.string s) false).run Try.prog w' = .ok vu w') := hlook2
  have hpl : p < w.heap.size := World.block_lt_of_cell? w _ hp
  obtain ⟨aou, capu, bu, rfl, hcapu, haou, hlou, hcu⟩ := hu
  have HA : Hid (0 < n → aou = some ⟨bu, 0, none⟩) := haou
  have HC : Hid (∀ i, i < n → ∃ u, w.cell? ⟨bu, i * 3, none⟩ = some (.int .i64 (X i).ver) ∧ w.cell? ⟨bu, i * 3 + 1, none⟩ = some (.string (X i).wr) ∧ w.cell? ⟨bu, i * 3 + 2, none⟩ = some u ∧ PtrOut lo w (X i) u) := hcu
  have HY : Hid (Like w z y) := hy
  clear hlook hlook2 haou hcu hy
  obtain ⟨i0, hi, hz0, hz1, hz2⟩ := info_parts info52
  go_enter Try.func30, Try.ntmps30
  have h2a : ∀ o, (Instr.lookup 38 (.map (some m2)) (.string s) false).run Try.prog (w.alloc o) = .ok (.slice aou n capu) (w.alloc o) := fun o => HL2.out _ (Below.heap_alloc _ _ _ hm2)
  have h2b : ∀ o o', (Instr.lookup 38 (.map (some m2)) (.string s) false).run Try.prog ((w.alloc o).alloc o') = .ok (.slice aou n capu) ((w.alloc o).alloc o') := fun o o' => HL2.out _ ((Below.heap_alloc _ _ _ (by simp; omega)).trans (Below.heap_alloc _ _ _ hm2))
  go_wp2
  have H0 : Hid (RInv w _ y X 0 _) := rinv_start w z y X HY.out
  go_loopw [30, 7] (fun i v wr => ∃ k : Nat, k ≤ n ∧ i = .int .i64 k ∧ Hid (RInv w wr y X k v)) (fun i _ _ => n - (intOf i).toNat)
  case atStart => exact ⟨0, Nat.zero_le _, rfl, H0⟩
  case round =>
    clear H0 h1 h2a h2b
    obtain ⟨k, hk, rfl, hR⟩ := hrel
    by_cases hlt : k < n
    · obtain rfl := HA.out (Nat.lt_of_le_of_lt (Nat.zero_le _) hlt)
      have hlt' : (k : Int) < (n : Int) := by omega
      obtain ⟨u, c0, c1, c2, hp3⟩ := HC.out k hlt
      obtain ⟨F, r1, r2, r3, r4, r5⟩ := hR.out
      replace c0 := cell_over r5 (Nat.le_refl _) c0
      replace c1 := cell_over r5 (Nat.le_refl _) c1
      replace c2 := cell_over r5 (Nat.le_refl _) c2
      rcases hp3 with ⟨hno, rfl⟩ | ⟨hyes, b4, rfl, _, ao4, cap4, hf4, hs4, hn4⟩
      · clear r1 r2 r3 r4 r5
        go_wp2
        go_roundw
        case rel => exact ⟨k + 1, hlt, step_num k, rinv_skip hR.out hno _⟩
        case measure => exact step_down n k hlt
      · obtain ⟨zf, hzf⟩ : ∃ zf, zf = { (X k).z with ha := ao4, hc := cap4 } := ⟨_, rfl⟩
        have hl : Like w zf ((X k).z, (X k).g) := ⟨ao4, cap4, hzf, hs4.mono (Nat.zero_le _), hn4⟩
        rw [← hzf] at hf4
        have HL : Hid (Like w zf ((X k).z, (X k).g)) := hl
        obtain ⟨f0, f1, f2, f3, f4, f5, f6, f7, f8, f9, f10⟩ := hf4.over r5 (Nat.le_refl _)
        have hb4 : b4 < wr.heap.size := World.block_lt_of_cell? wr _ f0
        have hsz := r5.size
        clear hzf hl hs4 hn4 hf4
        have R : Hid (F ≠ [] ∧ F.length ≤ k + 1 ∧ Likes w F (y :: reps X k) ∧ wr.ownsRow w.heap.size 52 11 u7 F.length (F.flatMap cellsF) ∧ Below w.heap.size w wr) := ⟨r1, r2, r3, r4, r5⟩
        clear r1 r3 r4 r5
        go_wp2_with (at_builtin; refine wpList_append_own _ rfl (.tmp 37) (.tmp 42) 42 rfl w.heap.size 52 i0 _ 11 120 Try.underlying42 hi hz0 hz1 hz2 rfl (by decide) u7 F.length (F.flatMap cellsF) rfl ((R.out.2.2.2.1.alloc _).alloc _) ⟨wr.heap.size + 1, 0, none⟩ 1 1 (cellsF zf) rfl rfl ?_ (news11one zf) ?_ ?_ ?_ ?_)
        · have := R.out.2.1; unfold maxLen; omega
        · have := R.out.2.1; omega
        · omega
        · intro v1 w2 hown' hgrow _
          have R2 : Hid (RInv w w2 y X (k + 1) v1) := rinv_step R.out.2.1 R.out.2.2.1 R.out.2.2.2.1 R.out.2.2.2.2 hyes HL.out hown' hgrow
          clear hown' hgrow c0 c1 c2 f0 f1 f2 f3 f4 f5 f6 f7 f8 f9 f10 R hR
          go_wp2
          go_roundw
          case rel => exact ⟨k + 1, hlt, step_num k, R2⟩
          case measure => exact step_down n k hlt
    · obtain rfl : k = n := by omega
      obtain ⟨F, r1, r2, r3, r4, r5⟩ := hR.out
      have HE : Hid (Likes w F (y :: reps X k) ∧ RecsAt wr u7 F ∧ Below w.heap.size w wr) := ⟨r3, recs_of_own r4 r1, r5⟩
      clear r1 r2 r3 r4 r5 hR
      obtain ⟨_, _, hv7, _⟩ := HE.out.2.1
      subst hv7
      go_wp2
      go_ret
      exact ⟨_, F, rfl, HE.out⟩

end Go.Proofs.Qxb6612566a.st
