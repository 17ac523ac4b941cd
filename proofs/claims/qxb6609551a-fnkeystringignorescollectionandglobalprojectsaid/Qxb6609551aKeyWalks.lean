/-
  Walks of the functions that both laws on Key.String come to: zzIndexByte (13), zzKey (14), Key.String (15).
-/
import Derived.Test.Qxb6609551aRows
import Derived.WalkKit
import Derived.ProofKit
import Derived.Deep.QuietTactic
import Derived.BigQuiet
namespace Go.Proofs.Qxb6609551a.key
open Go.RowKit

theorem ret_int {k : IntKind} {a b : Int} (h : a = b) : Ending.returned (.int k a) = .returned (.int k b) := by rw [h]

def ints (s : ByteArray) : List Int := s.data.toList.map fun b => (b.toNat : Int)

/-- 'zzIndexByte' in the plain. -/
def idx (c : Int) (l : List Int) : Int := if c ∈ l then (l.idxOf c : Int) else -1

theorem ints_length (s : ByteArray) : (ints s).length = s.size := by
  unfold ints; rw [List.length_map]; rfl

theorem ints_get (s : ByteArray) (k : Nat) (h : k < s.size) : (ints s)[k]'(by rw [ints_length]; exact h) = (s[k].toNat : Int) := by
  unfold ints; rw [List.getElem_map]; rfl

theorem idx_found (c : Int) (l : List Int) (k : Nat) (hk : k < l.length) (h : l[k] = c) (hn : c ∉ l.take k) : (k : Int) = idx c l := by
  have e : l = l.take k ++ (c :: l.drop (k + 1)) := by
    conv => lhs; rw [← List.take_append_drop k l]
    rw [List.drop_eq_getElem_cons hk, h]
  have m : c ∈ l := by rw [e]; simp
  unfold idx
  rw [if_pos m]
  have : l.idxOf c = k := by
    conv => lhs; rw [e]
    rw [List.idxOf_append, if_neg hn]
    simp; omega
  omega

theorem idx_none (c : Int) (l : List Int) (h : c ∉ l) : (-1 : Int) = idx c l := by
  unfold idx; rw [if_neg h]

theorem not_take_succ (c : Int) (l : List Int) (k : Nat) (hk : k < l.length) (h : c ∉ l.take k) (hne : l[k] ≠ c) : c ∉ l.take (k + 1) := by
  rw [List.take_succ_eq_append_getElem hk]
  simp only [List.mem_append, List.mem_singleton, not_or]
  exact ⟨h, fun e => hne e.symm⟩

set_option maxHeartbeats 400000 in
theorem index_any (s : ByteArray) (c : Int) (w : World) (hs : s.size ≤ maxLen) :
    Calls Try.prog 13 #[.string s, .int .u8 c] w fun e w' => e = .returned (.int .i64 (idx c (ints s))) ∧ w' = w := by
  unfold maxLen at hs
  go_enter Try.func13, Try.ntmps13
  go_wp2
  go_loop [5] (fun i => ∃ k : Nat, k ≤ s.size ∧ i = .int .i64 k ∧ c ∉ (ints s).take k) (fun i => s.size - (intOf i).toNat)
  case atStart => exact ⟨0, Nat.zero_le _, rfl, by simp⟩
  case round =>
    obtain ⟨k, hk, rfl, hnot⟩ := hrel
    have HN : Hid (c ∉ (ints s).take k) := hnot
    clear hnot
    by_cases hlt : k < s.size
    · by_cases hc : (s[k].toNat : Int) = c
      · have hc' : ((s[k].toNat : Int) == c) = true := by simpa using hc
        have HC : Hid ((s[k].toNat : Int) = c) := hc
        clear hc
        go_wp2
        go_ret
        exact ⟨ret_int (idx_found c _ k (by rw [ints_length]; exact hlt) (by rw [ints_get s k hlt]; exact HC.out) HN.out), rfl⟩
      · have hc' : ((s[k].toNat : Int) == c) = false := by simpa using hc
        have HC : Hid (¬ (s[k].toNat : Int) = c) := hc
        clear hc
        go_wp2
        go_round
        case rel => exact ⟨k + 1, by omega, by go_num, not_take_succ c _ k (by rw [ints_length]; exact hlt) HN.out (by rw [ints_get s k hlt]; exact HC.out)⟩
        case measure => simp [intOf]; omega
    · go_wp2
      go_ret
      exact ⟨ret_int (idx_none c _ (by have := HN.out; rwa [List.take_of_length_le (by rw [ints_length]; omega)] at this)), rfl⟩

/-- The world behind 'zzKey'. -/
abbrev keyed (w : World) (k c p n : ByteArray) (b : Bool) : World :=
  (w.alloc (.cells #[.pointer (some ⟨w.heap.size + 1, 0, none⟩), .string p, .string n] 32)).alloc (.cells #[.string k, .string c, .bool b, .nilIface, .pointer none, .slice none 0 0] 41)

theorem key_any (k c p n : ByteArray) (b : Bool) (w : World) :
    Calls Try.prog 14 #[.string k, .string c, .bool b, .string p, .string n] w fun e w' => e = .returned (.agg #[.pointer (some ⟨w.heap.size + 1, 0, none⟩), .string p, .string n]) ∧ w' = keyed w k c p n b := by
  go_enter Try.func14, Try.ntmps14
  go_wp2
  exact bodyPost_ret (v := .agg #[.pointer (some ⟨w.heap.size + 1, 0, none⟩), .string p, .string n]) (by simp [results, Try.results14, go_sem]) rfl ⟨rfl, rfl⟩

theorem grown_drewN {W w : World} (h : Grown W w) (n : Nat) : Grown W (w.drewN n) := by
  induction n with
  | zero => exact h
  | succ n ih => exact ih

theorem string_global (g : Nat) (k p n : ByteArray) (w : World) (h0 : w.cell? ⟨g, 0, none⟩ = some (.string k)) (h2 : w.cell? ⟨g, 2, none⟩ = some (.bool false)) (hg : g < w.heap.size)
    (hk : k.size ≤ 262144) (hn : n.size ≤ 262144) :
    Calls Try.prog 15 #[.agg #[.pointer (some ⟨g, 0, none⟩), .string p, .string n]] w fun e w' => ∃ s : ByteArray, e = .returned (.string s) ∧ s = k ++ ⟨#[32]⟩ ++ n ∧ Grown w w' := by
  go_enter Try.func15, Try.ntmps15
  go_wp2
  go_quiet (fail)
  go_wp2
  go_ret
  exact ⟨_, rfl, rfl, grown_drewN ((Grown.refl _).alloc _ _) _⟩

theorem string_project (g : Nat) (k p n : ByteArray) (w : World) (h0 : w.cell? ⟨g, 0, none⟩ = some (.string k)) (h2 : w.cell? ⟨g, 2, none⟩ = some (.bool true)) (hg : g < w.heap.size)
    (hk : k.size ≤ 262144) (hp : p.size ≤ 262144) (hn : n.size ≤ 262144) :
    Calls Try.prog 15 #[.agg #[.pointer (some ⟨g, 0, none⟩), .string p, .string n]] w fun e w' => ∃ s : ByteArray, e = .returned (.string s) ∧ s = k ++ ⟨#[32]⟩ ++ p ++ ⟨#[47]⟩ ++ n ∧ Grown w w' := by
  go_enter Try.func15, Try.ntmps15
  go_wp2
  go_quiet (fail)
  go_wp2
  go_ret
  exact ⟨_, rfl, rfl, grown_drewN ((Grown.refl _).alloc _ _) _⟩

theorem grown_trans {a b c : World} (h : Grown a b) (k : Grown b c) : Grown a c :=
  ⟨World.keptBut_trans h.1 k.1, fun x => (k.2.1 x).trans (h.2.1 x), Nat.le_trans h.2.2 k.2.2⟩

/-- What 'Key.String' answers. -/
def keyText (b : Bool) (k p n : ByteArray) : ByteArray := if b then k ++ ⟨#[32]⟩ ++ p ++ ⟨#[47]⟩ ++ n else k ++ ⟨#[32]⟩ ++ n

/-- 'zzKey(..).String()', from the world that 'zzKey' left. -/
theorem string_keyed (k c p n : ByteArray) (b : Bool) (w : World) (hk : k.size ≤ 262144) (hp : p.size ≤ 262144) (hn : n.size ≤ 262144) :
    Calls Try.prog 15 #[.agg #[.pointer (some ⟨w.heap.size + 1, 0, none⟩), .string p, .string n]] (keyed w k c p n b) fun e w' => ∃ s : ByteArray, e = .returned (.string s) ∧ s = keyText b k p n ∧ Grown w w' := by
  have hgr : Grown w (keyed w k c p n b) := ((Grown.refl _).alloc _ _).alloc _ _
  cases b
  · refine (string_global (w.heap.size + 1) k p n (keyed w k c p n false) (by simp) (by simp) (by simp) hk hn).mono ?_
    rintro e w' ⟨s, rfl, hs, hg⟩
    exact ⟨s, rfl, hs, grown_trans hgr hg⟩
  · refine (string_project (w.heap.size + 1) k p n (keyed w k c p n true) (by simp) (by simp) (by simp) hk hp hn).mono ?_
    rintro e w' ⟨s, rfl, hs, hg⟩
    exact ⟨s, rfl, hs, grown_trans hgr hg⟩

end Go.Proofs.Qxb6609551a.key
