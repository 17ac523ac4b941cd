/-
  The walk of FnKeyStringParsesBack (4).
-/
import Derived.Test.Qxb6609551aKeyWalks
namespace Go.Proofs.Qxb6609551a.key
open Go.RowKit

theorem bytes_any (a0 a1 a3 a4 : ByteArray) (a2 : Bool) (w0 : a0.size ≤ maxLen) (w1 : a1.size ≤ maxLen) (w3 : a3.size ≤ maxLen) (w4 : a4.size ≤ maxLen) (w : World) :
    Calls Try.prog 12 #[.string a0, .string a1, .bool a2, .string a3, .string a4] w fun e w' => ∃ b : Bool, e = .returned (.bool b) ∧ w' = w := by
  unfold maxLen at w0 w1 w3 w4
  go_enter Try.func12, Try.ntmps12
  go_wp2
  all_goals go_ret
  all_goals exact ⟨_, rfl, rfl⟩

theorem index_eq (s : ByteArray) (c r : Int) (w : World) (hs : s.size ≤ maxLen) (h : idx c (ints s) = r) :
    Calls Try.prog 13 #[.string s, .int .u8 c] w fun e w' => e = .returned (.int .i64 r) ∧ w' = w := by
  subst h; exact index_any s c w hs

theorem ints_append (a b : ByteArray) : ints (a ++ b) = ints a ++ ints b := by
  unfold ints; rw [ByteArray.data_append, Array.toList_append, List.map_append]

theorem idx_split (c : Int) (l r : List Int) (h : c ∉ l) : idx c (l ++ c :: r) = (l.length : Int) := by
  unfold idx
  rw [if_pos (by simp), List.idxOf_append, if_neg h]
  simp

theorem idx_neg {c : Int} {l : List Int} (h : idx c l < 0) : c ∉ l := by
  intro m; unfold idx at h; rw [if_pos m] at h; omega

theorem text_size (b : Bool) (k p n : ByteArray) : (keyText b k p n).size = if b then k.size + 1 + p.size + 1 + n.size else k.size + 1 + n.size := by
  have e1 : (⟨#[32]⟩ : ByteArray).size = 1 := rfl
  have e2 : (⟨#[47]⟩ : ByteArray).size = 1 := rfl
  unfold keyText; cases b <;> simp [ByteArray.size_append, e1, e2]

theorem text_idx (b : Bool) (k p n : ByteArray) (h : (32 : Int) ∉ ints k) : idx 32 (ints (keyText b k p n)) = (k.size : Int) := by
  have e1 : ints (⟨#[32]⟩ : ByteArray) = [32] := rfl
  rw [← ints_length k]
  unfold keyText
  cases b
  · simp only [Bool.false_eq_true, if_false, ints_append, e1, List.append_assoc, List.singleton_append]
    exact idx_split _ _ _ h
  · simp only [if_true, ints_append, e1, List.append_assoc, List.singleton_append]
    exact idx_split _ _ _ h

theorem ext_mid (a b c : ByteArray) : (a ++ b ++ c).extract a.size (a.size + b.size) = b := by
  apply ByteArray.ext
  rw [ByteArray.data_extract, ByteArray.data_append, ByteArray.data_append]
  apply Array.ext'
  have ea : a.size = a.data.toList.length := rfl
  have eb : b.size = b.data.toList.length := rfl
  rw [Array.toList_extract, Array.toList_append, Array.toList_append, List.extract_eq_take_drop, ea, eb, List.append_assoc, List.drop_left', Nat.add_sub_cancel_left, List.take_left']
  · rfl
  · rfl

theorem ext_head (a b : ByteArray) : (a ++ b).extract 0 a.size = a := by
  have h := ext_mid ByteArray.empty a b
  rw [ByteArray.empty_append, ByteArray.size_empty, Nat.zero_add] at h
  exact h

theorem ext_tail (a b : ByteArray) : (a ++ b).extract a.size (a ++ b).size = b := by
  have h := ext_mid a b ByteArray.empty
  rw [ByteArray.append_empty] at h
  rw [ByteArray.size_append]
  exact h

theorem same_of {a b : ByteArray} (h : a = b) : (a.toList == b.toList) = true := by subst h; simp
theorem ret_bool {a b : Bool} (h : a = b) : Ending.returned (.bool a) = .returned (.bool b) := by rw [h]

theorem text_head (b : Bool) (k p n : ByteArray) : (keyText b k p n).extract 0 k.size = k := by
  unfold keyText
  cases b
  · simp only [Bool.false_eq_true, if_false, ByteArray.append_assoc]; exact ext_head _ _
  · simp only [if_true, ByteArray.append_assoc]; exact ext_head _ _

/-- What stands behind the first blank. -/
def restText (b : Bool) (p n : ByteArray) : ByteArray := if b then p ++ ⟨#[47]⟩ ++ n else n

theorem text_rest (b : Bool) (k p n : ByteArray) : (keyText b k p n).extract (k.size + 1) (keyText b k p n).size = restText b p n := by
  have e1 : k.size + 1 = (k ++ (⟨#[32]⟩ : ByteArray)).size := by rw [ByteArray.size_append]; rfl
  have e : keyText b k p n = (k ++ (⟨#[32]⟩ : ByteArray)) ++ restText b p n := by
    unfold keyText restText; cases b <;> simp [ByteArray.append_assoc]
  rw [e, e1]; exact ext_tail _ _

theorem rest_size (p n : ByteArray) : (restText true p n).size = p.size + 1 + n.size := by
  have e2 : (⟨#[47]⟩ : ByteArray).size = 1 := rfl
  unfold restText; simp [ByteArray.size_append, e2]

theorem rest_idx (p n : ByteArray) (h : (47 : Int) ∉ ints p) : idx 47 (ints (restText true p n)) = (p.size : Int) := by
  have e1 : ints (⟨#[47]⟩ : ByteArray) = [47] := rfl
  rw [← ints_length p]
  unfold restText
  simp only [if_true, ints_append, e1, List.append_assoc, List.singleton_append]
  exact idx_split _ _ _ h

theorem rest_head (p n : ByteArray) : (restText true p n).extract 0 p.size = p := by
  unfold restText; simp only [if_true, ByteArray.append_assoc]; exact ext_head _ _

theorem rest_tail (p n : ByteArray) : (restText true p n).extract (p.size + 1) (restText true p n).size = n := by
  have e1 : p.size + 1 = (p ++ (⟨#[47]⟩ : ByteArray)).size := by rw [ByteArray.size_append]; rfl
  have e : restText true p n = (p ++ (⟨#[47]⟩ : ByteArray)) ++ n := rfl
  rw [e, e1]; exact ext_tail _ _

set_option maxHeartbeats 1000000 in
theorem back_any (a0 : ByteArray) (a1 : ByteArray) (a2 : Bool) (a3 : ByteArray) (a4 : ByteArray) (w0 : a0.size ≤ maxLen) (w1 : a1.size ≤ maxLen) (w3 : a3.size ≤ maxLen) (w4 : a4.size ≤ maxLen) (w : World) :
    Calls Try.prog 4 #[.string a0, .string a1, .bool a2, .string a3, .string a4] w fun e w' => e = .returned (.bool true) ∧ Grown w w' := by
  have m0 := w0
  have m1 := w1
  have m3 := w3
  have m4 := w4
  have HM : Hid (a0.size ≤ maxLen ∧ a1.size ≤ maxLen ∧ a3.size ≤ maxLen ∧ a4.size ≤ maxLen) := ⟨w0, w1, w3, w4⟩
  clear w0 w1 w3 w4
  unfold maxLen at m0 m1 m3 m4
  go_enter Try.func4, Try.ntmps4
  go_wp2_with (first
    | (go_at_call 12; refine (bytes_any _ _ _ _ _ HM.out.1 HM.out.2.1 HM.out.2.2.1 HM.out.2.2.2 _).mono ?_; rintro e w' ⟨b, rfl, rfl⟩)
    )
  any_goals (go_ret; exact ⟨rfl, Grown.refl _⟩)
  refine (index_any _ _ _ HM.out.1).mono ?_
  rintro e w'' ⟨rfl, rfl⟩
  generalize hi : idx 32 (ints a0) = i
  have HI : Hid (idx 32 (ints a0) = i) := hi
  clear hi
  cases a2
  · go_wp2_with fail
    any_goals (go_ret; exact ⟨rfl, Grown.refl _⟩)
    refine (key_any _ _ _ _ _ _).mono ?_
    rintro e w3 ⟨rfl, rfl⟩
    go_wp2_with fail
    refine (string_keyed a0 a1 a3 a4 false _ (by omega) (by omega) (by omega)).mono ?_
    rintro e w4 ⟨s, rfl, hs, hg⟩
    have hz : s.size = a0.size + 1 + a4.size := by rw [hs, text_size]; rfl
    have hx : idx 32 (ints s) = (a0.size : Int) := by rw [hs]; exact text_idx _ _ _ _ (idx_neg (by rw [HI.out]; assumption))
    have h1 : ((s.extract 0 a0.size).toList == a0.toList) = true := same_of (by rw [hs]; exact text_head _ _ _ _)
    have h2 : Hid (s.extract (a0.size + 1) s.size = a4) := by rw [hs]; exact text_rest _ _ _ _
    have HX : Hid (idx 32 (ints s) = (a0.size : Int)) := hx
    have HG : Hid (Grown w'' w4) := hg
    have hz1 : a0.size + 1 ≤ s.size := by omega
    have hz2 : s.size ≤ 600000 := by omega
    clear hs hx hg hz
    go_wp2_with fail
    refine (index_eq s 32 _ _ (by unfold maxLen; omega) HX.out).mono ?_
    rintro e w5 ⟨rfl, rfl⟩
    go_wp2_with fail
    go_ret
    exact ⟨ret_bool (same_of h2.out), HG.out⟩
  · go_wp2_with fail
    any_goals (go_ret; exact ⟨rfl, Grown.refl _⟩)
    refine (index_any _ _ _ HM.out.2.2.1).mono ?_
    rintro e w2 ⟨rfl, rfl⟩
    generalize hj : idx 47 (ints a3) = j
    have HJ : Hid (idx 47 (ints a3) = j) := hj
    clear hj
    go_wp2_with fail
    any_goals (go_ret; exact ⟨rfl, Grown.refl _⟩)
    refine (key_any _ _ _ _ _ _).mono ?_
    rintro e w3 ⟨rfl, rfl⟩
    go_wp2_with fail
    refine (string_keyed a0 a1 a3 a4 true _ (by omega) (by omega) (by omega)).mono ?_
    rintro e w4 ⟨s, rfl, hs, hg⟩
    have hz : s.size = a0.size + 1 + a3.size + 1 + a4.size := by rw [hs, text_size]; rfl
    have hx : idx 32 (ints s) = (a0.size : Int) := by rw [hs]; exact text_idx _ _ _ _ (idx_neg (by rw [HI.out]; assumption))
    have h1 : ((s.extract 0 a0.size).toList == a0.toList) = true := same_of (by rw [hs]; exact text_head _ _ _ _)
    obtain ⟨r, hr, hrt⟩ : ∃ r, s.extract (a0.size + 1) s.size = r ∧ r = restText true a3 a4 := ⟨_, by rw [hs]; exact text_rest _ _ _ _, rfl⟩
    have HX : Hid (idx 32 (ints s) = (a0.size : Int)) := hx
    have HG : Hid (Grown w2 w4) := hg
    have hz1 : a0.size + 1 ≤ s.size := by omega
    have hz2 : s.size ≤ 900000 := by omega
    have hy : r.size = a3.size + 1 + a4.size := by rw [hrt, rest_size]
    have HY : Hid (idx 47 (ints r) = (a3.size : Int)) := by rw [hrt]; exact rest_idx _ _ (idx_neg (by rw [HJ.out]; assumption))
    have h3 : ((r.extract 0 a3.size).toList == a3.toList) = true := same_of (by rw [hrt]; exact rest_head _ _)
    have h4 : Hid (r.extract (a3.size + 1) r.size = a4) := by rw [hrt]; exact rest_tail _ _
    have hy1 : a3.size + 1 ≤ r.size := by omega
    have hy2 : r.size ≤ 900000 := by omega
    clear hs hx hg hz hrt hy
    go_wp2_with fail
    refine (index_eq s 32 _ _ (by unfold maxLen; omega) HX.out).mono ?_
    rintro e w5 ⟨rfl, rfl⟩
    go_wp2_with fail
    refine (index_eq r 47 _ _ (by unfold maxLen; omega) HY.out).mono ?_
    rintro e w6 ⟨rfl, rfl⟩
    go_wp2_with fail
    all_goals go_ret
    all_goals exact ⟨ret_bool (same_of h4.out), HG.out⟩

end Go.Proofs.Qxb6609551a.key
