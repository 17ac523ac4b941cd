/-
  The walk of FnKeyStringIgnoresCollectionAndGlobalProject (5).
-/
import Derived.Test.Qxb6609551aKeyBack
namespace Go.Proofs.Qxb6609551a.key
open Go.RowKit

theorem bytes6_any (a0 a1 a2 a4 a5 a6 : ByteArray) (a3 : Bool) (w0 : a0.size ≤ maxLen) (w1 : a1.size ≤ maxLen) (w2 : a2.size ≤ maxLen) (w4 : a4.size ≤ maxLen) (w5 : a5.size ≤ maxLen) (w6 : a6.size ≤ maxLen) (w : World) :
    Calls Try.prog 16 #[.string a0, .string a1, .string a2, .bool a3, .string a4, .string a5, .string a6] w fun e w' => ∃ b : Bool, e = .returned (.bool b) ∧ w' = w := by
  unfold maxLen at w0 w1 w2 w4 w5 w6
  go_enter Try.func16, Try.ntmps16
  go_wp2
  all_goals go_ret
  all_goals exact ⟨_, rfl, rfl⟩

theorem text_tail (b : Bool) (k p n : ByteArray) : (keyText b k p n).extract ((keyText b k p n).size - n.size) (keyText b k p n).size = n := by
  obtain ⟨h, e⟩ : ∃ h, keyText b k p n = h ++ n := by
    unfold keyText; cases b
    · exact ⟨_, rfl⟩
    · exact ⟨_, rfl⟩
  rw [e]
  have : (h ++ n).size - n.size = h.size := by rw [ByteArray.size_append]; omega
  rw [this]; exact ext_tail _ _

theorem text_global (k p q n : ByteArray) : keyText false k p n = keyText false k q n := rfl

set_option maxHeartbeats 1000000 in
theorem ignores_any (a0 a1 a2 : ByteArray) (a3 : Bool) (a4 a5 a6 : ByteArray) (w0 : a0.size ≤ maxLen) (w1 : a1.size ≤ maxLen) (w2 : a2.size ≤ maxLen) (w4 : a4.size ≤ maxLen) (w5 : a5.size ≤ maxLen) (w6 : a6.size ≤ maxLen) (w : World) :
    Calls Try.prog 5 #[.string a0, .string a1, .string a2, .bool a3, .string a4, .string a5, .string a6] w fun e w' => e = .returned (.bool true) ∧ Grown w w' := by
  have m0 := w0
  have m1 := w1
  have m2 := w2
  have m4 := w4
  have m5 := w5
  have m6 := w6
  have HM : Hid (a0.size ≤ maxLen ∧ a1.size ≤ maxLen ∧ a2.size ≤ maxLen ∧ a4.size ≤ maxLen ∧ a5.size ≤ maxLen ∧ a6.size ≤ maxLen) := ⟨w0, w1, w2, w4, w5, w6⟩
  clear w0 w1 w2 w4 w5 w6
  unfold maxLen at m0 m1 m2 m4 m5 m6
  cases a3
  · go_enter Try.func5, Try.ntmps5
    go_wp2_with (first
      | (go_at_call 16; refine (bytes6_any _ _ _ _ _ _ _ HM.out.1 HM.out.2.1 HM.out.2.2.1 HM.out.2.2.2.1 HM.out.2.2.2.2.1 HM.out.2.2.2.2.2 _).mono ?_; rintro e w' ⟨b, rfl, rfl⟩)
      )
    any_goals (go_ret; exact ⟨rfl, Grown.refl _⟩)
    refine (key_any _ _ _ _ _ _).mono ?_
    rintro e w3 ⟨rfl, rfl⟩
    go_wp2_with fail
    refine (string_keyed a0 a1 a4 a6 false _ (by omega) (by omega) (by omega)).mono ?_
    rintro e w4 ⟨s, rfl, hs, hg⟩
    have HG : Hid (Grown w' w4) := hg
    clear hg
    have HS : Hid (s = keyText false a0 a4 a6) := hs
    clear hs
    go_wp2_with fail
    refine (key_any _ _ _ _ _ _).mono ?_
    rintro e w5 ⟨rfl, rfl⟩
    go_wp2_with fail
    refine (string_keyed a0 a2 a5 a6 false _ (by omega) (by omega) (by omega)).mono ?_
    rintro e w6 ⟨s2, rfl, hs2, hg2⟩
    have HG2 : Hid (Grown w' w6) := grown_trans HG.out hg2
    obtain rfl : s2 = s := by rw [HS.out, hs2]; rfl
    have hz : s2.size = a0.size + 1 + a6.size := by rw [hs2, text_size]; rfl
    have hz1 : s2.size ≤ a0.size + 1 + a6.size := by omega
    have hz2 : a0.size + 1 + a6.size ≤ s2.size := by omega
    have HT : Hid (s2.extract (s2.size - a6.size) s2.size = a6) := by rw [hs2]; exact text_tail _ _ _ _
    clear hs2 hg2 hz
    go_wp2_with fail
    go_ret
    exact ⟨ret_bool (same_of HT.out), HG2.out⟩
  · go_enter Try.func5, Try.ntmps5
    go_wp2_with (first
      | (go_at_call 16; refine (bytes6_any _ _ _ _ _ _ _ HM.out.1 HM.out.2.1 HM.out.2.2.1 HM.out.2.2.2.1 HM.out.2.2.2.2.1 HM.out.2.2.2.2.2 _).mono ?_; rintro e w' ⟨b, rfl, rfl⟩)
      )
    any_goals (go_ret; exact ⟨rfl, Grown.refl _⟩)
    refine (key_any _ _ _ _ _ _).mono ?_
    rintro e w3 ⟨rfl, rfl⟩
    go_wp2_with fail
    refine (string_keyed a0 a1 a4 a6 true _ (by omega) (by omega) (by omega)).mono ?_
    rintro e w4 ⟨s, rfl, hs, hg⟩
    have HG : Hid (Grown w' w4) := hg
    clear hg
    have HS : Hid (s = keyText true a0 a4 a6) := hs
    clear hs
    go_wp2_with fail
    refine (key_any _ _ _ _ _ _).mono ?_
    rintro e w5 ⟨rfl, rfl⟩
    go_wp2_with fail
    refine (string_keyed a0 a2 a4 a6 true _ (by omega) (by omega) (by omega)).mono ?_
    rintro e w6 ⟨s2, rfl, hs2, hg2⟩
    have HG2 : Hid (Grown w' w6) := grown_trans HG.out hg2
    obtain rfl : s2 = s := by rw [HS.out, hs2]
    have hz : s2.size = a0.size + 1 + a4.size + 1 + a6.size := by rw [hs2, text_size]; rfl
    have hz1 : s2.size ≤ a0.size + 1 + a4.size + 1 + a6.size := by omega
    have hz2 : a0.size + 1 + a4.size + 1 + a6.size ≤ s2.size := by omega
    have HT : Hid (s2.extract (s2.size - a6.size) s2.size = a6) := by rw [hs2]; exact text_tail _ _ _ _
    clear hs2 hg2 hz
    go_wp2_with fail
    go_ret
    exact ⟨ret_bool (same_of HT.out), HG2.out⟩

end Go.Proofs.Qxb6609551a.key
