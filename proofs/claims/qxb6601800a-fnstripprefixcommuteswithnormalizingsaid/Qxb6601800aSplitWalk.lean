/-
  Seat b6601800a: the law FnNormalizePercentsSplitsAtSlash, walked.
-/
import Derived.Test.Qxb6601800aNorm
namespace Go.Proofs.Qxb6601800a

theorem zz_any (s : ByteArray) (w : World) (hs : s.size ≤ 4194304) :
    Calls Try.prog 11 #[.string s] w fun e w' => e = .returned (.string ⟨(norm s.data.toList).toArray⟩) ∧ RowKit.Below w.heap.size w w' := by
  go_enter Try.func11, Try.ntmps11
  go_wp2_with (go_at_call 23; refine (norm_any _ _ hs).mono ?_; rintro e w' ⟨rfl, hb⟩)
  go_ret
  exact ⟨rfl, hb⟩

end Go.Proofs.Qxb6601800a
namespace Go.Proofs.Qxb6601800a.fnNormalizePercentsSplitsAtSlash
open Go.RowKit
/-! ### THE WALK -/
set_option maxHeartbeats 1000000 in
theorem bytes_yes (a0 a1 : ByteArray) (w : World) (h : a0.size + a1.size ≤ 1048576) :
    Calls Try.prog 14 #[.string a0, .string a1] w fun e w' => e = .returned (.bool true) ∧ w = w' := by
  go_enter Try.func14, Try.ntmps14
  go_wp2
  go_ret
  exact ⟨rfl, rfl⟩

set_option maxHeartbeats 1000000 in
theorem bytes_no (a0 a1 : ByteArray) (w : World) (w0 : a0.size ≤ maxLen) (w1 : a1.size ≤ maxLen) (h : 1048576 < a0.size + a1.size) :
    Calls Try.prog 14 #[.string a0, .string a1] w fun e w' => e = .returned (.bool false) ∧ w = w' := by
  unfold maxLen at w0 w1
  go_enter Try.func14, Try.ntmps14
  go_wp2
  all_goals
    go_ret
    exact ⟨rfl, rfl⟩

set_option maxHeartbeats 1000000 in
theorem walk (a0 : ByteArray) (a1 : ByteArray) (w0 : a0.size ≤ maxLen) (w1 : a1.size ≤ maxLen) (w : World) :
    Calls Try.prog 5 #[.string a0, .string a1] w fun e w' => e = .returned (.bool true) ∧ Below w.heap.size w w' := by
  by_cases h : a0.size + a1.size ≤ 1048576
  · have hn0 : (norm a0.data.toList).length ≤ 3145728 := by have := norm_length a0.data.toList; simp at this; omega
    have hn1 : (norm a1.data.toList).length ≤ 3145728 := by have := norm_length a1.data.toList; simp at this; omega
    have h47 : (⟨#[47]⟩ : ByteArray).size = 1 := rfl
    go_enter Try.func5, Try.ntmps5
    go_wp2_with (first | (go_at_call 14; refine (bytes_yes _ _ _ h).mono ?_; rintro e w' ⟨rfl, rfl⟩))
    refine (zz_any _ _ (by simp; omega)).mono ?_
    rintro e w2 ⟨rfl, hb2⟩
    go_wp2_with fail
    refine (zz_any _ _ (by omega)).mono ?_
    rintro e w3 ⟨rfl, hb3⟩
    go_wp2_with fail
    refine (zz_any _ _ (by omega)).mono ?_
    rintro e w4 ⟨rfl, hb4⟩
    go_wp2
    go_ret
    refine ⟨ret_b ?_, (hb2.trans (hb3.mono hb2.size)).trans (hb4.mono (Nat.le_trans hb2.size hb3.size))⟩
    go_light
    rw [norm_slash, Lib.toList_data]
    simp
  · go_enter Try.func5, Try.ntmps5
    go_wp2_with (first | (go_at_call 14; refine (bytes_no _ _ _ w0 w1 (by omega)).mono ?_; rintro e w' ⟨rfl, rfl⟩))
    go_ret
    exact ⟨rfl, Below.refl _ _⟩

end Go.Proofs.Qxb6601800a.fnNormalizePercentsSplitsAtSlash
