/-
  Seat b6601800a: the law FnStripPrefixCommutesWithNormalizing, walked.
-/
import Derived.Test.Qxb6601800aStrip
import Derived.Test.Qxb6601800aSplitWalk
namespace Go.Proofs.Qxb6601800a.fnStripPrefixCommutesWithNormalizing
open Go.RowKit

set_option maxHeartbeats 1000000 in
theorem bytes_yes (a0 a1 : ByteArray) (w : World) (h : a0.size + a1.size ≤ 1048576) :
    Calls Try.prog 18 #[.string a0, .string a1] w fun e w' => e = .returned (.bool true) ∧ w = w' := by
  go_enter Try.func18, Try.ntmps18
  go_wp2
  go_ret
  exact ⟨rfl, rfl⟩

set_option maxHeartbeats 1000000 in
theorem bytes_no (a0 a1 : ByteArray) (w : World) (w0 : a0.size ≤ maxLen) (w1 : a1.size ≤ maxLen) (h : 1048576 < a0.size + a1.size) :
    Calls Try.prog 18 #[.string a0, .string a1] w fun e w' => e = .returned (.bool false) ∧ w = w' := by
  unfold maxLen at w0 w1
  go_enter Try.func18, Try.ntmps18
  go_wp2
  all_goals
    go_ret
    exact ⟨rfl, rfl⟩

set_option maxHeartbeats 1000000 in
theorem walk (a0 : ByteArray) (a1 : ByteArray) (w0 : a0.size ≤ maxLen) (w1 : a1.size ≤ maxLen) (w : World) :
    Calls Try.prog 8 #[.string a0, .string a1] w fun e w' => e = .returned (.bool true) ∧ Below w.heap.size w w' := by
  by_cases h : a0.size + a1.size ≤ 1048576
  · have hn0 : (norm a0.data.toList).length ≤ 3145728 := by have := norm_length a0.data.toList; simp at this; omega
    have hs0 : (strip a0.data.toList a1.data.toList).length ≤ 1048577 := by have := strip_length a0.data.toList a1.data.toList; simp at this; omega
    go_enter Try.func8, Try.ntmps8
    go_wp2_with (first | (go_at_call 18; refine (bytes_yes _ _ _ h).mono ?_; rintro e w' ⟨rfl, rfl⟩))
    refine (strip_any _ _ _ (by omega) (by omega)).mono ?_
    rintro e w2 ⟨rfl, hb2⟩
    go_wp2_with fail
    refine (zz_any _ _ (by show (strip a0.data.toList a1.data.toList).toArray.size ≤ _; simp; omega)).mono ?_
    rintro e w3 ⟨rfl, hb3⟩
    go_wp2_with fail
    refine (zz_any _ _ (by omega)).mono ?_
    rintro e w4 ⟨rfl, hb4⟩
    go_wp2_with fail
    refine (strip_any _ _ _ (by show (norm a0.data.toList).toArray.size ≤ _; simp; omega) (by omega)).mono ?_
    rintro e w5 ⟨rfl, hb5⟩
    go_wp2
    go_ret
    refine ⟨ret_b ?_, ((hb2.trans (hb3.mono hb2.size)).trans (hb4.mono (Nat.le_trans hb2.size hb3.size))).trans (hb5.mono (Nat.le_trans (Nat.le_trans hb2.size hb3.size) hb4.size))⟩
    go_light
    simp [strip_norm]
  · go_enter Try.func8, Try.ntmps8
    go_wp2_with (first | (go_at_call 18; refine (bytes_no _ _ _ w0 w1 (by omega)).mono ?_; rintro e w' ⟨rfl, rfl⟩))
    go_ret
    exact ⟨rfl, Below.refl _ _⟩

end Go.Proofs.Qxb6601800a.fnStripPrefixCommutesWithNormalizing
