/-
  Seat b6602004a: the law FnMergeSlashesMatchesSegmentModel, walked.
-/
import Derived.Test.Qxb6602004aSegWalk
namespace Go.Proofs.Qxb6602004a.fnMergeSlashesMatchesSegmentModel
open Go.RowKit

set_option maxHeartbeats 1000000 in
theorem bytes_yes (a0 : ByteArray) (w : World) (h : a0.size ≤ 1048576) :
    Calls Try.prog 5 #[.string a0] w fun e w' => e = .returned (.bool true) ∧ w = w' := by
  go_enter Try.func5, Try.ntmps5
  go_wp2
  go_ret
  exact ⟨rfl, rfl⟩

set_option maxHeartbeats 1000000 in
theorem bytes_no (a0 : ByteArray) (w : World) (w0 : a0.size ≤ maxLen) (h : 1048576 < a0.size) :
    Calls Try.prog 5 #[.string a0] w fun e w' => e = .returned (.bool false) ∧ w = w' := by
  unfold maxLen at w0
  go_enter Try.func5, Try.ntmps5
  go_wp2
  all_goals
    go_ret
    exact ⟨rfl, rfl⟩

set_option maxHeartbeats 1000000 in
theorem walk (a0 : ByteArray) (w0 : a0.size ≤ maxLen) (w : World) (hsh : w.ShapedOpen Try.prog) :
    Calls Try.prog 3 #[.string a0] w fun e w' => e = .returned (.bool true) ∧ Below w.heap.size w w' := by
  obtain ⟨m, hm⟩ := cell_maxLen w hsh
  clear hsh
  by_cases h : a0.size ≤ 1048576
  · go_enter Try.func3, Try.ntmps3
    go_wp2_with (first | (go_at_call 5; refine (bytes_yes _ _ h).mono ?_; rintro e w' ⟨rfl, rfl⟩))
    refine (zz_any _ m _ (by omega) hm).mono ?_
    rintro e w2 ⟨rfl, hb2⟩
    go_wp2_with fail
    refine (model_any _ _ (by omega)).mono ?_
    rintro e w3 ⟨rfl, hb3⟩
    go_wp2
    go_ret
    exact ⟨ret_b (by simp), hb2.trans (hb3.mono hb2.size)⟩
  · go_enter Try.func3, Try.ntmps3
    go_wp2_with (first | (go_at_call 5; refine (bytes_no _ _ w0 (by omega)).mono ?_; rintro e w' ⟨rfl, rfl⟩))
    go_ret
    exact ⟨rfl, Below.refl _ _⟩

end Go.Proofs.Qxb6602004a.fnMergeSlashesMatchesSegmentModel
