/-
  Seat b6602109a: splitAuthority, walked: four ways.
-/
import Derived.Test.Qxb6602109aLeaf
namespace Go.Proofs.Qxb6602109a
open Go.RowKit

set_option maxHeartbeats 1000000 in
/-- '[' and no ']' -/
theorem split_refused (s : ByteArray) (w : World) (h1 : starts s.data.toList 91 = true) (h2 : Lib.indexByte s.data.toList 93 < 0) :
    Calls Try.prog 24 #[.string s] w fun e w' => e = .returned (.tuple #[.string ⟨#[]⟩, .string ⟨#[]⟩, .bool false]) ∧ w = w' := by
  obtain ⟨i, hi⟩ : ∃ i, Lib.indexByte s.data.toList 93 = i := ⟨_, rfl⟩
  have hp : ∀ w, Calls Try.prog 25 #[.string s, .string ⟨#[91]⟩] w fun e w' => e = .returned (.bool true) ∧ w = w' := fun w => by rw [← h1]; exact hasPrefix_one s 91 w
  have hx : ∀ w, Calls Try.prog 26 #[.string s, .int .u8 93] w fun e w' => e = .returned (.int .i64 i) ∧ w = w' := fun w => by rw [← hi]; exact indexByte_any s 93 w
  rw [hi] at h2
  clear hi h1
  go_enter Try.func24, Try.ntmps24
  go_wp2_with (first | (go_at_call 25; refine (hp _).mono ?_; rintro e w' ⟨rfl, rfl⟩) | (go_at_call 26; refine (hx _).mono ?_; rintro e w' ⟨rfl, rfl⟩))
  go_ret3
  exact ⟨rfl, rfl⟩

set_option maxHeartbeats 1000000 in
/-- '[' and ']' at e -/
theorem split_literal (s : ByteArray) (e0 : Nat) (w : World) (_hs : s.size ≤ 4194304) (hlt : e0 < s.size) (h1 : starts s.data.toList 91 = true) (h2 : Lib.indexByte s.data.toList 93 = (e0 : Int)) :
    Calls Try.prog 24 #[.string s] w fun e w' => e = .returned (.tuple #[.string (s.extract 0 (e0 + 1)), .string (s.extract (e0 + 1) s.size), .bool true]) ∧ Below w.heap.size w w' := by
  have hp : ∀ w, Calls Try.prog 25 #[.string s, .string ⟨#[91]⟩] w fun e w' => e = .returned (.bool true) ∧ w = w' := fun w => by rw [← h1]; exact hasPrefix_one s 91 w
  have hx : ∀ w, Calls Try.prog 26 #[.string s, .int .u8 93] w fun e w' => e = .returned (.int .i64 (e0 : Int)) ∧ w = w' := fun w => by rw [← h2]; exact indexByte_any s 93 w
  clear h1 h2
  go_enter Try.func24, Try.ntmps24
  go_wp2_with (first | (go_at_call 25; refine (hp _).mono ?_; rintro e w' ⟨rfl, rfl⟩) | (go_at_call 26; refine (hx _).mono ?_; rintro e w' ⟨rfl, rfl⟩))
  go_quiet (fail)
  go_wp2
  go_ret3
  exact ⟨rfl, below_drewN (Below.refl _ _) _⟩

set_option maxHeartbeats 1000000 in
/-- no '['; ':' at i -/
theorem split_port (s : ByteArray) (i : Nat) (w : World) (_hs : s.size ≤ 4194304) (hlt : i < s.size) (h1 : starts s.data.toList 91 = false) (h2 : Lib.indexByte s.data.toList 58 = (i : Int)) :
    Calls Try.prog 24 #[.string s] w fun e w' => e = .returned (.tuple #[.string (s.extract 0 i), .string (s.extract i s.size), .bool true]) ∧ Below w.heap.size w w' := by
  have hp : ∀ w, Calls Try.prog 25 #[.string s, .string ⟨#[91]⟩] w fun e w' => e = .returned (.bool false) ∧ w = w' := fun w => by rw [← h1]; exact hasPrefix_one s 91 w
  have hx : ∀ w, Calls Try.prog 26 #[.string s, .int .u8 58] w fun e w' => e = .returned (.int .i64 (i : Int)) ∧ w = w' := fun w => by rw [← h2]; exact indexByte_any s 58 w
  clear h1 h2
  go_enter Try.func24, Try.ntmps24
  go_wp2_with (first | (go_at_call 25; refine (hp _).mono ?_; rintro e w' ⟨rfl, rfl⟩) | (go_at_call 26; refine (hx _).mono ?_; rintro e w' ⟨rfl, rfl⟩))
  go_quiet (fail)
  go_wp2
  go_ret3
  exact ⟨rfl, below_drewN (Below.refl _ _) _⟩

set_option maxHeartbeats 1000000 in
/-- no '[' and no ':' -/
theorem split_whole (s : ByteArray) (w : World) (h1 : starts s.data.toList 91 = false) (h2 : Lib.indexByte s.data.toList 58 < 0) :
    Calls Try.prog 24 #[.string s] w fun e w' => e = .returned (.tuple #[.string s, .string ⟨#[]⟩, .bool true]) ∧ Below w.heap.size w w' := by
  obtain ⟨i, hi⟩ : ∃ i, Lib.indexByte s.data.toList 58 = i := ⟨_, rfl⟩
  have hp : ∀ w, Calls Try.prog 25 #[.string s, .string ⟨#[91]⟩] w fun e w' => e = .returned (.bool false) ∧ w = w' := fun w => by rw [← h1]; exact hasPrefix_one s 91 w
  have hx : ∀ w, Calls Try.prog 26 #[.string s, .int .u8 58] w fun e w' => e = .returned (.int .i64 i) ∧ w = w' := fun w => by rw [← hi]; exact indexByte_any s 58 w
  rw [hi] at h2
  clear hi h1
  go_enter Try.func24, Try.ntmps24
  go_wp2_with (first | (go_at_call 25; refine (hp _).mono ?_; rintro e w' ⟨rfl, rfl⟩) | (go_at_call 26; refine (hx _).mono ?_; rintro e w' ⟨rfl, rfl⟩))
  go_ret3
  exact ⟨rfl, Below.refl _ _⟩

end Go.Proofs.Qxb6602109a
