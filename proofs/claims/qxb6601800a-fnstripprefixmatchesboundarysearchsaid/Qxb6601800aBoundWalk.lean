/-
  Seat b6601800a: the law FnStripPrefixMatchesBoundarySearch, walked.
-/
import Derived.Test.Qxb6601800aStrip
import Derived.Test.Qxb6601800aModel
import Derived.Test.Qxb6601800aPlain3
namespace Go.Proofs.Qxb6601800a.fnStripPrefixMatchesBoundarySearch
open Go.RowKit

set_option maxHeartbeats 1000000 in
theorem bytes_yes (a0 a1 : ByteArray) (w : World) (h : a0.size + a1.size ≤ 1048576) :
    Calls Try.prog 15 #[.string a0, .string a1] w fun e w' => e = .returned (.bool true) ∧ w = w' := by
  go_enter Try.func15, Try.ntmps15
  go_wp2
  go_ret
  exact ⟨rfl, rfl⟩

set_option maxHeartbeats 1000000 in
theorem bytes_no (a0 a1 : ByteArray) (w : World) (w0 : a0.size ≤ maxLen) (w1 : a1.size ≤ maxLen) (h : 1048576 < a0.size + a1.size) :
    Calls Try.prog 15 #[.string a0, .string a1] w fun e w' => e = .returned (.bool false) ∧ w = w' := by
  unfold maxLen at w0 w1
  go_enter Try.func15, Try.ntmps15
  go_wp2
  all_goals
    go_ret
    exact ⟨rfl, rfl⟩


theorem bnd_at (s : ByteArray) (k : Nat) (h : k < s.size) (hc : s[k] = 47) : Bnd s.data.toList k :=
  ⟨by simp; omega, .inr ⟨_, by rw [drop_at s k h, hc]⟩⟩
theorem bnd_end (s : ByteArray) : Bnd s.data.toList s.size := ⟨by simp, .inl (by rw [List.drop_of_length_le (by simp)])⟩
theorem not_bnd (s : ByteArray) (k : Nat) (h : k < s.size) (hc : s[k] ≠ 47) : ¬ Bnd s.data.toList k := by
  rintro ⟨_, h1 | ⟨R', h1⟩⟩
  · rw [drop_at s k h] at h1; cases h1
  · rw [drop_at s k h] at h1
    exact hc (List.cons.inj h1).1

set_option maxHeartbeats 2000000 in
set_option maxRecDepth 100000 in
theorem walk_some (a0 : ByteArray) (a1 : ByteArray) (w : World) (h : a0.size + a1.size ≤ 1048576) (hp : a0.size ≤ 4096) (hq : a1.data.toList ≠ []) :
    Calls Try.prog 6 #[.string a0, .string a1] w fun e w' => e = .returned (.bool true) ∧ Below w.heap.size w w' := by
  have he : a1.toList.isEmpty = false := by rw [isEmpty_of]; simp [hq]
  obtain ⟨G, hG⟩ : ∃ G, strip a0.data.toList a1.data.toList = G := ⟨_, rfl⟩
  obtain ⟨W, hW⟩ : ∃ W, norm a1.data.toList = W := ⟨_, rfl⟩
  have hcG : ∀ w, Calls Try.prog 16 #[.string a0, .string a1] w fun e w' => e = .returned (.string ⟨G.toArray⟩) ∧ Below w.heap.size w w' := fun w => by rw [← hG]; exact strip_any _ _ w (by omega) (by omega)
  have hcW : ∀ w, Calls Try.prog 12 #[.string a1] w fun e w' => e = .returned (.string ⟨W.toArray⟩) ∧ Below w.heap.size w w' := fun w => by rw [← hW]; exact model_any _ w (by omega)
  have HG : Hid (strip a0.data.toList a1.data.toList = G) := hG
  have HW : Hid (norm a1.data.toList = W) := hW
  clear hG hW
  go_enter Try.func6, Try.ntmps6
  go_wp2_with (first | (go_at_call 15; refine (bytes_yes _ _ _ h).mono ?_; rintro e w' ⟨rfl, rfl⟩))
  refine (hcG _).mono ?_
  rintro e w2 ⟨rfl, hb2⟩
  go_wp2_with fail
  refine (hcW _).mono ?_
  rintro e w3 ⟨rfl, hb3⟩
  have hb : Below w.heap.size w w3 := hb2.trans (hb3.mono hb2.size)
  clear hb2 hb3 hcG hcW
  go_wp2
  go_loopw [7] (fun e wr => ∃ k : Nat, e = .int .i64 k ∧ k ≤ a0.size + 1 ∧ Hid (NoneTo a0.data.toList a1.data.toList k) ∧ Below w.heap.size w wr) (fun e _ => a0.size + 1 - (intOf e).toNat)
  case atStart => exact ⟨0, rfl, by omega, none_start _ _, hb⟩
  case round =>
    clear hb
    obtain ⟨k, rfl, hk, HI, hb⟩ := hrel
    have hmod : k ≤ a0.size → ∃ A, Hid (norm (a0.data.toList.take k) = A) ∧ ∀ w, Calls Try.prog 12 #[.string (a0.extract 0 k)] w fun e w' => e = .returned (.string ⟨A.toArray⟩) ∧ Below w.heap.size w w' := by
      intro hle
      refine ⟨_, rfl, fun w => ?_⟩
      have h1 := model_any (a0.extract 0 k) w (by simp; omega)
      rw [Lib.extract_data] at h1
      simpa using h1
    by_cases hlt : k < a0.size
    · by_cases hc : a0[k] = 47
      · have hbd := bnd_at a0 k hlt hc
        obtain ⟨A, HA, hcA⟩ := hmod (by omega)
        by_cases hAW : A = W
        · subst hAW
          have hGv : G = a0.data.toList.drop k := by
            rw [← HG.out, strip_match hq hbd (by rw [HA.out, HW.out]), if_neg (by simp; omega)]
          have HV : Hid (G = a0.data.toList.drop k) := hGv
          have hkb : ((k : Int) == (a0.size : Int)) = false := by simp; omega
          clear hGv hmod
          go_wp2_with fail
          refine (hcA _).mono ?_
          rintro e w4 ⟨rfl, hb4⟩
          go_wp2
          go_ret
          refine ⟨ret_b ?_, hb.trans (hb4.mono hb.size)⟩
          rw [HV.out, ext_tail]
          simp
        · have hne : (A == W) = false := by simpa using hAW
          have HI' : Hid (NoneTo a0.data.toList a1.data.toList (k + 1)) := none_next HI.out (fun _ => by rw [HA.out, HW.out]; exact hAW)
          clear hmod
          go_wp2_with fail
          refine (hcA _).mono ?_
          rintro e w4 ⟨rfl, hb4⟩
          go_wp2
          go_roundw
          case rel => exact ⟨k + 1, by go_num, by omega, HI', hb.trans (hb4.mono hb.size)⟩
          case measure => simp [intOf]; omega
      · have hcn : ¬ a0[k].toNat = 47 := fun h => hc (UInt8.toNat_inj.1 h)
        have HI' : Hid (NoneTo a0.data.toList a1.data.toList (k + 1)) := none_next HI.out (fun hb => absurd hb (not_bnd a0 k hlt hc))
        clear hmod hc
        go_wp2
        go_roundw
        case rel => exact ⟨k + 1, by go_num, by omega, HI', hb⟩
        case measure => simp [intOf]; omega
    · by_cases hle : k ≤ a0.size
      · obtain rfl : k = a0.size := by omega
        have hbd := bnd_end a0
        obtain ⟨A, HA, hcA⟩ : ∃ A, Hid (norm (a0.data.toList.take a0.size) = A) ∧ ∀ w, Calls Try.prog 12 #[.string a0] w fun e w' => e = .returned (.string ⟨A.toArray⟩) ∧ Below w.heap.size w w' := by
          refine ⟨_, rfl, fun w => ?_⟩
          rw [List.take_of_length_le (by simp)]
          exact model_any a0 w (by omega)
        by_cases hAW : A = W
        · subst hAW
          have hGv : G = [47] := by
            rw [← HG.out, strip_match hq hbd (by rw [HA.out, HW.out]), if_pos (by simp)]
          have HV : Hid (G = [47]) := hGv
          clear hGv hmod
          go_wp2_with fail
          refine (hcA _).mono ?_
          rintro e w4 ⟨rfl, hb4⟩
          go_wp2
          go_ret
          refine ⟨ret_b ?_, hb.trans (hb4.mono hb.size)⟩
          rw [HV.out]
          rfl
        · have hne : (A == W) = false := by simpa using hAW
          have HI' : Hid (NoneTo a0.data.toList a1.data.toList (a0.size + 1)) := none_next HI.out (fun _ => by rw [HA.out, HW.out]; exact hAW)
          clear hmod
          go_wp2_with fail
          refine (hcA _).mono ?_
          rintro e w4 ⟨rfl, hb4⟩
          go_wp2
          go_roundw
          case rel => exact ⟨a0.size + 1, by go_num, by omega, HI', hb.trans (hb4.mono hb.size)⟩
          case measure => simp [intOf]
      · have hGv : G = a0.data.toList := by
          rw [← HG.out]
          refine strip_none ?_
          have h1 := HI.out
          rw [show k = a0.size + 1 by omega] at h1
          simpa using h1
        have HV : Hid (G = a0.data.toList) := hGv
        clear hGv hmod
        go_wp2
        go_ret
        refine ⟨ret_b ?_, hb⟩
        rw [HV.out, Lib.toList_data]
        simp

set_option maxHeartbeats 1000000 in
theorem walk_empty (a0 : ByteArray) (a1 : ByteArray) (w : World) (h : a0.size + a1.size ≤ 1048576) (hp : a0.size ≤ 4096) (hq : a1.data.toList = []) :
    Calls Try.prog 6 #[.string a0, .string a1] w fun e w' => e = .returned (.bool true) ∧ Below w.heap.size w w' := by
  have he : a1.toList.isEmpty = true := by rw [isEmpty_of]; simp [hq]
  have hcG : ∀ w, Calls Try.prog 16 #[.string a0, .string a1] w fun e w' => e = .returned (.string a0) ∧ Below w.heap.size w w' := fun w => strip_empty a0 a1 w hq
  clear hq
  go_enter Try.func6, Try.ntmps6
  go_wp2_with (first | (go_at_call 15; refine (bytes_yes _ _ _ h).mono ?_; rintro e w' ⟨rfl, rfl⟩))
  refine (hcG _).mono ?_
  rintro e w2 ⟨rfl, hb2⟩
  go_wp2
  go_ret
  exact ⟨ret_b (by simp), hb2⟩

set_option maxHeartbeats 1000000 in
theorem walk (a0 : ByteArray) (a1 : ByteArray) (w0 : a0.size ≤ maxLen) (w1 : a1.size ≤ maxLen) (w : World) :
    Calls Try.prog 6 #[.string a0, .string a1] w fun e w' => e = .returned (.bool true) ∧ Below w.heap.size w w' := by
  by_cases h : a0.size + a1.size ≤ 1048576
  · by_cases hp : a0.size ≤ 4096
    · by_cases hq : a1.data.toList = []
      · exact walk_empty a0 a1 w h hp hq
      · exact walk_some a0 a1 w h hp hq
    · go_enter Try.func6, Try.ntmps6
      go_wp2_with (first | (go_at_call 15; refine (bytes_yes _ _ _ h).mono ?_; rintro e w' ⟨rfl, rfl⟩))
      go_ret
      exact ⟨rfl, Below.refl _ _⟩
  · go_enter Try.func6, Try.ntmps6
    go_wp2_with (first | (go_at_call 15; refine (bytes_no _ _ _ w0 w1 (by omega)).mono ?_; rintro e w' ⟨rfl, rfl⟩))
    go_ret
    exact ⟨rfl, Below.refl _ _⟩

end Go.Proofs.Qxb6601800a.fnStripPrefixMatchesBoundarySearch
