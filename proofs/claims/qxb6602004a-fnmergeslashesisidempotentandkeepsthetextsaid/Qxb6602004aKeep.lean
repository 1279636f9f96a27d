/-
  Seat b6602004a: rulesB1HasDoubleSlash, rulesB1WithoutSlashes: walked.
-/
import Derived.Test.Qxb6602004aSegWalk
namespace Go.Proofs.Qxb6602004a
open Go.RowKit

theorem dbl_step (s : ByteArray) (j : Nat) (h : j + 1 < s.size) : dbl (s.data.toList.drop j) = ((s[j] == 47 && s[j + 1] == 47) || dbl (s.data.toList.drop (j + 1))) := by
  rw [drop_at s j (by omega), drop_at s (j + 1) h]
  rfl

theorem dbl_end (s : ByteArray) (j : Nat) (h : s.size ≤ j + 1) : dbl (s.data.toList.drop j) = false := by
  have hl : (s.data.toList.drop j).length ≤ 1 := by simp; omega
  match s.data.toList.drop j, hl with
  | [], _ => rfl
  | [_], _ => rfl
  | _ :: _ :: _, h => simp at h

set_option maxHeartbeats 2000000 in
set_option maxRecDepth 100000 in
theorem dbl_any (s : ByteArray) (w : World) (hs : s.size ≤ 4194304) :
    Calls Try.prog 9 #[.string s] w fun e w' => e = .returned (.bool (dbl s.data.toList)) ∧ w = w' := by
  go_enter Try.func9, Try.ntmps9
  go_wp2
  go_loop [3] (fun i => ∃ j : Nat, i = .int .i64 ((j : Int) + 1) ∧ j ≤ s.size ∧ Hid (dbl s.data.toList = dbl (s.data.toList.drop j))) (fun i => s.size + 1 - (intOf i).toNat)
  case atStart => exact ⟨0, rfl, by omega, by unfold Hid; simp⟩
  case round =>
    obtain ⟨j, rfl, hj, HD⟩ := hrel
    by_cases hlt : j + 1 < s.size
    · have hd := dbl_step s j hlt
      by_cases h1 : s[j + 1] = 47
      · by_cases h0 : s[j] = 47
        · have H' : Hid (dbl s.data.toList = true) := by unfold Hid; rw [HD.out, hd, h0, h1]; rfl
          clear hd
          go_wp2
          go_ret
          exact ⟨by rw [H'.out]; rfl, rfl⟩
        · have H' : Hid (dbl s.data.toList = dbl (s.data.toList.drop (j + 1))) := by
            have e : (s[j] == 47) = false := by simpa using h0
            unfold Hid; rw [HD.out, hd, e, Bool.false_and, Bool.false_or]
          have hn0 : ¬ s[j].toNat = 47 := fun h => h0 (UInt8.toNat_inj.1 h)
          clear hd h0
          go_wp2
          go_round
          case rel => exact ⟨j + 1, by go_num, by omega, H'⟩
          case measure => simp [intOf]; omega
      · have H' : Hid (dbl s.data.toList = dbl (s.data.toList.drop (j + 1))) := by
          have e : (s[j + 1] == 47) = false := by simpa using h1
          unfold Hid; rw [HD.out, hd, e, Bool.and_false, Bool.false_or]
        have hn1 : ¬ s[j + 1].toNat = 47 := fun h => h1 (UInt8.toNat_inj.1 h)
        clear hd h1
        go_wp2
        go_round
        case rel => exact ⟨j + 1, by go_num, by omega, H'⟩
        case measure => simp [intOf]; omega
    · have H' : Hid (dbl s.data.toList = false) := by unfold Hid; rw [HD.out, dbl_end s j (by omega)]
      go_wp2
      go_ret
      exact ⟨by rw [H'.out]; rfl, rfl⟩

set_option maxHeartbeats 2000000 in
set_option maxRecDepth 100000 in
theorem bare_any (s : ByteArray) (w : World) (hs : s.size ≤ 4194304) :
    Calls Try.prog 10 #[.string s] w fun e w' => e = .returned (.string ⟨(bare s.data.toList).toArray⟩) ∧ Below w.heap.size w w' := by
  obtain ⟨i0, hi, hz0, hz1, hz2⟩ := byte_parts
  go_enter Try.func10, Try.ntmps10
  go_wp2_with (at_make; refine wpList_make_own _ rfl _ _ 24 rfl w.heap.size 5 i0 (.int .u8 0) 1 Try.underlying24 hi hz0 hz1 _ _ _ s.size rfl rfl rfl ?b2 ?b3 (Nat.le_refl _) ?_)
  case b2 => first | omega | (rw [hz2]; omega)
  case b3 => unfold maxLen; omega
  intro w0 hown0 hgrow0
  go_wp2
  go_loopw [3, 4] (fun out i wr => ∃ (k : Nat) (acc : List UInt8), i = .int .i64 k ∧ k ≤ s.size ∧ Hid (bare (s.data.toList.take k) = acc) ∧ acc.length ≤ 4194304 ∧ wr.ownsRow w.heap.size 5 1 out acc.length (Lib.byteCells acc) ∧ Below w.heap.size w wr) (fun _ i _ => s.size - (intOf i).toNat)
  case atStart => exact ⟨0, [], rfl, Nat.zero_le _, by unfold Hid; simp [bare], by simp, hown0, (Below.refl _ _).grown hgrow0 (Nat.le_refl _) (by simp)⟩
  case round =>
    clear hown0 hgrow0
    obtain ⟨k, acc, rfl, hk, HE, hacc, hown, hb⟩ := hrel
    have hbs := hb.size
    by_cases hlt : k < s.size
    · have ht := take_one _ _ _ (list_at s k hlt)
      by_cases hc : s[k] = 47
      · have H' : Hid (bare (s.data.toList.take (k + 1)) = acc) := by
          unfold Hid; rw [ht, hc, ← HE.out]; simp [bare]
        clear ht
        go_wp2
        go_roundw
        case rel => exact ⟨k + 1, acc, by go_num, by omega, H', hacc, hown, hb⟩
        case measure => simp [intOf]; omega
      · have H' : Hid (bare (s.data.toList.take (k + 1)) = acc ++ [s[k]]) := by
          unfold Hid; rw [ht, ← HE.out]; simp [bare, hc]
        have hal : (acc ++ [s[k]]).length ≤ s.size := by
          rw [← H'.out]
          refine Nat.le_trans (List.length_filter_le _ _) ?_
          simp
          omega
        have hcn : ¬ s[k].toNat = 47 := fun h => hc (UInt8.toNat_inj.1 h)
        clear ht hc
        go_wp2_with (at_builtin; refine wpList_append_own _ rfl _ _ 24 rfl w.heap.size 5 i0 (.int .u8 0) 1 1 Try.underlying24 hi hz0 hz1 hz2 rfl (by decide) _ _ _ rfl (hown.alloc _) ⟨wr.heap.size, 0, none⟩ 1 1 [.int .u8 (s[k].toNat : Int)] rfl rfl (cell_one_new _ _ _) (by intro u hu; simp at hu; subst hu; rfl) (by unfold maxLen; omega) (by omega) (by simp; omega) ?_)
        intro v' w2 hown' hgrow' _
        go_wp2
        go_roundw
        case rel =>
          have hr := step_row (x := [s[k]]) hb hbs hown hown' hgrow'
          exact ⟨k + 1, _, by go_num, by omega, H', by omega, hr.1, hr.2⟩
        case measure => simp [intOf]; omega
    · have HF : Hid (bare s.data.toList = acc) := by
        unfold Hid; rw [← HE.out, List.take_of_length_le (by simp; omega)]
      have hcv : (convert 24 9 u3).run Try.prog wr = .ok (.string ⟨acc.toArray⟩) wr := row_string hown
      go_wp2
      go_ret
      exact ⟨by rw [HF.out]; rfl, hb⟩

end Go.Proofs.Qxb6602004a
