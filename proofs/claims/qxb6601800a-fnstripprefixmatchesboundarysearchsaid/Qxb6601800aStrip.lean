/-
  Seat b6601800a: strings.Count at one byte, StripPrefix: walked.
-/
import Derived.Test.Qxb6601800aNorm
import Derived.Test.Qxb6601800aPlain2
namespace Go.Proofs.Qxb6601800a
open Go.RowKit

set_option maxHeartbeats 1000000 in
set_option maxRecDepth 100000 in
theorem count_one (s : ByteArray) (c : UInt8) (w : World) :
    Calls Try.prog 27 #[.string s, .string ⟨#[c]⟩] w fun e w' => e = .returned (.int .i64 (Lib.countByte s.data.toList c)) ∧ w = w' := by
  go_enter Try.func27, Try.ntmps27
  go_wp2
  rw [run_callFunc_extern Try.func38 (by kernel_rfl) (by kernel_rfl) (by kernel_rfl) (e := Extern.BytealgCount.count) (by kernel_rfl), Lib.run_countString]
  simp only [Result.andThen]
  rw [Oper.upon_value]
  go_wp2
  go_ret
  exact ⟨rfl, rfl⟩

theorem isEmpty_of (q : ByteArray) : q.toList.isEmpty = decide (q.data.toList = []) := by
  rw [Lib.toList_data]
  cases q.data.toList <;> simp

set_option maxHeartbeats 1000000 in
theorem strip_empty (s q : ByteArray) (w : World) (h : q.data.toList = []) :
    Calls Try.prog 16 #[.string s, .string q] w fun e w' => e = .returned (.string s) ∧ Below w.heap.size w w' := by
  have he : q.toList.isEmpty = true := by rw [isEmpty_of]; simp [h]
  go_enter Try.func16, Try.ntmps16
  go_wp2
  go_ret
  exact ⟨rfl, Below.refl _ _⟩

theorem ext_take (s : ByteArray) (a b : Nat) : s.extract a b = ⟨((s.data.toList.drop a).take (b - a)).toArray⟩ := by
  apply ByteArray.ext
  apply Array.ext'
  rw [Lib.extract_data]

theorem ext_tail (s : ByteArray) (k : Nat) : s.extract k s.size = ⟨(s.data.toList.drop k).toArray⟩ := by
  rw [ext_take, List.take_of_length_le (by simp)]

set_option maxHeartbeats 2000000 in
set_option maxRecDepth 100000 in
theorem strip_some (s q : ByteArray) (w : World) (hs : s.size ≤ 4194304) (hq : q.size ≤ 4194304) (h : q.data.toList ≠ []) :
    Calls Try.prog 16 #[.string s, .string q] w fun e w' => e = .returned (.string ⟨(strip s.data.toList q.data.toList).toArray⟩) ∧ Below w.heap.size w w' := by
  have he : q.toList.isEmpty = false := by rw [isEmpty_of]; simp [h]
  obtain ⟨n0, hn0⟩ : ∃ n0 : Nat, q.data.toList.count 47 = n0 := ⟨_, rfl⟩
  have hcnt : ∀ w, Calls Try.prog 27 #[.string q, .string ⟨#[47]⟩] w fun e w' => e = .returned (.int .i64 (n0 : Int)) ∧ w = w' := by
    intro w
    have h1 := count_one q 47 w
    unfold Lib.countByte at h1
    rw [hn0] at h1
    exact h1
  have HN : Hid (q.data.toList.count 47 = n0) := hn0
  have hnle : n0 ≤ 4194304 := by have := List.count_le_length (a := (47 : UInt8)) (l := q.data.toList); rw [hn0] at this; simp at this; omega
  clear hn0
  go_enter Try.func16, Try.ntmps16
  go_wp2_with (first | (go_at_call 27; refine (hcnt _).mono ?_; rintro e w' ⟨rfl, rfl⟩))
  go_loop [5, 6] (fun e t => ∃ k n : Nat, k ≤ s.size ∧ e = .int .i64 k ∧ t = .int .i64 n ∧ n ≤ 4194304 ∧ k + cut n (s.data.toList.drop k) = cut n0 s.data.toList) (fun e _ => s.size - (intOf e).toNat)
  case atStart => exact ⟨0, n0, Nat.zero_le _, rfl, rfl, hnle, by simp⟩
  case round =>
    obtain ⟨k, n, hk, rfl, rfl, hn, hcut⟩ := hrel
    have HC : Hid (k + cut n (s.data.toList.drop k) = cut n0 s.data.toList) := hcut
    clear hcut
    have tail : k = cut n0 s.data.toList → ∃ A B : List UInt8, (∀ w, Calls Try.prog 23 #[.string (s.extract 0 k)] w fun e w' => e = .returned (.string ⟨A.toArray⟩) ∧ Below w.heap.size w w') ∧
        (∀ w, Calls Try.prog 23 #[.string q] w fun e w' => e = .returned (.string ⟨B.toArray⟩) ∧ Below w.heap.size w w') ∧
        strip s.data.toList q.data.toList = (if A = B then (if k = s.size then [47] else s.data.toList.drop k) else s.data.toList) := by
      intro hkk
      refine ⟨_, _, fun w => norm_any (s.extract 0 k) w (by simp; omega), fun w => norm_any q w hq, ?_⟩
      unfold strip
      rw [if_neg h, HN.out, ← hkk, Lib.extract_data]
      simp
    by_cases hlt : k < s.size
    · have hd := drop_at s k hlt
      by_cases hc : s[k] = 47
      · rw [hc] at hd
        cases n with
        | zero =>
          have hkk : k = cut n0 s.data.toList := by have := HC.out; rw [hd, cut_here] at this; exact this
          obtain ⟨A, B, hA, hB, hst⟩ := tail hkk
          have hks : ¬ k = s.size := by omega
          have hkb : ((k : Int) == (s.size : Int)) = false := by simp; omega
          clear hd
          by_cases hAB : A = B
          · subst hAB
            have HS : Hid (strip s.data.toList q.data.toList = s.data.toList.drop k) := by unfold Hid; rw [hst, if_pos rfl, if_neg hks]
            clear tail hkk hst hks
            go_wp2_with fail
            refine (hA _).mono ?_
            rintro e w2 ⟨rfl, hb2⟩
            go_wp2_with fail
            refine (hB _).mono ?_
            rintro e w3 ⟨rfl, hb3⟩
            go_wp2
            go_ret
            refine ⟨?_, hb2.trans (hb3.mono hb2.size)⟩
            rw [HS.out]
            rw [← ext_tail]; rfl
          · have hne : (A == B) = false := by simpa using hAB
            have HS : Hid (strip s.data.toList q.data.toList = s.data.toList) := by unfold Hid; rw [hst, if_neg hAB]
            clear tail hkk hst hks
            go_wp2_with fail
            refine (hA _).mono ?_
            rintro e w2 ⟨rfl, hb2⟩
            go_wp2_with fail
            refine (hB _).mono ?_
            rintro e w3 ⟨rfl, hb3⟩
            go_wp2
            go_ret
            refine ⟨?_, hb2.trans (hb3.mono hb2.size)⟩
            rw [HS.out]
            rfl
        | succ n =>
          have hst : k + 1 + cut n (s.data.toList.drop (k + 1)) = cut n0 s.data.toList := by have := HC.out; rw [hd, cut_slash] at this; omega
          have HS : Hid (k + 1 + cut n (s.data.toList.drop (k + 1)) = cut n0 s.data.toList) := hst
          clear hd tail hst
          go_wp2
          go_round
          case rel => exact ⟨k + 1, n, by omega, by go_num, by go_num, by omega, HS.out⟩
          case measure => simp [intOf]; omega
      · have hst : k + 1 + cut n (s.data.toList.drop (k + 1)) = cut n0 s.data.toList := by have := HC.out; rw [hd, cut_other _ _ _ hc] at this; omega
        have HS : Hid (k + 1 + cut n (s.data.toList.drop (k + 1)) = cut n0 s.data.toList) := hst
        have hcn : ¬ s[k].toNat = 47 := fun h => hc (UInt8.toNat_inj.1 h)
        clear hd tail hst hc
        go_wp2
        go_round
        case rel => exact ⟨k + 1, n, by omega, by go_num, rfl, hn, HS.out⟩
        case measure => simp [intOf]; omega
    · have hkk : k = cut n0 s.data.toList := by have := HC.out; rw [List.drop_of_length_le (by simp; omega), cut_nil] at this; exact this
      obtain ⟨A, B, hA, hB, hst⟩ := tail hkk
      have hks : k = s.size := by omega
      have hkb : ((k : Int) == (s.size : Int)) = true := by simp; omega
      by_cases hAB : A = B
      · subst hAB
        have HS : Hid (strip s.data.toList q.data.toList = [47]) := by unfold Hid; rw [hst, if_pos rfl, if_pos hks]
        clear tail hkk hst hks
        go_wp2_with fail
        refine (hA _).mono ?_
        rintro e w2 ⟨rfl, hb2⟩
        go_wp2_with fail
        refine (hB _).mono ?_
        rintro e w3 ⟨rfl, hb3⟩
        go_wp2
        go_ret
        refine ⟨?_, hb2.trans (hb3.mono hb2.size)⟩
        rw [HS.out]
        rfl
      · have hne : (A == B) = false := by simpa using hAB
        have HS : Hid (strip s.data.toList q.data.toList = s.data.toList) := by unfold Hid; rw [hst, if_neg hAB]
        clear tail hkk hst hks
        go_wp2_with fail
        refine (hA _).mono ?_
        rintro e w2 ⟨rfl, hb2⟩
        go_wp2_with fail
        refine (hB _).mono ?_
        rintro e w3 ⟨rfl, hb3⟩
        go_wp2
        go_ret
        refine ⟨?_, hb2.trans (hb3.mono hb2.size)⟩
        rw [HS.out]
        rfl

theorem strip_any (s q : ByteArray) (w : World) (hs : s.size ≤ 4194304) (hq : q.size ≤ 4194304) :
    Calls Try.prog 16 #[.string s, .string q] w fun e w' => e = .returned (.string ⟨(strip s.data.toList q.data.toList).toArray⟩) ∧ Below w.heap.size w w' := by
  by_cases h : q.data.toList = []
  · refine (strip_empty s q w h).mono fun e w' ⟨h1, h2⟩ => ⟨?_, h2⟩
    rw [h1]
    unfold strip
    rw [if_pos h]
  · exact strip_some s q w hs hq h

theorem strip_length (P Q : List UInt8) : (strip P Q).length ≤ P.length + 1 := by
  unfold strip
  split
  · omega
  · split
    · split
      · simp
      · simp; omega
    · omega

end Go.Proofs.Qxb6601800a
