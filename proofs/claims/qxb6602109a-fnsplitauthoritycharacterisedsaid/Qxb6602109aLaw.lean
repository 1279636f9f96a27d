/-
  Seat b6602109a: the law FnSplitAuthorityCharacterised, walked.
-/
import Derived.Test.Qxb6602109aSplit
namespace Go.Proofs.Qxb6602109a.fnSplitAuthorityCharacterised
open Go.RowKit

set_option maxHeartbeats 1000000 in
theorem bytes_yes (a0 : ByteArray) (w : World) (h : a0.size ≤ 1048576) :
    Calls Try.prog 16 #[.string a0] w fun e w' => e = .returned (.bool true) ∧ w = w' := by
  go_enter Try.func16, Try.ntmps16
  go_wp2
  go_ret
  exact ⟨rfl, rfl⟩

set_option maxHeartbeats 1000000 in
theorem bytes_no (a0 : ByteArray) (w : World) (w0 : a0.size ≤ maxLen) (h : 1048576 < a0.size) :
    Calls Try.prog 16 #[.string a0] w fun e w' => e = .returned (.bool false) ∧ w = w' := by
  unfold maxLen at w0
  go_enter Try.func16, Try.ntmps16
  go_wp2
  all_goals
    go_ret
    exact ⟨rfl, rfl⟩

/-- the shim -/
theorem zz_of {s : ByteArray} {w : World} {H P : ByteArray} {ok : Bool} (h : ∀ w, Calls Try.prog 24 #[.string s] w fun e w' => e = .returned (.tuple #[.string H, .string P, .bool ok]) ∧ Below w.heap.size w w') :
    Calls Try.prog 17 #[.string s] w fun e w' => e = .returned (.tuple #[.string H, .string P, .bool ok]) ∧ Below w.heap.size w w' := by
  go_enter Try.func17, Try.ntmps17
  go_wp2_with (go_at_call 24; refine (h _).mono ?_; rintro e w' ⟨rfl, hb⟩)
  go_ret3
  exact ⟨rfl, hb⟩

set_option maxHeartbeats 2000000 in
set_option maxRecDepth 100000 in
/-- '[' and no ']' -/
theorem walk_refused (a : ByteArray) (w : World) (h : a.size ≤ 1048576) (h0 : 0 < a.size) (h91 : a[0] = 91)
    (hz : ∀ w, Calls Try.prog 17 #[.string a] w fun e w' => e = .returned (.tuple #[.string ⟨#[]⟩, .string ⟨#[]⟩, .bool false]) ∧ Below w.heap.size w w')
    (hh : ∀ w, Calls Try.prog 18 #[.string a, .int .u8 93] w fun e w' => e = .returned (.bool false) ∧ w = w') :
    Calls Try.prog 6 #[.string a] w fun e w' => e = .returned (.bool true) ∧ Below w.heap.size w w' := by
  go_enter Try.func6, Try.ntmps6
  go_wp2_with (first | (go_at_call 16; refine (bytes_yes _ _ h).mono ?_; rintro e w' ⟨rfl, rfl⟩) | (go_at_call 17; refine (hz _).mono ?_; rintro e w2 ⟨rfl, hb2⟩) | (go_at_call 18; refine (hh _).mono ?_; rintro e w' ⟨rfl, rfl⟩))
  go_ret
  exact ⟨rfl, hb2⟩

set_option maxHeartbeats 2000000 in
set_option maxRecDepth 100000 in
/-- '[' and ']' -/
theorem walk_literal (a H P : ByteArray) (n : Nat) (w : World) (h : a.size ≤ 1048576) (h0 : 0 < a.size) (h91 : a[0] = 91) (hn : 1 ≤ n) (hH : H.size = n + 1) (hP : n + 1 + P.size ≤ a.size) (hP' : a.size ≤ n + 1 + P.size)
    (e1 : a.extract 0 (n + 1) = H) (e2 : a.extract (n + 1) a.size = P)
    (hH0 : H[0] = 91) (hHn : H[n] = 93)
    (hz : ∀ w, Calls Try.prog 17 #[.string a] w fun e w' => e = .returned (.tuple #[.string H, .string P, .bool true]) ∧ Below w.heap.size w w')
    (hh : ∀ w, Calls Try.prog 18 #[.string a, .int .u8 93] w fun e w' => e = .returned (.bool true) ∧ w = w')
    (hh2 : ∀ w, Calls Try.prog 18 #[.string (H.extract 0 n), .int .u8 93] w fun e w' => e = .returned (.bool false) ∧ w = w') :
    Calls Try.prog 6 #[.string a] w fun e w' => e = .returned (.bool true) ∧ Below w.heap.size w w' := by
  go_enter Try.func6, Try.ntmps6
  go_wp2_with (first | (go_at_call 16; refine (bytes_yes _ _ h).mono ?_; rintro e w' ⟨rfl, rfl⟩))
  refine (hz _).mono ?_
  rintro e w2 ⟨rfl, hb2⟩
  go_wp2_with fail
  refine (hh _).mono ?_
  rintro e w' ⟨rfl, rfl⟩
  go_wp2_with fail
  refine (hh2 _).mono ?_
  rintro e w' ⟨rfl, rfl⟩
  go_wp2
  go_ret
  exact ⟨rfl, hb2⟩

set_option maxHeartbeats 2000000 in
set_option maxRecDepth 100000 in
/-- no '[' -/
theorem walk_other (a H P : ByteArray) (w : World) (h : a.size ≤ 1048576) (hbr : ¬ 0 < a.size ∨ ∃ h0 : 0 < a.size, a[0] ≠ 91) (hP : H.size + P.size ≤ a.size) (hP' : a.size ≤ H.size + P.size)
    (e1 : a.extract 0 H.size = H) (e2 : a.extract H.size a.size = P) (hp : P.toList.isEmpty = true ∨ (P.toList.isEmpty = false ∧ ∃ h0 : 0 < P.size, P[0] = 58))
    (hz : ∀ w, Calls Try.prog 17 #[.string a] w fun e w' => e = .returned (.tuple #[.string H, .string P, .bool true]) ∧ Below w.heap.size w w')
    (hh : ∀ w, Calls Try.prog 18 #[.string H, .int .u8 58] w fun e w' => e = .returned (.bool false) ∧ w = w') :
    Calls Try.prog 6 #[.string a] w fun e w' => e = .returned (.bool true) ∧ Below w.heap.size w w' := by
  rcases hbr with h0 | ⟨h0, h91⟩
  · have h0' : ¬ (0 : Int) < a.size := by omega
    rcases hp with hp | ⟨hp, hp0, hp58⟩
    · go_enter Try.func6, Try.ntmps6
      go_wp2_with (first | (go_at_call 16; refine (bytes_yes _ _ h).mono ?_; rintro e w' ⟨rfl, rfl⟩))
      refine (hz _).mono ?_
      rintro e w2 ⟨rfl, hb2⟩
      go_wp2_with fail
      refine (hh _).mono ?_
      rintro e w' ⟨rfl, rfl⟩
      go_wp2
      go_ret
      exact ⟨rfl, hb2⟩
    · exact absurd hp0 (by omega)
  · have hcn : ¬ a[0].toNat = 91 := fun h => h91 (UInt8.toNat_inj.1 h)
    have hcb : ((a[0].toNat : Int) == 91) = false := by rw [beq_eq_false_iff_ne]; omega
    clear h91
    rcases hp with hp | ⟨hp, hp0, hp58⟩
    all_goals
      go_enter Try.func6, Try.ntmps6
      go_wp2_with (first | (go_at_call 16; refine (bytes_yes _ _ h).mono ?_; rintro e w' ⟨rfl, rfl⟩))
      refine (hz _).mono ?_
      rintro e w2 ⟨rfl, hb2⟩
      go_wp2_with fail
      refine (hh _).mono ?_
      rintro e w' ⟨rfl, rfl⟩
      go_wp2
      go_ret
      exact ⟨rfl, hb2⟩

theorem starts_iff (a : ByteArray) (c : UInt8) : starts a.data.toList c = true ↔ ∃ h : 0 < a.size, a[0] = c := by
  have hl : a.data.toList.length = a.size := by simp
  constructor
  · intro h
    have h0 : 0 < a.size := by
      rcases Nat.eq_zero_or_pos a.size with e | e
      · rw [starts_none a c (by omega)] at h; cases h
      · exact e
    refine ⟨h0, ?_⟩
    have e := list_at a 0 h0
    match hL : a.data.toList, h with
    | d :: t, h =>
      rw [hL] at e
      simp [starts] at h
      simp at e
      rw [← e, h]
  · rintro ⟨h0, h⟩
    have e := list_at a 0 h0
    match hL : a.data.toList with
    | [] => rw [hL] at e; simp at e
    | d :: t =>
      rw [hL] at e
      simp at e
      simp [starts, e, h]

theorem walk (a0 : ByteArray) (w0 : a0.size ≤ maxLen) (w : World) :
    Calls Try.prog 6 #[.string a0] w fun e w' => e = .returned (.bool true) ∧ Below w.heap.size w w' := by
  by_cases h : a0.size ≤ 1048576
  · have hl : a0.data.toList.length = a0.size := by simp
    cases hst : starts a0.data.toList 91 with
    | true =>
      obtain ⟨h0, h91⟩ := (starts_iff a0 91).1 hst
      by_cases hx : Lib.indexByte a0.data.toList 93 < 0
      · have hn := idx_neg _ _ hx
        exact walk_refused a0 w h h0 h91 (fun w => zz_of (fun w => (split_refused a0 w hst hx).mono (fun e w' ⟨p, q⟩ => ⟨p, by rw [q]; exact Below.refl _ _⟩))) (fun w => hasByte_any a0 93 w (by omega) false (by simpa using hn))
      · obtain ⟨n, hxn⟩ : ∃ n : Nat, Lib.indexByte a0.data.toList 93 = (n : Int) := ⟨(Lib.indexByte a0.data.toList 93).toNat, by omega⟩
        obtain ⟨k1, k2, k3⟩ := idx_nat _ _ _ hxn
        have hnl : n < a0.size := by omega
        rw [list_at a0 n hnl] at k2
        have hn93 : a0[n] = 93 := Option.some.inj k2
        have hn1 : 1 ≤ n := by
          rcases Nat.eq_zero_or_pos n with e | e
          · subst e
            rw [h91] at hn93
            exact absurd hn93 (by decide)
          · exact e
        refine walk_literal a0 (a0.extract 0 (n + 1)) (a0.extract (n + 1) a0.size) n w h h0 h91 hn1 (by simp; omega) (by simp; omega) (by simp; omega) rfl rfl
          (by rw [ByteArray.getElem_extract]; simpa using h91) (by rw [ByteArray.getElem_extract]; simpa using hn93)
          (fun w => zz_of (fun w => split_literal a0 n w (by omega) hnl hst hxn)) (fun w => hasByte_any a0 93 w (by omega) true ?_) (fun w => hasByte_any _ 93 w (by simp; omega) false ?_)
        · simp only [List.contains_iff_mem]
          exact List.mem_of_getElem? (by rw [list_at a0 n hnl, hn93])
        · rw [Lib.extract_data, Lib.extract_data]
          simp only [List.drop_zero, Nat.sub_zero, List.take_take]
          rw [Nat.min_eq_left (by omega)]
          simpa using k3
    | false =>
      have hbr : ¬ 0 < a0.size ∨ ∃ h0 : 0 < a0.size, a0[0] ≠ 91 := by
        by_cases h0 : 0 < a0.size
        · refine .inr ⟨h0, fun e => ?_⟩
          rw [(starts_iff a0 91).2 ⟨h0, e⟩] at hst
          cases hst
        · exact .inl h0
      by_cases hx : Lib.indexByte a0.data.toList 58 < 0
      · have hn := idx_neg _ _ hx
        refine walk_other a0 a0 ⟨#[]⟩ w h hbr (Nat.le_refl _) (Nat.le_refl _) ?_ ?_ (.inl (by rw [Lib.toList_data]; rfl)) (fun w => zz_of (fun w => split_whole a0 w hst hx)) (fun w => hasByte_any a0 58 w (by omega) false (by simpa using hn))
        · simp
        · simp
          rfl
      · obtain ⟨n, hxn⟩ : ∃ n : Nat, Lib.indexByte a0.data.toList 58 = (n : Int) := ⟨(Lib.indexByte a0.data.toList 58).toNat, by omega⟩
        obtain ⟨k1, k2, k3⟩ := idx_nat _ _ _ hxn
        have hnl : n < a0.size := by omega
        rw [list_at a0 n hnl] at k2
        have hn58 : a0[n] = 58 := Option.some.inj k2
        have hHs : (a0.extract 0 n).size = n := by simp; omega
        have hPs : (a0.extract n a0.size).size = a0.size - n := by simp
        refine walk_other a0 (a0.extract 0 n) (a0.extract n a0.size) w h hbr (by omega) (by omega) (by rw [hHs]) (by rw [hHs]) (.inr ⟨?_, by omega, ?_⟩)
          (fun w => zz_of (fun w => split_port a0 n w (by omega) hnl hst hxn)) (fun w => hasByte_any _ 58 w (by omega) false ?_)
        · rw [Lib.toList_data]
          cases hL : (a0.extract n a0.size).data.toList with
          | nil =>
            have := congrArg List.length hL
            simp at this
            omega
          | cons c t => rfl
        · rw [ByteArray.getElem_extract]
          simpa using hn58
        · rw [Lib.extract_data]
          simpa using k3
  · go_enter Try.func6, Try.ntmps6
    go_wp2_with (first | (go_at_call 16; refine (bytes_no _ _ w0 (by omega)).mono ?_; rintro e w' ⟨rfl, rfl⟩))
    go_ret
    exact ⟨rfl, Below.refl _ _⟩

end Go.Proofs.Qxb6602109a.fnSplitAuthorityCharacterised
