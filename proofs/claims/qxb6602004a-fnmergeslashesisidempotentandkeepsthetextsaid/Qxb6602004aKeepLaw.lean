/-
  Seat b6602004a: the law FnMergeSlashesIsIdempotentAndKeepsTheText, walked.
-/
import Derived.Test.Qxb6602004aKeep
namespace Go.Proofs.Qxb6602004a.fnMergeSlashesIsIdempotentAndKeepsTheText
open Go.RowKit

set_option maxHeartbeats 1000000 in
theorem bytes_yes (a0 : ByteArray) (w : World) (h : a0.size ≤ 1048576) :
    Calls Try.prog 8 #[.string a0] w fun e w' => e = .returned (.bool true) ∧ w = w' := by
  go_enter Try.func8, Try.ntmps8
  go_wp2
  go_ret
  exact ⟨rfl, rfl⟩

set_option maxHeartbeats 1000000 in
theorem bytes_no (a0 : ByteArray) (w : World) (w0 : a0.size ≤ maxLen) (h : 1048576 < a0.size) :
    Calls Try.prog 8 #[.string a0] w fun e w' => e = .returned (.bool false) ∧ w = w' := by
  unfold maxLen at w0
  go_enter Try.func8, Try.ntmps8
  go_wp2
  all_goals
    go_ret
    exact ⟨rfl, rfl⟩

/-- The first and the last byte. -/
theorem ends (p q : ByteArray) (hq : q.data.toList = merge p.data.toList) (hp : 0 < p.size) : ∃ h : 0 < q.size, q[0] = p[0] ∧ q[q.size - 1] = p[p.size - 1] := by
  have hlq : q.data.toList.length = q.size := by simp
  have hlp : p.data.toList.length = p.size := by simp
  have hne := merge_ne p hp
  have hpos : 0 < q.size := by
    rw [← hlq, hq]
    exact List.length_pos_iff.2 hne
  refine ⟨hpos, ?_, ?_⟩
  · have e1 := list_at q 0 hpos
    have e2 := list_at p 0 hp
    rw [hq] at e1
    have hd := drop_at p 0 hp
    rw [List.drop_zero] at hd
    obtain ⟨r, hr⟩ := merge_head p[0] (p.data.toList.drop (0 + 1))
    rw [hd, hr] at e1
    simpa using e1.symm
  · have e := merge_last p.data.toList
    rw [← hq, List.getLast?_eq_getElem?, List.getLast?_eq_getElem?, hlq, hlp, list_at q (q.size - 1) (by omega), list_at p (p.size - 1) (by omega)] at e
    exact Option.some.inj e

theorem index_last (q : ByteArray) (h : 0 < q.size) (W : World) : (Instr.index 9 (.string q) (.int .i64 ((q.size : Int) - 1))).run Try.prog W = .ok (.int .u8 (q[q.size - 1].toNat : Int)) W := by
  have e : ((q.size : Int) - 1).toNat = q.size - 1 := by omega
  rw [run_index_string W 9 q .i64 _ Try.underlying9, dif_pos ⟨by omega, by omega⟩]
  simp only [e]

set_option maxHeartbeats 4000000 in
set_option maxRecDepth 100000 in
/-- The walk over what is known of q. -/
theorem walk_q (p q r : ByteArray) (d : Bool) (w : World) (h : p.size ≤ 1048576) (hqp : q.size ≤ p.size)
    (hzp : ∀ wx, Below w.heap.size w wx → Calls Try.prog 6 #[.string p] wx fun e w' => e = .returned (.string q) ∧ Below wx.heap.size wx w')
    (hzq : ∀ wx, Below w.heap.size w wx → Calls Try.prog 6 #[.string q] wx fun e w' => e = .returned (.string q) ∧ Below wx.heap.size wx w')
    (hdq : ∀ wx, Calls Try.prog 9 #[.string q] wx fun e w' => e = .returned (.bool false) ∧ wx = w')
    (hdp : ∀ wx, Calls Try.prog 9 #[.string p] wx fun e w' => e = .returned (.bool d) ∧ wx = w')
    (hbp : ∀ wx, Calls Try.prog 10 #[.string p] wx fun e w' => e = .returned (.string r) ∧ Below wx.heap.size wx w')
    (hbq : ∀ wx, Calls Try.prog 10 #[.string q] wx fun e w' => e = .returned (.string r) ∧ Below wx.heap.size wx w')
    (heq : (q.toList == p.toList) = !d)
    (hends : 0 < p.size → ∃ h : 0 < q.size, q[0] = p[0] ∧ q[q.size - 1] = p[p.size - 1]) :
    Calls Try.prog 4 #[.string p] w fun e w' => e = .returned (.bool true) ∧ Below w.heap.size w w' := by
  have HQ : Hid ((q.toList == p.toList) = !d) := heq
  have HE : Hid (0 < p.size → ∃ h : 0 < q.size, q[0] = p[0] ∧ q[q.size - 1] = p[p.size - 1]) := hends
  clear heq hends
  go_enter Try.func4, Try.ntmps4
  go_wp2_with (first | (go_at_call 8; refine (bytes_yes _ _ h).mono ?_; rintro e w' ⟨rfl, rfl⟩))
  refine (hzp _ (Below.refl _ _)).mono ?_
  rintro e w2 ⟨rfl, hb2⟩
  go_wp2_with fail
  refine (hzq _ hb2).mono ?_
  rintro e w3 ⟨rfl, hb3⟩
  have hb3' : Below w.heap.size w w3 := hb2.trans (hb3.mono hb2.size)
  clear hb2 hb3
  go_wp2_with fail
  refine (hdq _).mono ?_
  rintro e w' ⟨rfl, rfl⟩
  go_wp2_with fail
  refine (hdp _).mono ?_
  rintro e w' ⟨rfl, rfl⟩
  have heq := HQ.out
  clear HQ
  go_wp2_with fail
  refine (hbq _).mono ?_
  rintro e w4 ⟨rfl, hb4⟩
  go_wp2_with fail
  refine (hbp _).mono ?_
  rintro e w5 ⟨rfl, hb5⟩
  have hb5' : Below w.heap.size w w5 := (hb3'.trans (hb4.mono hb3'.size)).trans (hb5.mono (Nat.le_trans hb3'.size hb4.size))
  clear hb4 hb5 hb3' hzp hzq hdq hdp hbp hbq heq
  by_cases hp : 0 < p.size
  · obtain ⟨hq0, e0, e1⟩ := HE.out hp
    have hx0 : ∀ W, (Instr.index 9 (.string q) (.int .i64 ((q.size : Int) - 1))).run Try.prog W = .ok (.int .u8 (q[q.size - 1].toNat : Int)) W := index_last q hq0
    have hx1 : ∀ W, (Instr.index 9 (.string p) (.int .i64 ((p.size : Int) - 1))).run Try.prog W = .ok (.int .u8 (p[p.size - 1].toNat : Int)) W := index_last p hp
    have hqz : ((q.size : Int) == 0) = false := by rw [beq_eq_false_iff_ne]; omega
    have hb0 : (((q[0].toNat : Int)) != (p[0].toNat : Int)) = false := by rw [e0]; simp
    have hb1 : (((q[q.size - 1].toNat : Int)) != (p[p.size - 1].toNat : Int)) = false := by rw [e1]; simp
    clear HE e0 e1
    go_wp2_with fail
    go_quiet (fail)
    go_wp2
    go_ret
    exact ⟨rfl, below_drewN hb5' _⟩
  · have hp' : ¬ (0 : Int) < p.size := by omega
    go_wp2
    go_ret
    exact ⟨rfl, hb5'⟩

theorem walk (a0 : ByteArray) (w0 : a0.size ≤ maxLen) (w : World) (hsh : w.ShapedOpen Try.prog) :
    Calls Try.prog 4 #[.string a0] w fun e w' => e = .returned (.bool true) ∧ Below w.heap.size w w' := by
  obtain ⟨m, hm⟩ := cell_maxLen w hsh
  clear hsh
  by_cases h : a0.size ≤ 1048576
  · have h0 : 0 < w.heap.size := World.block_lt_of_cell? w ⟨0, 0, none⟩ hm
    have hmx : ∀ wx, Below w.heap.size w wx → wx.cell? ⟨0, 0, none⟩ = some (.int .i64 m) := fun wx hb => (hb.cell (p := ⟨0, 0, none⟩) h0).trans hm
    have hlen := merge_len a0.data.toList
    have hqs : (⟨(merge a0.data.toList).toArray⟩ : ByteArray).size = (merge a0.data.toList).length := by
      show (merge a0.data.toList).toArray.size = _
      simp
    have hps : a0.data.toList.length = a0.size := by simp
    have hz := fun wx hb => zz_any ⟨(merge a0.data.toList).toArray⟩ m wx (by omega) (hmx wx hb)
    have hd := fun wx => dbl_any ⟨(merge a0.data.toList).toArray⟩ wx (by omega)
    have hr := fun wx => bare_any ⟨(merge a0.data.toList).toArray⟩ wx (by omega)
    simp only [merge_idem, dbl_merge, bare_merge] at hz hd hr
    refine walk_q a0 ⟨(merge a0.data.toList).toArray⟩ ⟨(bare a0.data.toList).toArray⟩ (dbl a0.data.toList) w h (by omega) (fun wx hb => zz_any a0 m wx (by omega) (hmx wx hb)) hz hd
      (fun wx => dbl_any a0 wx (by omega)) (fun wx => bare_any a0 wx (by omega)) hr ?_ (ends a0 _ rfl)
    rw [Lib.toList_data, Lib.toList_data]
    have e := merge_eq_iff a0.data.toList
    cases hdb : dbl a0.data.toList with
    | true =>
      rw [hdb] at e
      simpa using e
    | false =>
      rw [hdb] at e
      simpa using e
  · go_enter Try.func4, Try.ntmps4
    go_wp2_with (first | (go_at_call 8; refine (bytes_no _ _ w0 (by omega)).mono ?_; rintro e w' ⟨rfl, rfl⟩))
    go_ret
    exact ⟨rfl, Below.refl _ _⟩

end Go.Proofs.Qxb6602004a.fnMergeSlashesIsIdempotentAndKeepsTheText
