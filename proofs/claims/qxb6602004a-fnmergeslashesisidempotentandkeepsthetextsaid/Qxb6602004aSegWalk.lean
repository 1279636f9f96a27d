/-
  Seat b6602004a: rulesB1MergeModel, walked.
-/
import Derived.Test.Qxb6602004aMerge
import Derived.Test.Qxb6602004aPlain2
namespace Go.Proofs.Qxb6602004a
open Go.RowKit

theorem ret_b {b b' : Bool} (h' : b = b') : Ending.returned (.bool b) = .returned (.bool b') := by rw [h']

theorem step_row {N : Nat} {w wr w2 : World} {o : Obj} {u v' : Value} {acc x : List UInt8} (hb : Below N w wr) (hN : N ≤ wr.heap.size) (hown : wr.ownsRow N 5 1 u acc.length (Lib.byteCells acc))
    (hown' : w2.ownsRow N 5 1 v' (acc.length + x.length) (Lib.byteCells acc ++ Lib.byteCells x)) (hg : (wr.alloc o).grownBy w2 u.ownBlock) :
    w2.ownsRow N 5 1 v' (acc ++ x).length (Lib.byteCells (acc ++ x)) ∧ Below N w w2 := by
  refine ⟨by rw [Lib.byteCells_append, List.length_append]; exact hown', (hb.alloc hN o).grown hg (by simp; omega) (fun k hk => (hown.lt k hk).1)⟩

theorem step_str {N : Nat} {w wr w2 : World} {u v' : Value} {acc : List UInt8} {s : ByteArray} {x : List UInt8} (hx : s.data.toList = x) (hb : Below N w wr) (hN : N ≤ wr.heap.size) (hown : wr.ownsRow N 5 1 u acc.length (Lib.byteCells acc))
    (hown' : w2.ownsRow N 5 1 v' (acc.length + s.size) (Lib.byteCells acc ++ Lib.strCells s)) (hg : wr.grownBy w2 u.ownBlock) :
    w2.ownsRow N 5 1 v' (acc ++ x).length (Lib.byteCells (acc ++ x)) ∧ Below N w w2 := by
  have hs : s.size = x.length := by rw [← hx]; simp
  rw [Lib.strCells_eq, hx, hs] at hown'
  exact ⟨by rw [Lib.byteCells_append, List.length_append]; exact hown', hb.grown hg hN (fun k hk => (hown.lt k hk).1)⟩

/-- 'string(out)' of a row that the call owns. -/
theorem row_string {N : Nat} {wr : World} {v : Value} {l : List UInt8} (h : wr.ownsRow N 5 1 v l.length (Lib.byteCells l)) : (convert 24 9 v).run Try.prog wr = .ok (.string ⟨l.toArray⟩) wr := by
  rcases h.2 with ⟨rfl, h0⟩ | ⟨g, cap, cur, rfl, _⟩
  · obtain rfl : l = [] := List.length_eq_zero_iff.1 h0
    rw [run_convert_bytes_string wr 24 9 5 none 0 0 Try.underlying24 Try.underlying5 Try.underlying9]
    rfl
  · refine run_convert_bytes_back wr 24 9 5 ⟨g, 0, none⟩ cap l Try.underlying24 Try.underlying5 Try.underlying9 (fun j hj => ?_)
    exact h.cells (g := g) rfl j _ (by simp [Lib.byteCells, List.getElem?_eq_getElem hj])

set_option maxHeartbeats 4000000 in
set_option maxRecDepth 100000 in
theorem model_any (s : ByteArray) (w : World) (hs : s.size ≤ 4194304) :
    Calls Try.prog 7 #[.string s] w fun e w' => e = .returned (.string ⟨(merge s.data.toList).toArray⟩) ∧ Below w.heap.size w w' := by
  obtain ⟨i0, hi, hz0, hz1, hz2⟩ := byte_parts
  obtain ⟨C, hC⟩ : ∃ C, s.data.toList.count 47 = C := ⟨_, rfl⟩
  have hCle : C ≤ 4194304 := by have := List.count_le_length (a := (47 : UInt8)) (l := s.data.toList); rw [hC] at this; simp at this; omega
  have HC : Hid (s.data.toList.count 47 = C) := hC
  clear hC
  go_enter Try.func7, Try.ntmps7
  go_wp2
  go_loop [3, 4] (fun n i => ∃ k c : Nat, k ≤ s.size ∧ i = .int .i64 k ∧ n = .int .i64 ((c : Int) + 1) ∧ c ≤ k ∧ Hid (c = (s.data.toList.take k).count 47)) (fun _ i => s.size - (intOf i).toNat)
  case atStart => exact ⟨0, 0, Nat.zero_le _, rfl, rfl, Nat.le_refl _, by unfold Hid; simp⟩
  case round =>
    obtain ⟨k, c, hk, rfl, rfl, hck, Hc⟩ := hrel
    by_cases hlt : k < s.size
    · have hl := list_at s k hlt
      have ht := take_one _ _ _ hl
      by_cases h47 : s[k] = 47
      · have H' : Hid (c + 1 = (s.data.toList.take (k + 1)).count 47) := by
          unfold Hid; rw [ht, List.count_append, ← Hc.out, h47]; simp
        clear hl ht
        go_wp2
        go_round
        case rel => exact ⟨k + 1, c + 1, by omega, by go_num, by go_num, by omega, H'⟩
        case measure => simp [intOf]; omega
      · have H' : Hid (c = (s.data.toList.take (k + 1)).count 47) := by
          unfold Hid; rw [ht, List.count_append, ← Hc.out]; simp [h47]
        have hcn : ¬ s[k].toNat = 47 := fun h => h47 (UInt8.toNat_inj.1 h)
        clear hl ht h47
        go_wp2
        go_round
        case rel => exact ⟨k + 1, c, by omega, by go_num, rfl, by omega, H'⟩
        case measure => simp [intOf]; omega
    · have hcc : c = C := by
        rw [Hc.out, List.take_of_length_le (by simp; omega), HC.out]
      subst hcc
      clear Hc
      go_wp2_with (at_make; refine wpList_make_own _ rfl _ _ 24 rfl w.heap.size 5 i0 (.int .u8 0) 1 Try.underlying24 hi hz0 hz1 _ _ _ s.size rfl rfl rfl ?b2 ?b3 (Nat.le_refl _) ?_)
      case b2 => first | omega | (rw [hz2]; omega)
      case b3 => unfold maxLen; omega
      intro w0 hown0 hgrow0
      clear hck hlt hk
      go_wp2
      go_loopw [5, 6, 7, 8] (fun out idx st i wr => ∃ (k a m : Nat) (acc : List UInt8), i = .int .i64 k ∧ st = .int .i64 a ∧ idx = .int .i64 m ∧ wr.ownsRow w.heap.size 5 1 out acc.length (Lib.byteCells acc) ∧ Below w.heap.size w wr ∧ a ≤ k ∧ m ≤ 4194304 + 1 ∧ acc.length ≤ s.size ∧
          ((k ≤ s.size ∧ Hid (Seg s.data.toList a k m acc)) ∨ (k = s.size + 1 ∧ Hid (merge s.data.toList = acc)))) (fun _ _ _ i _ => s.size + 1 - (intOf i).toNat)
      case atStart => exact ⟨0, 0, 0, [], rfl, rfl, rfl, hown0, (Below.refl _ _).grown hgrow0 (Nat.le_refl _) (by simp), by omega, by omega, by simp, .inl ⟨by omega, seg_start _⟩⟩
      case round =>
        clear hown0 hgrow0
        obtain ⟨k', a, m, acc, rfl, rfl, rfl, hown, hb, hak, hm, hacc, hst⟩ := hrel
        have hbs := hb.size
        rcases hst with ⟨hk, HS⟩ | ⟨hk, HM⟩
        · by_cases hlt : k' < s.size
          · have hl := list_at s k' hlt
            by_cases h47 : s[k'] = 47
            · rw [h47] at hl
              have hke : ((k' : Int) == (s.size : Int)) = false := by simp; omega
              have hx : (s.extract a k').data.toList = (s.data.toList.drop a).take (k' - a) := Lib.extract_data _ _ _
              have hmlt := count_lt HS.out hl
              rw [HC.out] at hmlt
              have hxs : (s.extract a k').size = k' - a := by simp; omega
              by_cases hm0 : m = 0
              · subst hm0
                have H' : Hid (Seg s.data.toList (k' + 1) (k' + 1) (0 + 1) (acc ++ (s.data.toList.drop a).take (k' - a))) := seg_first HS.out hl
                have hal := seg_len H'.out
                simp at hal
                clear hl
                cases hse : (s.extract a k').toList.isEmpty
                all_goals
                  go_wp2_with (at_builtin; refine Lib.wpList_append_own_string _ rfl _ _ 24 9 rfl w.heap.size 5 i0 Try.underlying24 Try.underlying9 hi hz0 hz1 hz2 _ _ _ rfl hown (s.extract a k') rfl (by unfold maxLen; omega) (by omega) (by omega) ?_)
                  intro v' w2 hown' hgrow' _
                  go_wp2
                  go_roundw
                  case rel =>
                    have hr := step_str hx hb hbs hown (by rw [hxs]; first | exact hown' | (rw [List.length_append]; exact hown')) hgrow'
                    exact ⟨k' + 1, k' + 1, 0 + 1, _, by go_num, by go_num, by go_num, hr.1, hr.2, by omega, by omega, by simp; omega, .inl ⟨by omega, H'⟩⟩
                  case measure => simp [intOf]; omega
              · by_cases hse : (s.extract a k').data.toList = []
                · have H' : Hid (Seg s.data.toList (k' + 1) (k' + 1) (m + 1) acc) := seg_void HS.out hm0 hl (by rw [← hx]; exact hse)
                  have hse' : (s.extract a k').toList.isEmpty = true := by rw [Lib.toList_data, hse]; rfl
                  have hmb : ((m : Int) == 0) = false := by simp; omega
                  have hmn : ((m : Int) == (c : Int)) = false := by simp; omega
                  clear hl hse hx
                  go_wp2
                  go_roundw
                  case rel => exact ⟨k' + 1, k' + 1, m + 1, acc, by go_num, by go_num, by go_num, hown, hb, by omega, by omega, hacc, .inl ⟨by omega, H'⟩⟩
                  case measure => simp [intOf]; omega
                · have H' : Hid (Seg s.data.toList (k' + 1) (k' + 1) (m + 1) ((acc ++ [47]) ++ (s.data.toList.drop a).take (k' - a))) := seg_full HS.out hm0 hl (by rw [← hx]; exact hse)
                  have hal := seg_len H'.out
                  simp at hal
                  have hse' : (s.extract a k').toList.isEmpty = false := by rw [Lib.toList_data]; simpa using hse
                  clear hl hse
                  go_wp2_with (at_builtin; refine wpList_append_own _ rfl _ _ 24 rfl w.heap.size 5 i0 (.int .u8 0) 1 1 Try.underlying24 hi hz0 hz1 hz2 rfl (by decide) _ _ _ rfl (hown.alloc _) ⟨wr.heap.size, 0, none⟩ 1 1 [.int .u8 47] rfl rfl (cell_one_new _ _ _) (by intro u hu; simp at hu; subst hu; rfl) (by unfold maxLen; omega) (by omega) (by simp; omega) ?_)
                  intro v1 w1 hown1 hgrow1 _
                  have hr1 := step_row (x := [47]) hb hbs hown hown1 hgrow1
                  have hbs1 := hr1.2.size
                  go_wp2_with (at_builtin; refine Lib.wpList_append_own_string _ rfl _ _ 24 9 rfl w.heap.size 5 i0 Try.underlying24 Try.underlying9 hi hz0 hz1 hz2 _ _ _ rfl hr1.1 (s.extract a k') rfl (by unfold maxLen; simp; omega) (by simp; omega) (by omega) ?_)
                  intro v' w2 hown' hgrow' _
                  go_wp2
                  go_roundw
                  case rel =>
                    have hr := step_str hx hr1.2 hbs1 hr1.1 (by rw [hxs]; first | exact hown' | (rw [List.length_append]; exact hown')) hgrow'
                    exact ⟨k' + 1, k' + 1, m + 1, _, by go_num, by go_num, by go_num, hr.1, hr.2, by omega, by omega, by simp; omega, .inl ⟨by omega, H'⟩⟩
                  case measure => simp [intOf]; omega
            · have H' : Hid (Seg s.data.toList a (k' + 1) m acc) := seg_step HS.out hl h47
              have hcn : ¬ s[k'].toNat = 47 := fun h => h47 (UInt8.toNat_inj.1 h)
              have hke : ((k' : Int) == (s.size : Int)) = false := by simp; omega
              clear hl h47
              go_wp2
              go_roundw
              case rel => exact ⟨k' + 1, a, m, acc, by go_num, rfl, rfl, hown, hb, by omega, hm, hacc, .inl ⟨by omega, H'⟩⟩
              case measure => simp [intOf]; omega
          · obtain rfl : k' = s.size := by omega
            have hLs : s.data.toList.length = s.size := by simp
            have HS' : Seg s.data.toList a s.data.toList.length m acc := by rw [hLs]; exact HS.out
            have ht := seg_tail HS'
            have hmc : m = c := by rw [ht.2.2, HC.out]
            have hx : (s.extract a s.size).data.toList = s.data.toList.drop a := by rw [Lib.extract_data, List.take_of_length_le (by simp)]
            have hxs : (s.extract a s.size).size = s.size - a := by simp
            by_cases hm0 : m = 0
            · subst hm0
              have H' : Hid (merge s.data.toList = acc ++ s.data.toList.drop a) := seg_only HS'
              have hal := merge_len s.data.toList
              rw [H'.out] at hal
              simp at hal
              subst hmc
              clear HS' ht hLs
              cases hse : (s.extract a s.size).toList.isEmpty
              all_goals
                go_wp2_with (at_builtin; refine Lib.wpList_append_own_string _ rfl _ _ 24 9 rfl w.heap.size 5 i0 Try.underlying24 Try.underlying9 hi hz0 hz1 hz2 _ _ _ rfl hown (s.extract a s.size) rfl (by unfold maxLen; omega) (by omega) (by omega) ?_)
                intro v' w2 hown' hgrow' _
                go_wp2
                go_roundw
                case rel =>
                  have hr := step_str hx hb hbs hown (by rw [hxs]; first | exact hown' | (rw [List.length_append]; exact hown')) hgrow'
                  first | exact ⟨s.size + 1, s.size + 1, 0 + 1, _, by go_num, by go_num, by go_num, hr.1, hr.2, by omega, by omega, by simp; omega, .inr ⟨rfl, H'⟩⟩ | ((repeat apply Exists.intro); exact ⟨⟨s.size + 1, s.size + 1, 0 + 1, _, by go_num, by go_num, by go_num, hr.1, hr.2, by omega, by omega, by simp; omega, .inr ⟨rfl, H'⟩⟩, rfl⟩)
                case measure => first | (simp [intOf]; done) | (simp [intOf]; omega)
            · have H' : Hid (merge s.data.toList = (acc ++ [47]) ++ s.data.toList.drop a) := seg_last HS' hm0
              have hal := merge_len s.data.toList
              rw [H'.out] at hal
              simp at hal
              subst hmc
              clear HS' ht hLs
              cases hse : (s.extract a s.size).toList.isEmpty
              all_goals
                go_wp2_with (at_builtin; refine wpList_append_own _ rfl _ _ 24 rfl w.heap.size 5 i0 (.int .u8 0) 1 1 Try.underlying24 hi hz0 hz1 hz2 rfl (by decide) _ _ _ rfl (hown.alloc _) ⟨wr.heap.size, 0, none⟩ 1 1 [.int .u8 47] rfl rfl (cell_one_new _ _ _) (by intro u hu; simp at hu; subst hu; rfl) (by unfold maxLen; omega) (by omega) (by simp; omega) ?_)
                intro v1 w1 hown1 hgrow1 _
                have hr1 := step_row (x := [47]) hb hbs hown hown1 hgrow1
                have hbs1 := hr1.2.size
                go_wp2_with (at_builtin; refine Lib.wpList_append_own_string _ rfl _ _ 24 9 rfl w.heap.size 5 i0 Try.underlying24 Try.underlying9 hi hz0 hz1 hz2 _ _ _ rfl hr1.1 (s.extract a s.size) rfl (by unfold maxLen; simp; omega) (by simp; omega) (by omega) ?_)
                intro v' w2 hown' hgrow' _
                go_wp2
                go_roundw
                case rel =>
                  have hr := step_str hx hr1.2 hbs1 hr1.1 (by rw [hxs]; first | exact hown' | (rw [List.length_append]; exact hown')) hgrow'
                  first | exact ⟨s.size + 1, s.size + 1, m + 1, _, by go_num, by go_num, by go_num, hr.1, hr.2, by omega, by omega, by simp; omega, .inr ⟨rfl, H'⟩⟩ | ((repeat apply Exists.intro); exact ⟨⟨s.size + 1, s.size + 1, m + 1, _, by go_num, by go_num, by go_num, hr.1, hr.2, by omega, by omega, by simp; omega, .inr ⟨rfl, H'⟩⟩, rfl⟩)
                case measure => first | (simp [intOf]; done) | (simp [intOf]; omega)
        · have HF : Hid (merge s.data.toList = acc) := HM
          have hcv : (convert 24 9 u5).run Try.prog wr = .ok (.string ⟨acc.toArray⟩) wr := row_string hown
          have hgt : ¬ k' ≤ s.size := by omega
          clear hk
          go_wp2
          go_ret
          exact ⟨by rw [HF.out]; rfl, hb⟩
end Go.Proofs.Qxb6602004a
