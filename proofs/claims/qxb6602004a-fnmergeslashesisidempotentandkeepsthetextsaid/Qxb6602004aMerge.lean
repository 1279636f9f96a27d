/-
  Seat b6602004a: mergeSlashes, walked.
-/
import Derived.Test.Qxb6602004aBuild
import Derived.Test.Qxb6602004aPlain
import Derived.Test.Qxb6602004aShelf
import Derived.Deep.Light
import Derived.BigQuiet
import Derived.Deep.QuietTactic
namespace Go.Proofs.Qxb6602004a
open Go.RowKit

theorem contains_dbl (l : List UInt8) : Lib.contains l [47, 47] = dbl l := by
  induction l with
  | nil => decide
  | cons c t ih =>
    cases t with
    | nil =>
      unfold Lib.contains
      simp [Lib.index, dbl]
    | cons d t =>
      have g := Lib.index_ge (d :: t) [47, 47]
      unfold Lib.contains at ih ⊢
      rw [Lib.index]
      by_cases h : c = 47 ∧ d = 47
      · obtain ⟨rfl, rfl⟩ := h
        simp [dbl, List.isPrefixOf]
      · have hn : [47, 47].isPrefixOf (c :: d :: t) = false := by
          simp only [List.isPrefixOf, Bool.and_true, Bool.and_eq_false_iff, beq_eq_false_iff_ne]
          by_cases hc : c = 47
          · exact .inr (fun e => h ⟨hc, e.symm⟩)
          · exact .inl (fun e => hc e.symm)
        have hd : (c == 47 && d == 47) = false := by
          simp only [Bool.and_eq_false_iff, beq_eq_false_iff_ne]
          by_cases hc : c = 47
          · exact .inr (fun e => h ⟨hc, e⟩)
          · exact .inl hc
        rw [dbl, hd, hn, ← ih]
        simp only [Bool.false_eq_true, if_false, Bool.false_or, beq_iff_eq]
        rw [Bool.eq_iff_iff]
        simp only [decide_eq_true_eq]
        split <;> omega

theorem drop_at (s : ByteArray) (q : Nat) (h : q < s.size) : s.data.toList.drop q = s[q] :: s.data.toList.drop (q + 1) := by
  have h' : q < s.data.toList.length := by simpa using h
  rw [List.drop_eq_getElem_cons h']
  rfl

theorem list_at (s : ByteArray) (q : Nat) (h : q < s.size) : s.data.toList[q]? = some s[q] := by
  have h' : q < s.data.toList.length := by simpa using h
  rw [List.getElem?_eq_getElem h']
  rfl

/-- does a slash stand right ahead of k? -/
def prevAt (L : List UInt8) : Nat → Bool
  | 0 => false
  | k + 1 => L[k]? == some 47

theorem prev_next (s : ByteArray) (k : Nat) (h : k < s.size) : prevAt s.data.toList (k + 1) = (s[k] == 47) := by
  show (s.data.toList[k]? == some 47) = _
  rw [list_at s k h]
  rfl

set_option maxHeartbeats 1000000 in
set_option maxRecDepth 100000 in
theorem merge_plain (s : ByteArray) (m : Int) (w : World) (hs : s.size ≤ 4194304) (hm : w.cell? ⟨0, 0, none⟩ = some (.int .i64 m)) (h : dbl s.data.toList = false) :
    Calls Try.prog 11 #[.string s] w fun e w' => e = .returned (.string s) ∧ Below w.heap.size w w' := by
  have hc : ∀ w, w.cell? ⟨0, 0, none⟩ = some (.int .i64 m) → Calls Try.prog 12 #[.string s, .string ⟨#[47, 47]⟩] w fun e w' => e = .returned (.bool false) ∧ w = w' := by
    intro w hm
    have h1 := strings_Contains s ⟨#[47, 47]⟩ m w (by omega) hm
    have e : Lib.contains s.data.toList [47, 47] = false := by rw [contains_dbl, h]
    exact h1.mono (fun e' w' ⟨a, b⟩ => ⟨by rw [a]; exact congrArg (fun x => Ending.returned (.bool x)) e, b.symm⟩)
  clear h
  go_enter Try.func11, Try.ntmps11
  go_wp2_with (first | (go_at_call 12; refine (hc _ hm).mono ?_; rintro e w' ⟨rfl, rfl⟩))
  go_ret
  exact ⟨rfl, Below.refl _ _⟩

theorem merge_ne (s : ByteArray) (h : 0 < s.size) : merge s.data.toList ≠ [] := by
  have hl : 0 < s.data.toList.length := by simpa using h
  match hL : s.data.toList, hl with
  | c :: t, _ =>
    obtain ⟨r, hr⟩ := merge_head c t
    rw [hr]
    simp

set_option maxHeartbeats 2000000 in
set_option maxRecDepth 100000 in
theorem merge_run (s : ByteArray) (m : Int) (w : World) (hs : s.size ≤ 4194304) (hm : w.cell? ⟨0, 0, none⟩ = some (.int .i64 m)) (h : dbl s.data.toList = true) :
    Calls Try.prog 11 #[.string s] w fun e w' => e = .returned (.string ⟨(merge s.data.toList).toArray⟩) ∧ Below w.heap.size w w' := by
  have hpos : 0 < s.size := by
    cases hL : s.data.toList with
    | nil => rw [hL] at h; simp [dbl] at h
    | cons c t =>
      have := congrArg List.length hL
      simp at this
      omega
  have hc : ∀ w, w.cell? ⟨0, 0, none⟩ = some (.int .i64 m) → Calls Try.prog 12 #[.string s, .string ⟨#[47, 47]⟩] w fun e w' => e = .returned (.bool true) ∧ w = w' := by
    intro w hm
    have h1 := strings_Contains s ⟨#[47, 47]⟩ m w (by omega) hm
    have e : Lib.contains s.data.toList [47, 47] = true := by rw [contains_dbl, h]
    exact h1.mono (fun e' w' ⟨a, b⟩ => ⟨by rw [a]; exact congrArg (fun x => Ending.returned (.bool x)) e, b.symm⟩)
  clear h
  have hbk : (w.alloc (.cells #[.pointer none, .slice none 0 0] 28)).heap[w.heap.size]? = some (.cells #[.pointer none, .slice none 0 0] 28 (0, 0)) := by
    show (w.heap.push _)[w.heap.size]? = _
    simp
  have hb0 : Below w.heap.size w (w.alloc (.cells #[.pointer none, .slice none 0 0] 28)) := (Below.refl _ _).alloc (Nat.le_refl _) _
  go_enter Try.func11, Try.ntmps11
  go_wp2_with (first | (go_at_call 12; refine (hc _ hm).mono ?_; rintro e w' ⟨rfl, rfl⟩) | (go_at_call 13; refine (Grow_fresh _ s.size _ hbk hpos (by omega)).mono ?_; rintro e w1 ⟨rfl, v1, hB1, hF1, _⟩))
  have hb1 := hb0.trans hF1.below
  clear hb0 hF1 hbk
  go_loopw [14] (fun i wr => ∃ (k : Nat) (acc : List UInt8) (v : Value), i = .int .i64 k ∧ k ≤ s.size ∧ Hid (merge s.data.toList = acc ++ mg (prevAt s.data.toList k) (s.data.toList.drop k)) ∧ Bd w.heap.size v (Lib.byteCells acc) wr ∧ Below w.heap.size w wr) (fun i _ => s.size - (intOf i).toNat)
  case atStart => exact ⟨0, [], v1, rfl, Nat.zero_le _, rfl, hB1, hb1⟩
  case round =>
    clear hB1 hb1
    obtain ⟨k, acc, v, rfl, hk, HE, hB, hb⟩ := hrel
    have hacc : acc.length ≤ 4194304 := by
      have h1 := merge_len s.data.toList
      rw [HE.out] at h1
      simp at h1
      omega
    by_cases hlt : k < s.size
    · have hd := drop_at s k hlt
      have hpn := prev_next s k hlt
      by_cases hc : s[k] = 47
      · rw [hc] at hd hpn
        by_cases hk0 : k = 0
        · subst hk0
          have HT : Hid (merge s.data.toList = (acc ++ [s[0]]) ++ mg (prevAt s.data.toList (0 + 1)) (s.data.toList.drop (0 + 1))) := by
            unfold Hid
            rw [HE.out, hd, hc, hpn]
            show acc ++ mg false (47 :: _) = _
            rw [mg_slash, List.append_assoc]
            rfl
          clear hd hpn
          go_wp2_with fail
          refine (writeByte_any _ v _ _ _ hB (by rw [Lib.byteCells_length]; omega)).mono ?_
          rintro e w2 ⟨rfl, v2, hB2, hF2⟩
          go_wp2
          go_roundw
          case rel => exact ⟨0 + 1, acc ++ [s[0]], v2, by go_num, by omega, HT, by rw [Lib.byteCells_append, hc]; exact hB2, hb.trans hF2.below⟩
          case measure => simp [intOf]; omega
        · obtain ⟨j, rfl⟩ : ∃ j, k = j + 1 := ⟨k - 1, by omega⟩
          have hpj := prev_next s j (by omega)
          by_cases hp : s[j] = 47
          · have HT : Hid (merge s.data.toList = acc ++ mg (prevAt s.data.toList (j + 1 + 1)) (s.data.toList.drop (j + 1 + 1))) := by
              unfold Hid
              rw [HE.out, hd, hpn, hpj, hp]
              show acc ++ mg true (47 :: _) = _
              rw [mg_more]
              rfl
            clear hd hpn hpj
            go_wp2
            go_roundw
            case rel => exact ⟨j + 1 + 1, acc, v, by go_num, by omega, HT, hB, hb⟩
            case measure => simp [intOf]; omega
          · have HT : Hid (merge s.data.toList = (acc ++ [s[j + 1]]) ++ mg (prevAt s.data.toList (j + 1 + 1)) (s.data.toList.drop (j + 1 + 1))) := by
              have e : (s[j] == 47) = false := by simpa using hp
              unfold Hid
              rw [HE.out, hd, hc, hpn, hpj, e, mg_slash, List.append_assoc]
              rfl
            have hpn' : ¬ s[j].toNat = 47 := fun h => hp (UInt8.toNat_inj.1 h)
            have hpb : ((s[j].toNat : Int) != 47) = true := bne_iff_ne.2 (by omega)
            clear hd hpn hpj hp
            go_wp2_with fail
            refine (writeByte_any _ v _ _ _ hB (by rw [Lib.byteCells_length]; omega)).mono ?_
            rintro e w2 ⟨rfl, v2, hB2, hF2⟩
            go_wp2
            go_roundw
            case rel => exact ⟨j + 1 + 1, acc ++ [s[j + 1]], v2, by go_num, by omega, HT, by rw [Lib.byteCells_append, hc]; exact hB2, hb.trans hF2.below⟩
            case measure => simp [intOf]; omega
      · have HT : Hid (merge s.data.toList = (acc ++ [s[k]]) ++ mg (prevAt s.data.toList (k + 1)) (s.data.toList.drop (k + 1))) := by
          have e : (s[k] == 47) = false := by simpa using hc
          unfold Hid
          rw [HE.out, hd, hpn, e, mg_other _ _ _ hc, List.append_assoc]
          rfl
        have hcn : ¬ s[k].toNat = 47 := fun h => hc (UInt8.toNat_inj.1 h)
        clear hd hpn hc
        go_wp2_with fail
        refine (writeByte_any _ v _ _ _ hB (by rw [Lib.byteCells_length]; omega)).mono ?_
        rintro e w2 ⟨rfl, v2, hB2, hF2⟩
        go_wp2
        go_roundw
        case rel => exact ⟨k + 1, acc ++ [s[k]], v2, by go_num, by omega, HT, by rw [Lib.byteCells_append]; exact hB2, hb.trans hF2.below⟩
        case measure => simp [intOf]; omega
    · have hE : merge s.data.toList = acc := by
        rw [HE.out, List.drop_of_length_le (by simp; omega), mg_nil, List.append_nil]
      have hne : acc ≠ [] := by
        rw [← hE]
        exact merge_ne s hpos
      have HF : Hid (merge s.data.toList = acc) := hE
      clear hE
      go_wp2_with fail
      refine (String_any _ v _ _ hB hne).mono ?_
      rintro e w3 ⟨rfl, hb3⟩
      go_wp2
      go_ret
      exact ⟨by rw [HF.out]; rfl, hb.trans hb3⟩

theorem merge_any (s : ByteArray) (m : Int) (w : World) (hs : s.size ≤ 4194304) (hm : w.cell? ⟨0, 0, none⟩ = some (.int .i64 m)) :
    Calls Try.prog 11 #[.string s] w fun e w' => e = .returned (.string ⟨(merge s.data.toList).toArray⟩) ∧ Below w.heap.size w w' := by
  cases h : dbl s.data.toList with
  | true => exact merge_run s m w hs hm h
  | false =>
    refine (merge_plain s m w hs hm h).mono fun e w' ⟨h1, h2⟩ => ⟨?_, h2⟩
    rw [h1, merge_same _ h]

theorem zz_any (s : ByteArray) (m : Int) (w : World) (hs : s.size ≤ 4194304) (hm : w.cell? ⟨0, 0, none⟩ = some (.int .i64 m)) :
    Calls Try.prog 6 #[.string s] w fun e w' => e = .returned (.string ⟨(merge s.data.toList).toArray⟩) ∧ Below w.heap.size w w' := by
  go_enter Try.func6, Try.ntmps6
  go_wp2_with (go_at_call 11; refine (merge_any _ m _ hs hm).mono ?_; rintro e w' ⟨rfl, hb⟩)
  go_ret
  exact ⟨rfl, hb⟩

end Go.Proofs.Qxb6602004a
