/-
  Seat b6602004a: THE PLAIN MATHEMATICS of the segment model. Nothing of Go in sight.
-/
import Derived.Test.Qxb6602004aPlain
namespace Go.Proofs.Qxb6602004a

/-- what is still to be written when m segments are written and R is left -/
def pend (m : Nat) (R : List UInt8) : List UInt8 := if m = 0 then mg false R else 47 :: mg true R

/-- at a round's head: a: the segment's start; k: where the scan stands; m: segments behind; acc: what is written -/
def Seg (L : List UInt8) (a k m : Nat) (acc : List UInt8) : Prop :=
  a ≤ k ∧ k ≤ L.length ∧ m = (L.take k).count 47 ∧ 47 ∉ (L.drop a).take (k - a) ∧ merge L = acc ++ pend m (L.drop a)

theorem seg_start (L : List UInt8) : Seg L 0 0 0 [] := ⟨Nat.le_refl _, Nat.zero_le _, by simp, by simp, by simp [pend, merge]⟩

theorem take_one (L : List UInt8) (k : Nat) (c : UInt8) (h : L[k]? = some c) : L.take (k + 1) = L.take k ++ [c] := by
  obtain ⟨hk, he⟩ := List.getElem?_eq_some_iff.1 h
  rw [List.take_succ_eq_append_getElem hk, he]

theorem seg_step {L acc : List UInt8} {a k m : Nat} {c : UInt8} (h : Seg L a k m acc) (hk : L[k]? = some c) (hc : c ≠ 47) : Seg L a (k + 1) m acc := by
  obtain ⟨h1, h2, h3, h4, h5⟩ := h
  have hlt := (List.getElem?_eq_some_iff.1 hk).1
  refine ⟨by omega, by omega, ?_, ?_, h5⟩
  · rw [take_one L k c hk, List.count_append, h3]
    simp [hc]
  · have e : (L.drop a)[k - a]? = some c := by rw [List.getElem?_drop, show a + (k - a) = k by omega, hk]
    rw [show k + 1 - a = (k - a) + 1 by omega, take_one _ _ c e]
    simp [h4, Ne.symm hc]

theorem drop_parted {L : List UInt8} {a k : Nat} (h : a ≤ k) (hk : L[k]? = some 47) : L.drop a = (L.drop a).take (k - a) ++ 47 :: L.drop (k + 1) := by
  obtain ⟨hlt, he⟩ := List.getElem?_eq_some_iff.1 hk
  have e1 := (List.take_append_drop (k - a) (L.drop a)).symm
  rw [List.drop_drop, show a + (k - a) = k by omega, List.drop_eq_getElem_cons hlt, he] at e1
  exact e1

theorem count_next {L : List UInt8} {k m : Nat} (h3 : m = (L.take k).count 47) (hk : L[k]? = some 47) : m + 1 = (L.take (k + 1)).count 47 := by
  rw [take_one L k 47 hk, List.count_append, h3]
  simp

/-- fewer than all slashes lie ahead of a slash -/
theorem count_lt {L acc : List UInt8} {a k m : Nat} (h : Seg L a k m acc) (hk : L[k]? = some 47) : m < L.count 47 := by
  have h1 := count_next h.2.2.1 hk
  have h2 : (L.take (k + 1)).count 47 ≤ L.count 47 := List.Sublist.count_le 47 (List.take_sublist _ _)
  omega

/-- a slash behind the first segment -/
theorem seg_first {L acc : List UInt8} {a k : Nat} (h : Seg L a k 0 acc) (hk : L[k]? = some 47) : Seg L (k + 1) (k + 1) (0 + 1) (acc ++ (L.drop a).take (k - a)) := by
  obtain ⟨h1, h2, h3, h4, h5⟩ := h
  have hlt := (List.getElem?_eq_some_iff.1 hk).1
  refine ⟨Nat.le_refl _, by omega, count_next h3 hk, by simp, ?_⟩
  have e := drop_parted h1 hk
  rw [h5]
  unfold pend
  rw [if_pos rfl, if_neg (by omega), e, mg_free' _ _ h4, mg_slash, ← e, List.append_assoc]

/-- a slash behind a later segment that is not empty -/
theorem seg_full {L acc : List UInt8} {a k m : Nat} (h : Seg L a k m acc) (hm : m ≠ 0) (hk : L[k]? = some 47) (hne : (L.drop a).take (k - a) ≠ []) : Seg L (k + 1) (k + 1) (m + 1) ((acc ++ [47]) ++ (L.drop a).take (k - a)) := by
  obtain ⟨h1, h2, h3, h4, h5⟩ := h
  have hlt := (List.getElem?_eq_some_iff.1 hk).1
  refine ⟨Nat.le_refl _, by omega, count_next h3 hk, by simp, ?_⟩
  have e := drop_parted h1 hk
  rw [h5]
  unfold pend
  rw [if_neg hm, if_neg (by omega), e, mg_free true _ _ h4 hne, mg_slash, ← e]
  simp

/-- a slash behind a later segment that is empty -/
theorem seg_void {L acc : List UInt8} {a k m : Nat} (h : Seg L a k m acc) (hm : m ≠ 0) (hk : L[k]? = some 47) (he : (L.drop a).take (k - a) = []) : Seg L (k + 1) (k + 1) (m + 1) acc := by
  obtain ⟨h1, h2, h3, h4, h5⟩ := h
  have hlt := (List.getElem?_eq_some_iff.1 hk).1
  refine ⟨Nat.le_refl _, by omega, count_next h3 hk, by simp, ?_⟩
  have e := drop_parted h1 hk
  rw [he, List.nil_append] at e
  rw [h5]
  unfold pend
  rw [if_neg hm, if_neg (by omega), e, mg_more]

theorem seg_tail {L acc : List UInt8} {a m : Nat} (h : Seg L a L.length m acc) : (L.drop a).take (L.length - a) = L.drop a ∧ 47 ∉ L.drop a ∧ m = L.count 47 := by
  obtain ⟨h1, h2, h3, h4, h5⟩ := h
  have e : (L.drop a).take (L.length - a) = L.drop a := List.take_of_length_le (by simp)
  rw [e] at h4
  rw [List.take_length] at h3
  exact ⟨e, h4, h3⟩

/-- the last segment, the only one -/
theorem seg_only {L acc : List UInt8} {a : Nat} (h : Seg L a L.length 0 acc) : merge L = acc ++ L.drop a := by
  have ht := seg_tail h
  rw [h.2.2.2.2]
  unfold pend
  rw [if_pos rfl]
  have := mg_free' (L.drop a) [] ht.2.1
  rw [List.append_nil, mg_nil, List.append_nil] at this
  rw [this]

/-- the last segment of several -/
theorem seg_last {L acc : List UInt8} {a m : Nat} (h : Seg L a L.length m acc) (hm : m ≠ 0) : merge L = (acc ++ [47]) ++ L.drop a := by
  have ht := seg_tail h
  rw [h.2.2.2.2]
  unfold pend
  rw [if_neg hm]
  have : mg true (L.drop a) = L.drop a := by
    by_cases hn : L.drop a = []
    · rw [hn, mg_nil]
    · have := mg_free true (L.drop a) [] ht.2.1 hn
      rw [List.append_nil, mg_nil, List.append_nil] at this
      exact this
  rw [this]
  simp

theorem seg_len {L acc : List UInt8} {a k m : Nat} (h : Seg L a k m acc) : acc.length ≤ L.length := by
  have h1 := merge_len L
  rw [h.2.2.2.2] at h1
  simp only [List.length_append] at h1
  omega

end Go.Proofs.Qxb6602004a
