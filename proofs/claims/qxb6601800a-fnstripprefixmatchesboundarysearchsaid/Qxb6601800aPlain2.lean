/-
  Seat b6601800a: THE PLAIN MATHEMATICS of stripping, over lists of bytes. Nothing of Go in sight.
-/
import Derived.Test.Qxb6601800aPlain
namespace Go.Proofs.Qxb6601800a

/-- where the slash behind n slashes stands; the length where there is none -/
def cut : Nat → List UInt8 → Nat
  | _, [] => 0
  | 0, c :: t => if c = 47 then 0 else cut 0 t + 1
  | n + 1, c :: t => if c = 47 then cut n t + 1 else cut (n + 1) t + 1

theorem cut_nil (n : Nat) : cut n [] = 0 := by cases n <;> simp [cut]
theorem cut_other (n : Nat) (c : UInt8) (t : List UInt8) (h : c ≠ 47) : cut n (c :: t) = cut n t + 1 := by cases n <;> simp [cut, h]
theorem cut_here (t : List UInt8) : cut 0 (47 :: t) = 0 := by simp [cut]
theorem cut_slash (n : Nat) (t : List UInt8) : cut (n + 1) (47 :: t) = cut n t + 1 := by simp [cut]

theorem cut_le (n : Nat) (l : List UInt8) : cut n l ≤ l.length := by
  induction l generalizing n with
  | nil => simp [cut_nil]
  | cons c t ih =>
    by_cases h : c = 47
    · subst h
      cases n with
      | zero => simp [cut_here]
      | succ n => rw [cut_slash]; have := ih n; simp; omega
    · rw [cut_other n c t h]; have := ih n; simp; omega

/-- what StripPrefix computes -/
def strip (P Q : List UInt8) : List UInt8 :=
  if Q = [] then P
  else if norm (P.take (cut (Q.count 47) P)) = norm Q then (if cut (Q.count 47) P = P.length then [47] else P.drop (cut (Q.count 47) P)) else P

theorem up_fin : ∀ a : Fin 16, isHex (up a.val) = true ∧ hexV (up a.val) = a.val ∧ up a.val ≠ 47 := by decide
theorem up_hex {a : Nat} (h : a < 16) : isHex (up a) = true := (up_fin ⟨a, h⟩).1
theorem up_val {a : Nat} (h : a < 16) : hexV (up a) = a := (up_fin ⟨a, h⟩).2.1
theorem up_ne {a : Nat} (h : a < 16) : up a ≠ 47 := (up_fin ⟨a, h⟩).2.2

/-- What normalising has written it leaves as it is. -/
theorem norm_spell (c : UInt8) (t : List UInt8) : norm (spell c ++ t) = spell c ++ norm t := by
  have hc : c.toNat < 256 := c.toNat_lt
  cases hu : unres c with
  | true =>
    have e : spell c = [c] := by simp [spell, hu]
    rw [e]
    show norm (c :: t) = c :: norm t
    refine norm_other c t ?_
    intro h
    subst h
    exact absurd hu (by decide)
  | false =>
    have ha : c.toNat / 16 < 16 := by omega
    have hb : c.toNat % 16 < 16 := by omega
    have e : spell c = [37, up (c.toNat / 16), up (c.toNat % 16)] := by simp [spell, hu]
    have eo : oct (up (c.toNat / 16)) (up (c.toNat % 16)) = c := by
      apply UInt8.toNat_inj.1
      rw [oct_toNat, up_val ha, up_val hb]
      omega
    have := norm_oct (up (c.toNat / 16)) (up (c.toNat % 16)) t (up_hex ha) (up_hex hb)
    rw [eo] at this
    rw [e] at this ⊢
    exact this

theorem norm_idem (l : List UInt8) : norm (norm l) = norm l := by
  refine tok_ind (P := fun l => norm (norm l) = norm l) ?_ ?_ ?_ ?_ l
  · rw [norm_nil, norm_nil]
  · intro c t hc ih
    rw [norm_other c t hc, norm_other c _ hc, ih]
  · intro h k r hh hk ih
    rw [norm_oct h k r hh hk, norm_spell, ih]
  · intro t ht ih
    rw [norm_bare t ht, ← spell_37, norm_spell, ih]

theorem slash_spell (c : UInt8) : (spell c).count 47 = 0 := by
  have hc : c.toNat < 256 := c.toNat_lt
  rw [List.count_eq_zero]
  cases hu : unres c with
  | true =>
    have e : spell c = [c] := by simp [spell, hu]
    rw [e]
    intro h
    simp at h
    subst h
    exact absurd hu (by decide)
  | false =>
    have ha : c.toNat / 16 < 16 := by omega
    have hb : c.toNat % 16 < 16 := by omega
    have e : spell c = [37, up (c.toNat / 16), up (c.toNat % 16)] := by simp [spell, hu]
    rw [e]
    intro h
    simp only [List.mem_cons, List.not_mem_nil, or_false] at h
    rcases h with h | h | h
    · exact absurd h (by decide)
    · exact up_ne ha h.symm
    · exact up_ne hb h.symm

theorem hex_ne {h : UInt8} (hh : isHex h = true) : h ≠ 47 := by
  intro e
  subst e
  exact absurd hh (by decide)

/-- No slash is made or lost. -/
theorem norm_count (l : List UInt8) : (norm l).count 47 = l.count 47 := by
  refine tok_ind (P := fun l => (norm l).count 47 = l.count 47) ?_ ?_ ?_ ?_ l
  · rw [norm_nil]
  · intro c t hc ih
    rw [norm_other c t hc, List.count_cons, List.count_cons, ih]
  · intro h k r hh hk ih
    rw [norm_oct h k r hh hk, List.count_append, slash_spell, ih]
    have h1 := hex_ne hh
    have h2 := hex_ne hk
    simp [h1, h2]
  · intro t ht ih
    rw [norm_bare t ht, List.count_append, ih]
    simp

theorem norm_eq_nil (l : List UInt8) : norm l = [] ↔ l = [] := by
  constructor
  · intro h
    rcases tok_cases l with rfl | ⟨c, t, hc, rfl⟩ | ⟨x, k, r, hx, hk, rfl⟩ | ⟨t, ht, rfl⟩
    · rfl
    · rw [norm_other c t hc] at h; cases h
    · rw [norm_oct x k r hx hk] at h
      have := spell_pos (oct x k)
      have h2 := congrArg List.length h
      simp only [List.length_append, List.length_nil] at h2
      omega
    · rw [norm_bare t ht] at h; cases h
  · rintro rfl
    exact norm_nil

/-- Any spelling of what is stripped strips alike. -/
theorem strip_spelling (P Q : List UInt8) : strip P (norm Q) = strip P Q := by
  unfold strip
  rw [norm_count, norm_idem]
  by_cases h : Q = []
  · rw [if_pos h, if_pos ((norm_eq_nil Q).2 h)]
  · rw [if_neg h, if_neg (fun e => h ((norm_eq_nil Q).1 e))]

/-- a text parted at a segment's end, n slashes ahead of it (at the text's end: at most n) -/
def Parted (n : Nat) (A R : List UInt8) : Prop := (R = [] ∧ A.count 47 ≤ n) ∨ ∃ R', R = 47 :: R' ∧ A.count 47 = n

theorem cut_parted {n : Nat} {A R : List UInt8} (h : Parted n A R) : cut n (A ++ R) = A.length := by
  induction A generalizing n with
  | nil =>
    rcases h with ⟨rfl, _⟩ | ⟨R', rfl, h⟩
    · simp [cut_nil]
    · simp at h
      subst h
      simp [cut_here]
  | cons c A ih =>
    by_cases hc : c = 47
    · subst hc
      have hn : ∃ m, n = m + 1 ∧ Parted m A R := by
        rcases h with ⟨rfl, h⟩ | ⟨R', rfl, h⟩
        · simp at h
          exact ⟨n - 1, by omega, .inl ⟨rfl, by omega⟩⟩
        · simp at h
          exact ⟨n - 1, by omega, .inr ⟨R', rfl, by omega⟩⟩
      obtain ⟨m, rfl, hm⟩ := hn
      rw [List.cons_append, cut_slash, ih hm, List.length_cons]
    · have hn : Parted n A R := by
        rcases h with ⟨rfl, h⟩ | ⟨R', rfl, h⟩
        · rw [List.count_cons_of_ne hc] at h
          exact .inl ⟨rfl, h⟩
        · rw [List.count_cons_of_ne hc] at h
          exact .inr ⟨R', rfl, h⟩
      rw [List.cons_append, cut_other _ _ _ hc, ih hn, List.length_cons]

theorem parted_cut (n : Nat) (l : List UInt8) : Parted n (l.take (cut n l)) (l.drop (cut n l)) := by
  induction l generalizing n with
  | nil => exact .inl ⟨by simp, by simp [cut_nil]⟩
  | cons c t ih =>
    by_cases hc : c = 47
    · subst hc
      cases n with
      | zero =>
        rw [cut_here]
        exact .inr ⟨t, rfl, by simp⟩
      | succ n =>
        rw [cut_slash, List.take_succ_cons, List.drop_succ_cons]
        rcases ih n with ⟨h1, h2⟩ | ⟨R', h1, h2⟩
        · exact .inl ⟨h1, by simp; omega⟩
        · exact .inr ⟨R', h1, by simp; omega⟩
    · rw [cut_other _ _ _ hc, List.take_succ_cons, List.drop_succ_cons]
      rcases ih n with ⟨h1, h2⟩ | ⟨R', h1, h2⟩
      · exact .inl ⟨h1, by rw [List.count_cons_of_ne hc]; exact h2⟩
      · exact .inr ⟨R', h1, by rw [List.count_cons_of_ne hc]; exact h2⟩

theorem norm_parted {n : Nat} {A R : List UInt8} (h : Parted n A R) : norm (A ++ R) = norm A ++ norm R ∧ Parted n (norm A) (norm R) := by
  rcases h with ⟨rfl, h⟩ | ⟨R', rfl, h⟩
  · exact ⟨by simp [norm_nil], .inl ⟨norm_nil, by rw [norm_count]; exact h⟩⟩
  · rw [norm_slash, norm_other 47 R' (by decide)]
    exact ⟨rfl, .inr ⟨norm R', rfl, by rw [norm_count]; exact h⟩⟩

/-- Stripping, then normalising: normalising, then stripping. -/
theorem strip_norm (P Q : List UInt8) : norm (strip P Q) = strip (norm P) Q := by
  by_cases hQ : Q = []
  · unfold strip
    rw [if_pos hQ, if_pos hQ]
  · have hp := parted_cut (Q.count 47) P
    obtain ⟨e1, hp'⟩ := norm_parted hp
    rw [List.take_append_drop] at e1
    have e2 := cut_parted hp'
    rw [← e1] at e2
    have et : (norm P).take (cut (Q.count 47) (norm P)) = norm (P.take (cut (Q.count 47) P)) := by rw [e2, e1]; simp
    have ed : (norm P).drop (cut (Q.count 47) (norm P)) = norm (P.drop (cut (Q.count 47) P)) := by rw [e2, e1]; simp
    have el : cut (Q.count 47) (norm P) = (norm P).length ↔ cut (Q.count 47) P = P.length := by
      have h1 := norm_eq_nil (P.drop (cut (Q.count 47) P))
      rw [← ed, List.drop_eq_nil_iff, List.drop_eq_nil_iff] at h1
      have := cut_le (Q.count 47) P
      have := cut_le (Q.count 47) (norm P)
      omega
    unfold strip
    rw [if_neg hQ, if_neg hQ, et, ed, norm_idem]
    by_cases h1 : norm (P.take (cut (Q.count 47) P)) = norm Q
    · rw [if_pos h1, if_pos h1]
      by_cases h2 : cut (Q.count 47) P = P.length
      · rw [if_pos h2, if_pos (el.2 h2)]
        rfl
      · rw [if_neg h2, if_neg (fun h => h2 (el.1 h))]
    · rw [if_neg h1, if_neg h1]

end Go.Proofs.Qxb6601800a
