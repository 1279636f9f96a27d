/-
  Seat b6602004a: THE PLAIN MATHEMATICS of merging slashes, over lists of bytes. Nothing of Go in sight.
-/
namespace Go.Proofs.Qxb6602004a

/-- each run of slashes made one; 'prev': a slash stands right ahead -/
def mg : Bool → List UInt8 → List UInt8
  | _, [] => []
  | true, c :: t => if c = 47 then mg true t else c :: mg false t
  | false, c :: t => if c = 47 then 47 :: mg true t else c :: mg false t
def merge (l : List UInt8) : List UInt8 := mg false l

theorem mg_nil (p : Bool) : mg p [] = [] := by cases p <;> simp [mg]
theorem mg_other (p : Bool) (c : UInt8) (t : List UInt8) (h : c ≠ 47) : mg p (c :: t) = c :: mg false t := by cases p <;> simp [mg, h]
theorem mg_slash (t : List UInt8) : mg false (47 :: t) = 47 :: mg true t := by simp [mg]
theorem mg_more (t : List UInt8) : mg true (47 :: t) = mg true t := by simp [mg]

theorem mg_free (p : Bool) (a t : List UInt8) (h : 47 ∉ a) (hne : a ≠ []) : mg p (a ++ t) = a ++ mg false t := by
  induction a generalizing p with
  | nil => exact absurd rfl hne
  | cons c a ih =>
    have h1 : c ≠ 47 := fun e => h (by simp [e])
    have h2 : 47 ∉ a := fun e => h (by simp [e])
    rw [List.cons_append, mg_other p c _ h1, List.cons_append]
    congr 1
    cases a with
    | nil => rfl
    | cons d a => exact ih false h2 (by simp)

theorem mg_free' (a t : List UInt8) (h : 47 ∉ a) : mg false (a ++ t) = a ++ mg false t := by
  cases a with
  | nil => rfl
  | cons c a => exact mg_free false _ t h (by simp)

/-- does a text hold two slashes side by side? -/
def dbl : List UInt8 → Bool
  | [] => false
  | [_] => false
  | c :: d :: t => (c == 47 && d == 47) || dbl (d :: t)

theorem dbl_mg (p : Bool) (l : List UInt8) : dbl (mg p l) = false ∧ (p = true → ∀ t, mg p l ≠ 47 :: t) := by
  induction l generalizing p with
  | nil => cases p <;> simp [mg, dbl]
  | cons c t ih =>
    by_cases hc : c = 47
    · subst hc
      cases p with
      | true =>
        rw [mg_more]
        exact ih true
      | false =>
        rw [mg_slash]
        refine ⟨?_, by simp⟩
        have h1 := ih true
        match hm : mg true t with
        | [] => simp [dbl]
        | d :: r =>
          rw [hm] at h1
          have hd : d ≠ 47 := fun e => h1.2 rfl r (by rw [e])
          simp only [dbl, h1.1, Bool.or_false]
          simp [hd]
    · rw [mg_other p c t hc]
      refine ⟨?_, fun _ r e => hc (List.cons.inj e).1⟩
      have h1 := (ih false).1
      match hm : mg false t with
      | [] => simp [dbl]
      | d :: r =>
        rw [hm] at h1
        simp only [dbl, h1, Bool.or_false]
        simp [hc]

theorem dbl_merge (l : List UInt8) : dbl (merge l) = false := (dbl_mg false l).1

/-- where no two slashes stand side by side nothing changes -/
theorem mg_same (p : Bool) (l : List UInt8) (h : dbl l = false) (hp : p = true → ∀ t, l ≠ 47 :: t) : mg p l = l := by
  induction l generalizing p with
  | nil => exact mg_nil p
  | cons c t ih =>
    have ht : dbl t = false := by
      cases t with
      | nil => rfl
      | cons d t =>
        simp only [dbl, Bool.or_eq_false_iff] at h
        exact h.2
    by_cases hc : c = 47
    · subst hc
      cases p with
      | true => exact absurd rfl (hp rfl t)
      | false =>
        rw [mg_slash, ih true ht]
        intro _ r e
        subst e
        simp [dbl] at h
    · rw [mg_other p c t hc, ih false ht (by simp)]

theorem merge_same (l : List UInt8) (h : dbl l = false) : merge l = l := mg_same false l h (by simp)
theorem merge_idem (l : List UInt8) : merge (merge l) = merge l := merge_same _ (dbl_merge l)

theorem mg_len (p : Bool) (l : List UInt8) : (mg p l).length ≤ l.length := by
  induction l generalizing p with
  | nil => simp [mg_nil]
  | cons c t ih =>
    by_cases hc : c = 47
    · subst hc
      cases p with
      | true => rw [mg_more]; have := ih true; simp; omega
      | false => rw [mg_slash]; have := ih true; simp; omega
    · rw [mg_other p c t hc]; have := ih false; simp; omega

theorem merge_len (l : List UInt8) : (merge l).length ≤ l.length := mg_len false l

theorem merge_eq_iff (l : List UInt8) : merge l = l ↔ dbl l = false :=
  ⟨fun h => by rw [← h]; exact dbl_merge l, merge_same l⟩

/-- what is no slash, in its order -/
def bare (l : List UInt8) : List UInt8 := l.filter (fun c => c != 47)

theorem bare_mg (p : Bool) (l : List UInt8) : bare (mg p l) = bare l := by
  induction l generalizing p with
  | nil => rw [mg_nil]
  | cons c t ih =>
    by_cases hc : c = 47
    · subst hc
      cases p with
      | true => rw [mg_more, ih true]; simp [bare]
      | false =>
        rw [mg_slash]
        have := ih true
        simpa [bare] using this
    · rw [mg_other p c t hc]
      have := ih false
      simp only [bare] at this ⊢
      rw [List.filter_cons, List.filter_cons, this]

theorem bare_merge (l : List UInt8) : bare (merge l) = bare l := bare_mg false l

theorem merge_head (c : UInt8) (t : List UInt8) : ∃ r, merge (c :: t) = c :: r := by
  unfold merge
  by_cases hc : c = 47
  · subst hc
    exact ⟨_, mg_slash t⟩
  · exact ⟨_, mg_other false c t hc⟩

theorem mg_last (p : Bool) (l : List UInt8) (h : l ≠ []) : (mg p l = [] ∧ p = true ∧ l.getLast? = some 47) ∨ (mg p l).getLast? = l.getLast? := by
  induction l generalizing p with
  | nil => exact absurd rfl h
  | cons c t ih =>
    by_cases ht : t = []
    · subst ht
      by_cases hc : c = 47
      · subst hc
        cases p with
        | true => exact .inl ⟨by rw [mg_more, mg_nil], rfl, rfl⟩
        | false => exact .inr (by rw [mg_slash, mg_nil])
      · exact .inr (by rw [mg_other p c _ hc, mg_nil])
    · have e1 : (c :: t).getLast? = t.getLast? := by
        rw [List.getLast?_cons]
        cases hg : t.getLast? with
        | none => rw [List.getLast?_eq_none_iff] at hg; exact absurd hg ht
        | some x => rfl
      have e2 : ∀ (x : UInt8) (r : List UInt8), r ≠ [] → (x :: r).getLast? = r.getLast? := by
        intro x r hr
        rw [List.getLast?_cons]
        cases hg : r.getLast? with
        | none => rw [List.getLast?_eq_none_iff] at hg; exact absurd hg hr
        | some x => rfl
      by_cases hc : c = 47
      · subst hc
        cases p with
        | true =>
          rw [mg_more, e1]
          exact ih true ht
        | false =>
          rw [mg_slash, e1]
          rcases ih true ht with ⟨h1, _, h3⟩ | h1
          · rw [h1, h3]
            exact .inr rfl
          · by_cases hm : mg true t = []
            · rw [hm] at h1
              exact absurd (List.getLast?_eq_none_iff.1 h1.symm) ht
            · rw [e2 _ _ hm]
              exact .inr h1
      · rw [mg_other p c t hc, e1]
        rcases ih false ht with ⟨_, h2, _⟩ | h1
        · cases h2
        · by_cases hm : mg false t = []
          · rw [hm] at h1
            exact absurd (List.getLast?_eq_none_iff.1 h1.symm) ht
          · rw [e2 _ _ hm]
            exact .inr h1

theorem merge_last (l : List UInt8) : (merge l).getLast? = l.getLast? := by
  by_cases h : l = []
  · subst h; rfl
  · rcases mg_last false l h with ⟨_, h2, _⟩ | h1
    · cases h2
    · exact h1

end Go.Proofs.Qxb6602004a
