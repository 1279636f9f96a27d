/-
  Seat b6601800a: THE PLAIN MATHEMATICS of percent-normalising, over lists of bytes. Nothing of Go in sight.
-/
namespace Go.Proofs.Qxb6601800a

/-- a hex digit -/
def isHex (c : UInt8) : Bool := (decide (48 ≤ c.toNat) && decide (c.toNat ≤ 57)) || (decide (97 ≤ c.toNat) && decide (c.toNat ≤ 102)) || (decide (65 ≤ c.toNat) && decide (c.toNat ≤ 70))
/-- its value (0 at any other byte) -/
def hexV (c : UInt8) : Nat := if 48 ≤ c.toNat ∧ c.toNat ≤ 57 then c.toNat - 48 else if 97 ≤ c.toNat ∧ c.toNat ≤ 102 then c.toNat - 87 else if 65 ≤ c.toNat ∧ c.toNat ≤ 70 then c.toNat - 55 else 0
/-- unreserved, of a byte's number -/
def unresN (n : Nat) : Bool := (decide (97 ≤ n) && decide (n ≤ 122)) || (decide (65 ≤ n) && decide (n ≤ 90)) || (decide (48 ≤ n) && decide (n ≤ 57)) || decide (n = 45) || decide (n = 46) || decide (n = 95) || decide (n = 126)
def unres (c : UInt8) : Bool := unresN c.toNat
/-- an upper-case hex digit -/
def upN (v : Nat) : Nat := if v < 10 then 48 + v else 55 + v
def up (v : Nat) : UInt8 := UInt8.ofNat (upN v)
/-- the octet that two hex digits write -/
def oct (h l : UInt8) : UInt8 := UInt8.ofNat (hexV h * 16 + hexV l)
/-- an octet as normalising writes it -/
def spell (c : UInt8) : List UInt8 := if unres c then [c] else [37, up (c.toNat / 16), up (c.toNat % 16)]

/-- the whole normalising, token by token -/
def norm : List UInt8 → List UInt8
  | [] => []
  | [c] => if c = 37 then [37, 50, 53] else [c]
  | [c, d] => if c = 37 then [37, 50, 53] ++ norm [d] else c :: norm [d]
  | c :: h :: l :: r =>
    if c = 37 then
      if isHex h && isHex l then spell (oct h l) ++ norm r else [37, 50, 53] ++ norm (h :: l :: r)
    else c :: norm (h :: l :: r)

theorem norm_nil : norm [] = [] := by simp [norm]

theorem norm_other (c : UInt8) (t : List UInt8) (h : c ≠ 37) : norm (c :: t) = c :: norm t := by
  match t with
  | [] => simp [norm, h]
  | [_] => simp [norm, h]
  | _ :: _ :: _ => simp [norm, h]

/-- a '%' that two hex digits follow -/
theorem norm_oct (h l : UInt8) (r : List UInt8) (hh : isHex h = true) (hl : isHex l = true) : norm (37 :: h :: l :: r) = spell (oct h l) ++ norm r := by
  simp [norm, hh, hl]

/-- does a text start with two hex digits? -/
def twoHex : List UInt8 → Bool
  | h :: l :: _ => isHex h && isHex l
  | _ => false

theorem norm_bare (t : List UInt8) (h : twoHex t = false) : norm (37 :: t) = [37, 50, 53] ++ norm t := by
  match t, h with
  | [], _ => simp [norm]
  | [_], _ => simp [norm]
  | a :: b :: r, h =>
    simp only [twoHex] at h
    simp [norm, h]

theorem spell_37 : spell 37 = [37, 50, 53] := by decide

theorem isHex_iff (c : UInt8) : isHex c = true ↔ ((48 ≤ c.toNat ∧ c.toNat ≤ 57) ∨ (97 ≤ c.toNat ∧ c.toNat ≤ 102) ∨ (65 ≤ c.toNat ∧ c.toNat ≤ 70)) := by
  simp only [isHex, Bool.or_eq_true, Bool.and_eq_true, decide_eq_true_eq]
  omega
theorem isHex_t {c : UInt8} (h : (48 ≤ c.toNat ∧ c.toNat ≤ 57) ∨ (97 ≤ c.toNat ∧ c.toNat ≤ 102) ∨ (65 ≤ c.toNat ∧ c.toNat ≤ 70)) : isHex c = true := (isHex_iff c).2 h
theorem isHex_f {c : UInt8} (h : ¬ ((48 ≤ c.toNat ∧ c.toNat ≤ 57) ∨ (97 ≤ c.toNat ∧ c.toNat ≤ 102) ∨ (65 ≤ c.toNat ∧ c.toNat ≤ 70))) : isHex c = false := by
  cases e : isHex c
  · rfl
  · exact absurd ((isHex_iff c).1 e) h
theorem hexV_lt (c : UInt8) : hexV c < 16 := by
  unfold hexV
  repeat' split
  all_goals omega
theorem unresN_iff (n : Nat) : unresN n = true ↔ ((97 ≤ n ∧ n ≤ 122) ∨ (65 ≤ n ∧ n ≤ 90) ∨ (48 ≤ n ∧ n ≤ 57) ∨ n = 45 ∨ n = 46 ∨ n = 95 ∨ n = 126) := by
  simp only [unresN, Bool.or_eq_true, Bool.and_eq_true, decide_eq_true_eq]
  omega
theorem unres_t {c : UInt8} (h : (97 ≤ c.toNat ∧ c.toNat ≤ 122) ∨ (65 ≤ c.toNat ∧ c.toNat ≤ 90) ∨ (48 ≤ c.toNat ∧ c.toNat ≤ 57) ∨ c.toNat = 45 ∨ c.toNat = 46 ∨ c.toNat = 95 ∨ c.toNat = 126) : unres c = true := (unresN_iff _).2 h
theorem unres_f {c : UInt8} (h : ¬ ((97 ≤ c.toNat ∧ c.toNat ≤ 122) ∨ (65 ≤ c.toNat ∧ c.toNat ≤ 90) ∨ (48 ≤ c.toNat ∧ c.toNat ≤ 57) ∨ c.toNat = 45 ∨ c.toNat = 46 ∨ c.toNat = 95 ∨ c.toNat = 126)) : unres c = false := by
  unfold unres
  cases e : unresN c.toNat
  · rfl
  · exact absurd ((unresN_iff _).1 e) h
theorem oct_toNat (h l : UInt8) : (oct h l).toNat = hexV h * 16 + hexV l := by
  have a := hexV_lt h
  have b := hexV_lt l
  unfold oct
  rw [UInt8.toNat_ofNat']
  omega

theorem norm_skip (a t : List UInt8) (h : 37 ∉ a) : norm (a ++ t) = a ++ norm t := by
  induction a with
  | nil => rfl
  | cons c a ih =>
    have h1 : c ≠ 37 := fun e => h (by simp [e])
    have h2 : 37 ∉ a := fun e => h (by simp [e])
    rw [List.cons_append, norm_other c _ h1, ih h2, List.cons_append]

theorem norm_free (a : List UInt8) (h : 37 ∉ a) : norm a = a := by
  have := norm_skip a [] h
  rw [List.append_nil, norm_nil, List.append_nil] at this
  exact this

theorem spell_pos (c : UInt8) : 0 < (spell c).length := by unfold spell; split <;> simp
theorem spell_le (c : UInt8) : (spell c).length ≤ 3 := by unfold spell; split <;> simp

/-- Every text is empty, or begins with a byte that is kept, with an octet, or with a bare '%'. -/
theorem tok_cases (l : List UInt8) : l = [] ∨ (∃ c t, c ≠ 37 ∧ l = c :: t) ∨ (∃ h k r, isHex h = true ∧ isHex k = true ∧ l = 37 :: h :: k :: r) ∨ (∃ t, twoHex t = false ∧ l = 37 :: t) := by
  match l with
  | [] => exact .inl rfl
  | c :: t =>
    by_cases hc : c = 37
    · subst hc
      cases e : twoHex t with
      | false => exact .inr (.inr (.inr ⟨t, e, rfl⟩))
      | true =>
        match t, e with
        | h :: k :: r, e =>
          simp only [twoHex, Bool.and_eq_true] at e
          exact .inr (.inr (.inl ⟨h, k, r, e.1, e.2, rfl⟩))
    · exact .inr (.inl ⟨c, t, hc, rfl⟩)

theorem norm_length (l : List UInt8) : (norm l).length ≤ 3 * l.length := by
  have H : ∀ n (l : List UInt8), l.length ≤ n → (norm l).length ≤ 3 * l.length := by
    intro n
    induction n with
    | zero =>
      intro l hl
      have : l = [] := List.length_eq_zero_iff.1 (by omega)
      subst this
      simp [norm_nil]
    | succ n ih =>
      intro l hl
      rcases tok_cases l with rfl | ⟨c, t, hc, rfl⟩ | ⟨h, k, r, hh, hk, rfl⟩ | ⟨t, ht, rfl⟩
      · simp [norm_nil]
      · rw [norm_other c t hc]
        have := ih t (by simp at hl; omega)
        simp; omega
      · rw [norm_oct h k r hh hk]
        have := ih r (by simp at hl; omega)
        have := spell_le (oct h k)
        simp; omega
      · rw [norm_bare t ht]
        have := ih t (by simp at hl; omega)
        simp; omega
  exact H _ l (Nat.le_refl _)

/-- what the rounds have done: bytes written, what is kept of the text up to k, what is still to do -/
def Inv (L : List UInt8) (bs : List UInt8) (p k : Nat) : Prop :=
  p ≤ k ∧ k ≤ L.length ∧ norm L = bs ++ ((L.drop p).take (k - p) ++ norm (L.drop k))

/-- the token at q -/
def Tok (L : List UInt8) (q : Nat) (c : UInt8) (wd : Nat) : Prop :=
  0 < wd ∧ wd ≤ 3 ∧ q + wd ≤ L.length ∧ norm (L.drop q) = spell c ++ norm (L.drop (q + wd))

theorem inv_start (L : List UInt8) : Inv L [] 0 0 := ⟨Nat.le_refl _, Nat.zero_le _, by simp⟩

theorem take_join (L : List UInt8) (p k q : Nat) (h1 : p ≤ k) (h2 : k ≤ q) : (L.drop p).take (k - p) ++ (L.drop k).take (q - k) = (L.drop p).take (q - p) := by
  have e : L.drop k = (L.drop p).drop (k - p) := by rw [List.drop_drop]; congr 1; omega
  rw [e]
  have : q - p = (k - p) + (q - k) := by omega
  rw [this, List.take_add]

theorem tok_step (L : List UInt8) (k j : Nat) (c : UInt8) (wd : Nat) (hfree : 37 ∉ (L.drop k).take j) (ht : Tok L (k + j) c wd) :
    norm (L.drop k) = (L.drop k).take j ++ (spell c ++ norm (L.drop (k + j + wd))) := by
  have e : L.drop k = (L.drop k).take j ++ L.drop (k + j) := by
    have := (List.take_append_drop j (L.drop k)).symm
    rwa [List.drop_drop] at this
  rw [e, norm_skip _ _ hfree, ht.2.2.2]
  congr 1
  rw [← e]

theorem inv_same {L bs : List UInt8} {p k : Nat} (h : Inv L bs p k) (j : Nat) (c : UInt8) (wd : Nat) (hfree : 37 ∉ (L.drop k).take j) (ht : Tok L (k + j) c wd) (heq : spell c = (L.drop (k + j)).take wd) :
    Inv L bs p (k + j + wd) := by
  obtain ⟨h1, h2, h3⟩ := h
  refine ⟨by omega, ht.2.2.1, ?_⟩
  rw [h3, tok_step L k j c wd hfree ht, heq]
  congr 1
  have a1 := take_join L p k (k + j) h1 (by omega)
  have a2 := take_join L p (k + j) (k + j + wd) (by omega) (by omega)
  rw [show k + j - k = j by omega] at a1
  rw [show k + j + wd - (k + j) = wd by omega] at a2
  rw [← a2, ← a1]
  simp only [List.append_assoc]

theorem inv_diff {L bs : List UInt8} {p k : Nat} (h : Inv L bs p k) (j : Nat) (c : UInt8) (wd : Nat) (hfree : 37 ∉ (L.drop k).take j) (ht : Tok L (k + j) c wd) :
    Inv L ((bs ++ (L.drop p).take (k + j - p)) ++ spell c) (k + j + wd) (k + j + wd) := by
  obtain ⟨h1, h2, h3⟩ := h
  refine ⟨by omega, ht.2.2.1, ?_⟩
  rw [h3, tok_step L k j c wd hfree ht]
  have a1 := take_join L p k (k + j) h1 (by omega)
  rw [show k + j - k = j by omega] at a1
  rw [← a1]
  simp only [List.append_assoc, Nat.sub_self, List.take_zero, List.nil_append]

theorem inv_end {L bs : List UInt8} {p k : Nat} (h : Inv L bs p k) (hfree : 37 ∉ L.drop k) : norm L = bs ++ L.drop p := by
  obtain ⟨h1, h2, h3⟩ := h
  rw [h3, norm_free _ hfree]
  congr 1
  have := (List.take_append_drop (k - p) (L.drop p)).symm
  rw [List.drop_drop, show p + (k - p) = k by omega] at this
  exact this.symm

theorem inv_len {L bs : List UInt8} {p k : Nat} (h : Inv L bs p k) : bs.length ≤ 3 * L.length := by
  have := norm_length L
  rw [h.2.2] at this
  simp only [List.length_append] at this
  omega

/-- Induction over a text's tokens. -/
theorem tok_ind {P : List UInt8 → Prop} (h0 : P []) (h1 : ∀ c t, c ≠ 37 → P t → P (c :: t)) (h2 : ∀ h k r, isHex h = true → isHex k = true → P r → P (37 :: h :: k :: r))
    (h3 : ∀ t, twoHex t = false → P t → P (37 :: t)) (l : List UInt8) : P l := by
  have H : ∀ n (l : List UInt8), l.length ≤ n → P l := by
    intro n
    induction n with
    | zero =>
      intro l hl
      have : l = [] := List.length_eq_zero_iff.1 (by omega)
      subst this
      exact h0
    | succ n ih =>
      intro l hl
      rcases tok_cases l with rfl | ⟨c, t, hc, rfl⟩ | ⟨h, k, r, hh, hk, rfl⟩ | ⟨t, ht, rfl⟩
      · exact h0
      · exact h1 c t hc (ih t (by simp at hl; omega))
      · exact h2 h k r hh hk (ih r (by simp at hl; omega))
      · exact h3 t ht (ih t (by simp at hl; omega))
  exact H _ l (Nat.le_refl _)

theorem twoHex_slash (t b : List UInt8) (h : twoHex t = false) : twoHex (t ++ 47 :: b) = false := by
  match t, h with
  | [], _ =>
    show twoHex (47 :: b) = false
    cases b <;> simp [twoHex, isHex]
  | [x], _ => simp [twoHex, isHex]
  | x :: y :: r, h => exact h

/-- Normalising goes segment by segment. -/
theorem norm_slash (a b : List UInt8) : norm (a ++ 47 :: b) = norm a ++ 47 :: norm b := by
  refine tok_ind (P := fun a => norm (a ++ 47 :: b) = norm a ++ 47 :: norm b) ?_ ?_ ?_ ?_ a
  · rw [norm_nil, List.nil_append, List.nil_append, norm_other _ _ (by decide)]
  · intro c t hc ih
    rw [List.cons_append, norm_other c _ hc, norm_other c _ hc, ih, List.cons_append]
  · intro h k r hh hk ih
    show norm (37 :: h :: k :: (r ++ 47 :: b)) = _
    rw [norm_oct h k _ hh hk, norm_oct h k _ hh hk, ih, List.append_assoc]
  · intro t ht ih
    rw [List.cons_append, norm_bare _ (twoHex_slash t b ht), norm_bare t ht, ih, List.append_assoc]

end Go.Proofs.Qxb6601800a
