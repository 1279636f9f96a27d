/-
  Seat b6601800a: THE PLAIN MATHEMATICS of the search over segment boundaries. Nothing of Go in sight.
-/
import Derived.Test.Qxb6601800aPlain2
namespace Go.Proofs.Qxb6601800a

/-- a segment's end -/
def Bnd (P : List UInt8) (e : Nat) : Prop := e ≤ P.length ∧ (P.drop e = [] ∨ ∃ R', P.drop e = 47 :: R')

/-- no boundary ahead of k matches -/
def NoneTo (P Q : List UInt8) (k : Nat) : Prop := ∀ e, e < k → Bnd P e → norm (P.take e) ≠ norm Q

theorem none_start (P Q : List UInt8) : NoneTo P Q 0 := fun e he => by omega
theorem none_next {P Q : List UInt8} {k : Nat} (h : NoneTo P Q k) (hk : Bnd P k → norm (P.take k) ≠ norm Q) : NoneTo P Q (k + 1) := by
  intro e he hb
  by_cases h' : e < k
  · exact h e h' hb
  · obtain rfl : e = k := by omega
    exact hk hb

/-- A boundary whose start normalises as Q does is the one that stripping takes. -/
theorem match_cut {P Q : List UInt8} {e : Nat} (hb : Bnd P e) (hm : norm (P.take e) = norm Q) : cut (Q.count 47) P = e := by
  have hc : (P.take e).count 47 = Q.count 47 := by rw [← norm_count, hm, norm_count]
  have hp : Parted (Q.count 47) (P.take e) (P.drop e) := by
    rcases hb.2 with h | ⟨R', h⟩
    · exact .inl ⟨h, by omega⟩
    · exact .inr ⟨R', h, hc⟩
  have := cut_parted hp
  rw [List.take_append_drop, List.length_take] at this
  rw [this]
  have := hb.1
  omega

theorem strip_match {P Q : List UInt8} {e : Nat} (hQ : Q ≠ []) (hb : Bnd P e) (hm : norm (P.take e) = norm Q) : strip P Q = if e = P.length then [47] else P.drop e := by
  unfold strip
  rw [if_neg hQ, match_cut hb hm, if_pos hm]

theorem strip_none {P Q : List UInt8} (h : NoneTo P Q (P.length + 1)) : strip P Q = P := by
  unfold strip
  by_cases hQ : Q = []
  · rw [if_pos hQ]
  · rw [if_neg hQ]
    refine if_neg (h _ ?_ ⟨cut_le _ _, ?_⟩)
    · have := cut_le (Q.count 47) P
      omega
    · rcases parted_cut (Q.count 47) P with ⟨h1, _⟩ | ⟨R', h1, _⟩
      · exact .inl h1
      · exact .inr ⟨R', h1⟩

end Go.Proofs.Qxb6601800a
