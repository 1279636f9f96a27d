/-
  Seat b6602109a: IndexByte, HasPrefix at one byte, zzb1HasByte: walked; plain facts on lists of bytes.
-/
import Derived.Test.Qxb6602109aRows
import Derived.WalkKit
import Derived.WalkSpells
import Derived.WalkLawsBesides
import Derived.BigQuiet
import Derived.Deep.QuietTactic
import Derived.Deep.Light
import Derived.RegionTactic
import Derived.Lib.Strings
import Derived.Lib.Bytealg
namespace Go.Proofs.Qxb6602109a
open Go.RowKit

theorem ret_b {b b' : Bool} (h' : b = b') : Ending.returned (.bool b) = .returned (.bool b') := by rw [h']

theorem list_at (s : ByteArray) (q : Nat) (h : q < s.size) : s.data.toList[q]? = some s[q] := by
  have h' : q < s.data.toList.length := by simpa using h
  rw [List.getElem?_eq_getElem h']
  rfl

theorem take_one (L : List UInt8) (k : Nat) (c : UInt8) (h : L[k]? = some c) : L.take (k + 1) = L.take k ++ [c] := by
  obtain ⟨hk, he⟩ := List.getElem?_eq_some_iff.1 h
  rw [List.take_succ_eq_append_getElem hk, he]

theorem idx_cons (n c : UInt8) (l : List UInt8) : 0 ≤ Lib.indexByte (n :: l) c ↔ (c.toNat = n.toNat ∨ 0 ≤ Lib.indexByte l c) := by
  have e : ((n == c) = true ↔ c.toNat = n.toNat) := by rw [beq_iff_eq]; exact ⟨fun h => by rw [h], fun h => (UInt8.toNat_inj.1 h).symm⟩
  have g := Lib.indexByte_ge l c
  rw [Lib.indexByte]
  by_cases h1 : c.toNat = n.toNat
  · simp [e.2 h1, h1]
  · rw [if_neg (fun h => h1 (e.1 h))]
    simp only [beq_iff_eq]
    split <;> omega

theorem idx_neg (l : List UInt8) (c : UInt8) (h : Lib.indexByte l c < 0) : c ∉ l := by
  induction l with
  | nil => simp
  | cons n l ih =>
    have g := Lib.indexByte_ge l c
    have hn : ¬ 0 ≤ Lib.indexByte (n :: l) c := by omega
    rw [idx_cons] at hn
    intro hm
    rcases List.mem_cons.1 hm with e | e
    · exact hn (.inl (by rw [e]))
    · exact ih (by omega) e

theorem idx_nat (l : List UInt8) (c : UInt8) (j : Nat) (h : Lib.indexByte l c = (j : Int)) : j < l.length ∧ l[j]? = some c ∧ c ∉ l.take j := by
  induction l generalizing j with
  | nil => simp [Lib.indexByte] at h
  | cons n l ih =>
    rw [Lib.indexByte] at h
    by_cases e : (n == c) = true
    · rw [if_pos e] at h
      obtain rfl : j = 0 := by omega
      simp at e
      simp [e]
    · rw [if_neg e] at h
      have g := Lib.indexByte_ge l c
      simp only [beq_iff_eq] at h
      split at h
      · omega
      · obtain ⟨i, rfl⟩ : ∃ i, j = i + 1 := ⟨j - 1, by omega⟩
        have := ih i (by omega)
        refine ⟨by simp; omega, by simpa using this.2.1, ?_⟩
        rw [List.take_succ_cons]
        intro hm
        rcases List.mem_cons.1 hm with e' | e'
        · exact e (by simp [e'])
        · exact this.2.2 e'

set_option maxHeartbeats 1000000 in
set_option maxRecDepth 100000 in
theorem liteIndexByte (s : ByteArray) (c : Int) (w : World) :
    Calls Try.prog 28 #[.string s, .int .u8 c] w fun e w' => e = .returned (.int .i64 (Lib.indexByte s.data.toList c.toNat.toUInt8)) ∧ w = w' := by
  go_enter Try.func28, Try.ntmps28
  go_wp2
  rw [run_callFunc_extern Try.func29 (by kernel_rfl) (by kernel_rfl) (by kernel_rfl) (e := Extern.BytealgIndexByte.indexByte) (by kernel_rfl), Lib.run_indexByteString]
  simp only [Result.andThen]
  rw [Oper.upon_value]
  go_wp2
  go_ret
  exact ⟨rfl, rfl⟩

set_option maxHeartbeats 1000000 in
theorem indexByte_any (s : ByteArray) (c : Int) (w : World) :
    Calls Try.prog 26 #[.string s, .int .u8 c] w fun e w' => e = .returned (.int .i64 (Lib.indexByte s.data.toList c.toNat.toUInt8)) ∧ w = w' := by
  go_enter Try.func26, Try.ntmps26
  go_wp2_with (go_at_call 28; refine (liteIndexByte _ _ _).mono ?_; rintro e w' ⟨rfl, rfl⟩)
  go_ret
  exact ⟨rfl, rfl⟩

/-- does a text begin with c? -/
def starts : List UInt8 → UInt8 → Bool
  | [], _ => false
  | d :: _, c => d == c

theorem starts_take (s : ByteArray) (c : UInt8) : ((s.extract 0 1).toList == [c]) = starts s.data.toList c := by
  rw [Lib.extract_toList]
  cases s.data.toList with
  | nil => simp [starts]
  | cons d t =>
    simp [starts]

theorem starts_none (s : ByteArray) (c : UInt8) (h : ¬ 0 < s.size) : starts s.data.toList c = false := by
  have hs : s.data.toList.length = s.size := by simp
  have hl : s.data.toList.length = 0 := by omega
  rw [List.length_eq_zero_iff.1 hl]
  rfl

set_option maxHeartbeats 1000000 in
theorem hasPrefix_one (s : ByteArray) (c : UInt8) (w : World) :
    Calls Try.prog 25 #[.string s, .string ⟨#[c]⟩] w fun e w' => e = .returned (.bool (starts s.data.toList c)) ∧ w = w' := by
  have hc : (⟨#[c]⟩ : ByteArray).size = 1 := rfl
  by_cases h : 0 < s.size
  · go_enter Try.func25, Try.ntmps25
    go_wp2
    go_ret
    exact ⟨ret_b (starts_take s c), rfl⟩
  · go_enter Try.func25, Try.ntmps25
    go_wp2
    go_ret
    exact ⟨ret_b (starts_none s c h).symm, rfl⟩

set_option maxHeartbeats 1000000 in
set_option maxRecDepth 100000 in
theorem hasByte_any (s : ByteArray) (c : UInt8) (w : World) (hs : s.size ≤ 4194304) (b : Bool) (hb : s.data.toList.contains c = b) :
    Calls Try.prog 18 #[.string s, .int .u8 c.toNat] w fun e w' => e = .returned (.bool b) ∧ w = w' := by
  have HB : Hid (s.data.toList.contains c = b) := hb
  clear hb
  go_enter Try.func18, Try.ntmps18
  go_wp2
  go_loop [5] (fun i => ∃ k : Nat, i = .int .i64 k ∧ k ≤ s.size ∧ Hid (c ∉ s.data.toList.take k)) (fun i => s.size - (intOf i).toNat)
  case atStart => exact ⟨0, rfl, by omega, by unfold Hid; simp⟩
  case round =>
    obtain ⟨k, rfl, hk, HN⟩ := hrel
    by_cases hlt : k < s.size
    · have hl := list_at s k hlt
      by_cases hc : s[k] = c
      · have H' : Hid (b = true) := by
          unfold Hid
          rw [← HB.out]
          rw [hc] at hl
          simpa using List.mem_of_getElem? hl
        clear hl
        go_wp2
        go_ret
        exact ⟨by rw [H'.out]; rfl, rfl⟩
      · have H' : Hid (c ∉ s.data.toList.take (k + 1)) := by
          unfold Hid
          rw [take_one _ _ _ hl, List.mem_append]
          rintro (h | h)
          · exact HN.out h
          · simp at h
            exact hc h.symm
        have hcn : ¬ s[k].toNat = c.toNat := fun h => hc (UInt8.toNat_inj.1 h)
        clear hl hc
        go_wp2
        go_round
        case rel => exact ⟨k + 1, by go_num, by omega, H'⟩
        case measure => simp [intOf]; omega
    · have H' : Hid (b = false) := by
        unfold Hid
        rw [← HB.out]
        have h1 := HN.out
        rw [List.take_of_length_le (by simp; omega)] at h1
        simpa using h1
      go_wp2
      go_ret
      exact ⟨by rw [H'.out]; rfl, rfl⟩

end Go.Proofs.Qxb6602109a
