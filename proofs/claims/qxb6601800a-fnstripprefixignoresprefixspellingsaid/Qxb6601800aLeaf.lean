/-
  Seat b6601800a: THE WALKS of the small functions: IndexByte, hexDigit, percentOctet, unreserved.
-/
import Derived.Test.Qxb6601800aRows
import Derived.Test.Qxb6601800aPlain
import Derived.WalkKit
import Derived.WalkSpells
import Derived.WalkLawsBesides
import Derived.BigQuiet
import Derived.Deep.QuietTactic
import Derived.RegionTactic
import Derived.Lib.Strings
import Derived.Lib.Bytealg
namespace Go.Proofs.Qxb6601800a
open Go.RowKit

set_option maxHeartbeats 1000000 in
set_option maxRecDepth 100000 in
theorem liteIndexByte (s : ByteArray) (c : Int) (w : World) :
    Calls Try.prog 41 #[.string s, .int .u8 c] w fun e w' => e = .returned (.int .i64 (Lib.indexByte s.data.toList c.toNat.toUInt8)) ∧ w' = w := by
  go_enter Try.func41, Try.ntmps41
  go_wp2
  rw [run_callFunc_extern Try.func46 (by kernel_rfl) (by kernel_rfl) (by kernel_rfl) (e := Extern.BytealgIndexByte.indexByte) (by kernel_rfl), Lib.run_indexByteString]
  simp only [Result.andThen]
  rw [Oper.upon_value]
  go_wp2
  go_ret
  exact ⟨rfl, rfl⟩

set_option maxHeartbeats 1000000 in
theorem indexByte_any (s : ByteArray) (c : Int) (w : World) :
    Calls Try.prog 29 #[.string s, .int .u8 c] w fun e w' => e = .returned (.int .i64 (Lib.indexByte s.data.toList c.toNat.toUInt8)) ∧ w' = w := by
  go_enter Try.func29, Try.ntmps29
  go_wp2_with (go_at_call 41; refine (liteIndexByte _ _ _).mono ?_; rintro e w' ⟨rfl, rfl⟩)
  go_ret
  exact ⟨rfl, rfl⟩

theorem ret_ib {k : IntKind} {a a' : Int} {b b' : Bool} (h : a = a') (h' : b = b') : Ending.returned (.tuple #[.int k a, .bool b]) = .returned (.tuple #[.int k a', .bool b']) := by rw [h, h']
theorem ret_b {b b' : Bool} (h' : b = b') : Ending.returned (.bool b) = .returned (.bool b') := by rw [h']

set_option maxHeartbeats 1000000 in
theorem hexDigit_any (c : UInt8) (w : World) :
    Calls Try.prog 42 #[.int .u8 c.toNat] w fun e w' => e = .returned (.tuple #[.int .u8 (hexV c), .bool (isHex c)]) ∧ w' = w := by
  have hc : c.toNat < 256 := c.toNat_lt
  go_enter Try.func42, Try.ntmps42
  go_wp2
  all_goals
    go_ret2
    exact ⟨ret_ib (by unfold hexV; (repeat' split) <;> omega) (by first | exact (isHex_t (by omega)).symm | exact (isHex_f (by omega)).symm), rfl⟩

theorem idx_cons (n c : UInt8) (l : List UInt8) : 0 ≤ Lib.indexByte (n :: l) c ↔ (c.toNat = n.toNat ∨ 0 ≤ Lib.indexByte l c) := by
  have e : ((n == c) = true ↔ c.toNat = n.toNat) := by rw [beq_iff_eq]; exact ⟨fun h => by rw [h], fun h => (UInt8.toNat_inj.1 h).symm⟩
  have g := Lib.indexByte_ge l c
  rw [Lib.indexByte]
  by_cases h1 : c.toNat = n.toNat
  · simp [e.2 h1, h1]
  · rw [if_neg (fun h => h1 (e.1 h))]
    simp only [beq_iff_eq]
    split <;> omega
theorem idx4 (c : UInt8) : 0 ≤ Lib.indexByte [45, 46, 95, 126] c ↔ (c.toNat = 45 ∨ c.toNat = 46 ∨ c.toNat = 95 ∨ c.toNat = 126) := by
  rw [idx_cons, idx_cons, idx_cons, idx_cons]
  simp [Lib.indexByte]

set_option maxHeartbeats 1000000 in
theorem unreserved_any (c : UInt8) (w : World) :
    Calls Try.prog 31 #[.int .u8 c.toNat] w fun e w' => e = .returned (.bool (unres c)) ∧ w' = w := by
  have hc : c.toNat < 256 := c.toNat_lt
  go_enter Try.func31, Try.ntmps31
  go_wp2_with (go_at_call 29; refine (indexByte_any _ _ _).mono ?_; rintro e w' ⟨rfl, rfl⟩)
  all_goals
    go_ret
    exact ⟨ret_b (by first | exact (unres_t (by omega)).symm | (rw [Bool.eq_iff_iff]; simp only [Bool.or_eq_true, decide_eq_true_eq, idx4, unres, unresN_iff]; omega)), rfl⟩

theorem idx_neg (l : List UInt8) (c : UInt8) (h : Lib.indexByte l c < 0) : c ∉ l := by
  induction l with
  | nil => simp
  | cons n l ih =>
    have g := Lib.indexByte_ge l c
    have hn : ¬ 0 ≤ Lib.indexByte (n :: l) c := by omega
    rw [idx_cons] at hn
    intro hm
    rcases List.mem_cons.1 hm with e | e
    · exact hn (.inl (by rw [e]))
    · exact ih (by omega) e

theorem idx_nat (l : List UInt8) (c : UInt8) (j : Nat) (h : Lib.indexByte l c = (j : Int)) : j < l.length ∧ l[j]? = some c ∧ c ∉ l.take j := by
  induction l generalizing j with
  | nil => simp [Lib.indexByte] at h
  | cons n l ih =>
    rw [Lib.indexByte] at h
    by_cases e : (n == c) = true
    · rw [if_pos e] at h
      obtain rfl : j = 0 := by omega
      simp at e
      simp [e]
    · rw [if_neg e] at h
      have g := Lib.indexByte_ge l c
      simp only [beq_iff_eq] at h
      split at h
      · omega
      · obtain ⟨i, rfl⟩ : ∃ i, j = i + 1 := ⟨j - 1, by omega⟩
        have := ih i (by omega)
        refine ⟨by simp; omega, by simpa using this.2.1, ?_⟩
        rw [List.take_succ_cons]
        intro hm
        rcases List.mem_cons.1 hm with e' | e'
        · exact e (by simp [e'])
        · exact this.2.2 e'

theorem bits_or_fin : ∀ a b : Fin 16, bits BinOp.or IntKind.u8 ((a.val : Int) * 16) (b.val : Int) = (a.val : Int) * 16 + b.val := by decide +kernel
theorem bits_or_nat (a b : Nat) (ha : a < 16) (hb : b < 16) : bits BinOp.or IntKind.u8 ((a : Int) * 16) (b : Int) = ((a * 16 + b : Nat) : Int) := by
  rw [bits_or_fin ⟨a, ha⟩ ⟨b, hb⟩]; simp

theorem percentOctet_no (s : ByteArray) (w : World) (h : s.size < 3) :
    Calls Try.prog 30 #[.string s] w fun e w' => e = .returned (.tuple #[.int .u8 0, .bool false]) ∧ w' = w := by
  go_enter Try.func30, Try.ntmps30
  go_wp2
  all_goals
    go_ret2
    exact ⟨rfl, rfl⟩

set_option maxHeartbeats 1000000 in
theorem percentOctet_yes (s : ByteArray) (w : World) (h : 2 < s.size) (h0 : s[0] = 37) :
    Calls Try.prog 30 #[.string s] w fun e w' => e = .returned (.tuple #[.int .u8 (hexV s[1] * 16 + hexV s[2] : Nat), .bool (isHex s[1] && isHex s[2])]) ∧ w' = w := by
  have ha := hexV_lt s[1]
  have hb := hexV_lt s[2]
  go_enter Try.func30, Try.ntmps30
  go_wp2_with (go_at_call 42; refine (hexDigit_any _ _).mono ?_; rintro e w' ⟨rfl, rfl⟩)
  · go_ret2
    exact ⟨ret_ib (bits_or_nat _ _ ha hb) (by simp [*]), rfl⟩
  · go_ret2
    exact ⟨ret_ib (bits_or_nat _ _ ha hb) (by simp [*]), rfl⟩
end Go.Proofs.Qxb6601800a
