/-
  Seat b6601800a: the laws' own model, walked: modelHexValue, modelUnreserved, modelUpperDigit, modelNormalize.
-/
import Derived.Test.Qxb6601800aNorm
namespace Go.Proofs.Qxb6601800a
open Go.RowKit

theorem ret_i {k : IntKind} {a b : Int} (h : a = b) : Ending.returned (.int k a) = .returned (.int k b) := by rw [h]

set_option maxHeartbeats 1000000 in
theorem mhex_yes (c : UInt8) (w : World) (h : isHex c = true) :
    Calls Try.prog 24 #[.int .u8 c.toNat] w fun e w' => e = .returned (.int .i64 (hexV c)) ∧ w = w' := by
  have hc : c.toNat < 256 := c.toNat_lt
  have h' := (isHex_iff c).1 h
  clear h
  go_enter Try.func24, Try.ntmps24
  go_wp2
  all_goals
    go_ret
    exact ⟨ret_i (by unfold hexV; (repeat' split) <;> omega), rfl⟩

set_option maxHeartbeats 1000000 in
theorem mhex_no (c : UInt8) (w : World) (h : isHex c = false) :
    Calls Try.prog 24 #[.int .u8 c.toNat] w fun e w' => e = .returned (.int .i64 (-1)) ∧ w = w' := by
  have hc : c.toNat < 256 := c.toNat_lt
  have h' : ¬ ((48 ≤ c.toNat ∧ c.toNat ≤ 57) ∨ (97 ≤ c.toNat ∧ c.toNat ≤ 102) ∨ (65 ≤ c.toNat ∧ c.toNat ≤ 70)) := fun hh => by rw [isHex_t hh] at h; cases h
  clear h
  go_enter Try.func24, Try.ntmps24
  go_wp2
  all_goals
    go_ret
    exact ⟨rfl, rfl⟩

set_option maxHeartbeats 1000000 in
theorem munres (x : Int) (w : World) (h0 : 0 ≤ x) (h1 : x < 256) (b : Bool) (hb : b = unresN x.toNat) :
    Calls Try.prog 25 #[.int .u8 x] w fun e w' => e = .returned (.bool b) ∧ w = w' := by
  have H : Hid (b = true ↔ ((97 ≤ x.toNat ∧ x.toNat ≤ 122) ∨ (65 ≤ x.toNat ∧ x.toNat ≤ 90) ∨ (48 ≤ x.toNat ∧ x.toNat ≤ 57) ∨ x.toNat = 45 ∨ x.toNat = 46 ∨ x.toNat = 95 ∨ x.toNat = 126)) := by rw [hb]; exact unresN_iff x.toNat
  clear hb
  go_enter Try.func25, Try.ntmps25
  go_wp2
  all_goals
    go_ret
    refine ⟨ret_b ?_, rfl⟩
    rw [Bool.eq_iff_iff, H.out]
    first | (simp only [true_iff]; omega) | (simp only [Bool.or_eq_true, beq_iff_eq]; omega) | (simp; omega)

set_option maxHeartbeats 1000000 in
theorem mup (n : Nat) (w : World) (h : n < 16) :
    Calls Try.prog 26 #[.int .i64 n] w fun e w' => e = .returned (.int .u8 (up n).toNat) ∧ w = w' := by
  have hu : (up n).toNat = upN n := by unfold up; rw [UInt8.toNat_ofNat']; unfold upN; split <;> omega
  have H : Hid ((up n).toNat = upN n) := hu
  clear hu
  by_cases h10 : n < 10
  · go_enter Try.func26, Try.ntmps26
    go_wp2
    go_ret
    refine ⟨ret_i ?_, rfl⟩
    rw [H.out]
    unfold upN
    rw [if_pos h10]
    go_light
    omega
  · go_enter Try.func26, Try.ntmps26
    go_wp2
    go_ret
    refine ⟨ret_i ?_, rfl⟩
    rw [H.out]
    unfold upN
    rw [if_neg h10]
    go_light
    omega

theorem step_row {N : Nat} {w wr w2 : World} {o : Obj} {u v' : Value} {acc x : List UInt8} (hb : Below N w wr) (hN : N ≤ wr.heap.size) (hown : wr.ownsRow N 5 1 u acc.length (Lib.byteCells acc))
    (hown' : w2.ownsRow N 5 1 v' (acc.length + x.length) (Lib.byteCells acc ++ Lib.byteCells x)) (hg : (wr.alloc o).grownBy w2 u.ownBlock) :
    w2.ownsRow N 5 1 v' (acc ++ x).length (Lib.byteCells (acc ++ x)) ∧ Below N w w2 := by
  refine ⟨by rw [Lib.byteCells_append, List.length_append]; exact hown', (hb.alloc hN o).grown hg (by simp; omega) (fun k hk => (hown.lt k hk).1)⟩

theorem cell_three_new (W : World) (a b c : Value) (t : TypeId) : ∀ j u, [a, b, c][j]? = some u → (W.alloc (.cells #[a, b, c] t)).cell? (Addr.add ⟨W.heap.size, 0, none⟩ j) = some u := by
  intro j u hj
  match j, hj with
  | 0, hj => rw [show (Addr.add ⟨W.heap.size, 0, none⟩ 0) = ⟨W.heap.size, 0, none⟩ from rfl, World.cell?_alloc_at _ _ _ _ rfl]; simpa using hj
  | 1, hj => rw [show (Addr.add ⟨W.heap.size, 0, none⟩ 1) = ⟨W.heap.size, 1, none⟩ from rfl, World.cell?_alloc_at _ _ _ _ rfl]; simpa using hj
  | 2, hj => rw [show (Addr.add ⟨W.heap.size, 0, none⟩ 2) = ⟨W.heap.size, 2, none⟩ from rfl, World.cell?_alloc_at _ _ _ _ rfl]; simpa using hj

/-- 'string(out)' of a row that the call owns. -/
theorem row_string {N : Nat} {wr : World} {v : Value} {l : List UInt8} (h : wr.ownsRow N 5 1 v l.length (Lib.byteCells l)) : (convert 36 9 v).run Try.prog wr = .ok (.string ⟨l.toArray⟩) wr := by
  rcases h.2 with ⟨rfl, h0⟩ | ⟨g, cap, cur, rfl, _⟩
  · obtain rfl : l = [] := List.length_eq_zero_iff.1 h0
    rw [run_convert_bytes_string wr 36 9 5 none 0 0 Try.underlying36 Try.underlying5 Try.underlying9]
    rfl
  · refine run_convert_bytes_back wr 36 9 5 ⟨g, 0, none⟩ cap l Try.underlying36 Try.underlying5 Try.underlying9 (fun j hj => ?_)
    exact h.cells (g := g) rfl j _ (by simp [Lib.byteCells, List.getElem?_eq_getElem hj])

theorem ints_one (l : List Int) : ∀ u ∈ l.map (Value.int .u8), u.oneCell' = true := by
  intro u hu
  simp only [List.mem_map] at hu
  obtain ⟨b, _, rfl⟩ := hu
  rfl

set_option maxHeartbeats 4000000 in
set_option maxRecDepth 100000 in
theorem model_any (s : ByteArray) (w : World) (hs : s.size ≤ 4194304) :
    Calls Try.prog 12 #[.string s] w fun e w' => e = .returned (.string ⟨(norm s.data.toList).toArray⟩) ∧ Below w.heap.size w w' := by
  obtain ⟨i0, hi, hz0, hz1, hz2⟩ := byte_parts
  go_enter Try.func12, Try.ntmps12
  go_wp2_with (at_make; refine wpList_make_own _ rfl _ _ 36 rfl w.heap.size 5 i0 (.int .u8 0) 1 Try.underlying36 hi hz0 hz1 _ _ _ (3 * s.size) rfl rfl (by omega) ?b2 ?b3 (Nat.le_refl _) ?_)
  case b2 => rw [hz2]; omega
  case b3 => unfold maxLen; omega
  intro w0 hown0 hgrow0
  go_wp2
  go_loopw [3, 4] (fun out i wr => ∃ (k : Nat) (acc : List UInt8), i = .int .i64 k ∧ k ≤ s.size ∧ norm s.data.toList = acc ++ norm (s.data.toList.drop k) ∧ wr.ownsRow w.heap.size 5 1 out acc.length (Lib.byteCells acc) ∧ Below w.heap.size w wr) (fun _ i _ => s.size - (intOf i).toNat)
  case atStart => exact ⟨0, [], rfl, Nat.zero_le _, by simp, hown0, (Below.refl _ _).grown hgrow0 (Nat.le_refl _) (by simp)⟩
  case round =>
    clear hown0 hgrow0
    obtain ⟨k, acc, rfl, hk, heq, hown, hb⟩ := hrel
    have hacc : acc.length ≤ 12582912 := by
      have h1 := norm_length s.data.toList
      rw [heq] at h1
      simp at h1
      omega
    have HE : Hid (norm s.data.toList = acc ++ norm (s.data.toList.drop k)) := heq
    clear heq
    have hbs := hb.size
    by_cases hlt : k < s.size
    · have hd := drop_at s k hlt
      by_cases hc : s[k] = 37
      · rw [hc] at hd
        cases h2 : twoHex (s.data.toList.drop (k + 1)) with
        | false =>
          have HT : Hid (norm s.data.toList = (acc ++ [37, 50, 53]) ++ norm (s.data.toList.drop (k + 1))) := by
            unfold Hid
            rw [HE.out, hd, norm_bare _ h2, List.append_assoc]
          by_cases hsh : s.size - k < 3
          · clear hd h2
            go_wp2_with (at_builtin; refine wpList_append_own _ rfl _ _ 36 rfl w.heap.size 5 i0 (.int .u8 0) 1 1 Try.underlying36 hi hz0 hz1 hz2 rfl (by decide) _ _ _ rfl (hown.alloc _) ⟨wr.heap.size, 0, none⟩ 3 3 [.int .u8 37, .int .u8 50, .int .u8 53] rfl rfl ?c1 ?c2 ?c3 ?c4 ?c5 ?_)
            case c1 => exact cell_three_new _ _ _ _ _
            case c2 => exact ints_one [37, 50, 53]
            case c3 => unfold maxLen; omega
            case c4 => omega
            case c5 => simp; omega
            intro v' w2 hown' hgrow' _
            go_wp2
            go_roundw
            case rel => exact ⟨k + 1, _, by go_num, by omega, HT.out, step_row (x := [37, 50, 53]) hb hbs hown hown' hgrow'⟩
            case measure => simp [intOf]; omega
          · have hd1 := drop_at s (k + 1) (by omega)
            have hd2 := drop_at s (k + 2) (by omega)
            rw [hd1, hd2] at h2
            have h2' : (isHex s[k + 1] && isHex s[k + 2]) = false := h2
            obtain ⟨x, y, hcx, hcy, hxy⟩ : ∃ x y : Int, (∀ w, Calls Try.prog 24 #[.int .u8 s[k + 1].toNat] w fun e w' => e = .returned (.int .i64 x) ∧ w = w') ∧ (∀ w, Calls Try.prog 24 #[.int .u8 s[k + 2].toNat] w fun e w' => e = .returned (.int .i64 y) ∧ w = w') ∧ (x < 0 ∨ 0 ≤ x ∧ y < 0) := by
              cases hx : isHex s[k + 1] with
              | false =>
                cases hy : isHex s[k + 2] with
                | false => exact ⟨-1, -1, fun w => mhex_no _ w hx, fun w => mhex_no _ w hy, by omega⟩
                | true => exact ⟨-1, _, fun w => mhex_no _ w hx, fun w => mhex_yes _ w hy, by omega⟩
              | true =>
                rw [hx] at h2'
                exact ⟨_, -1, fun w => mhex_yes _ w hx, fun w => mhex_no _ w (by simpa using h2'), by omega⟩
            clear hd h2 hd1 hd2 h2'
            rcases hxy with hxy | ⟨hx0, hxy⟩
            all_goals
              go_wp2_with fail
              refine (hcx _).mono ?_
              rintro e w' ⟨rfl, rfl⟩
              go_wp2_with fail
              refine (hcy _).mono ?_
              rintro e w' ⟨rfl, rfl⟩
              go_wp2_with (at_builtin; refine wpList_append_own _ rfl _ _ 36 rfl w.heap.size 5 i0 (.int .u8 0) 1 1 Try.underlying36 hi hz0 hz1 hz2 rfl (by decide) _ _ _ rfl (hown.alloc _) ⟨wr.heap.size, 0, none⟩ 3 3 [.int .u8 37, .int .u8 50, .int .u8 53] rfl rfl (cell_three_new _ _ _ _ _) (ints_one [37, 50, 53]) (by unfold maxLen; omega) (by omega) (by simp; omega) ?_)
              intro v' w2 hown' hgrow' _
              go_wp2
              go_roundw
              case rel => exact ⟨k + 1, _, by go_num, by omega, HT.out, step_row (x := [37, 50, 53]) hb hbs hown hown' hgrow'⟩
              case measure => simp [intOf]; omega
        | true =>
          have hl3 : k + 2 < s.size := by
            have : 2 ≤ (s.data.toList.drop (k + 1)).length := by
              match s.data.toList.drop (k + 1), h2 with
              | _ :: _ :: _, _ => simp
            simp at this
            omega
          have hd1 := drop_at s (k + 1) (by omega)
          have hd2 := drop_at s (k + 2) hl3
          rw [hd1, hd2] at h2
          have h2' : (isHex s[k + 1] && isHex s[k + 2]) = true := h2
          simp only [Bool.and_eq_true] at h2'
          have hcx := fun w => mhex_yes s[k + 1] w h2'.1
          have hcy := fun w => mhex_yes s[k + 2] w h2'.2
          have hx16 := hexV_lt s[k + 1]
          have hy16 := hexV_lt s[k + 2]
          have hon := oct_toNat s[k + 1] s[k + 2]
          have HT : Hid (norm s.data.toList = (acc ++ spell (oct s[k + 1] s[k + 2])) ++ norm (s.data.toList.drop (k + 3))) := by
            unfold Hid
            rw [HE.out, hd, hd1, hd2, norm_oct _ _ _ h2'.1 h2'.2, List.append_assoc]
          obtain ⟨o, ho⟩ : ∃ o, oct s[k + 1] s[k + 2] = o := ⟨_, rfl⟩
          rw [ho] at HT hon
          obtain ⟨x, hx⟩ : ∃ x, hexV s[k + 1] = x := ⟨_, rfl⟩
          obtain ⟨y, hy⟩ : ∃ y, hexV s[k + 2] = y := ⟨_, rfl⟩
          rw [hx] at hcx hx16 hon
          rw [hy] at hcy hy16 hon
          clear hd hd1 hd2 h2 h2' ho hx hy
          obtain ⟨ub, hub⟩ : ∃ ub, ub = unresN o.toNat := ⟨_, rfl⟩
          have HU : Hid (unres o = ub) := hub.symm
          have HO : Hid (o.toNat = x * 16 + y) := hon
          have hun : ∀ w, Calls Try.prog 25 #[.int .u8 ((x : Int) * 16 + (y : Int))] w fun e w' => e = .returned (.bool ub) ∧ w = w' := by
            intro w
            refine munres _ w (by omega) (by omega) ub ?_
            rw [hub, hon]
            congr 1
          clear hub hon
          go_wp2_with fail
          refine (hcx _).mono ?_
          rintro e w' ⟨rfl, rfl⟩
          go_wp2_with fail
          refine (hcy _).mono ?_
          rintro e w' ⟨rfl, rfl⟩
          go_wp2_with fail
          refine (hun _).mono ?_
          rintro e w' ⟨rfl, rfl⟩
          cases ub with
          | true =>
            go_wp2_with (at_builtin; refine wpList_append_own _ rfl _ _ 36 rfl w.heap.size 5 i0 (.int .u8 0) 1 1 Try.underlying36 hi hz0 hz1 hz2 rfl (by decide) _ _ _ rfl (hown.alloc _) ⟨wr.heap.size, 0, none⟩ 1 1 [.int .u8 ((x : Int) * 16 + (y : Int))] rfl rfl (cell_one_new _ _ _) (ints_one [_]) (by unfold maxLen; omega) (by omega) (by simp; omega) ?_)
            intro v' w2 hown' hgrow' _
            go_wp2
            go_roundw
            case rel =>
              have e1 : spell o = [o] := by have := HU.out; simp [spell, this]
              have e2 : ((o.toNat : Int)) = (x : Int) * 16 + (y : Int) := by rw [HO.out]; simp
              rw [← e2] at hown'
              refine ⟨k + 3, _, by go_num, by omega, HT.out, step_row (x := spell o) hb hbs hown ?_ hgrow'⟩
              rw [e1]
              exact hown'
            case measure => simp [intOf]; omega
          | false =>
            have hu1 := fun w => mup x w hx16
            have hu2 := fun w => mup y w hy16
            go_wp2_with fail
            refine (hu1 _).mono ?_
            rintro e w' ⟨rfl, rfl⟩
            go_wp2_with fail
            refine (hu2 _).mono ?_
            rintro e w' ⟨rfl, rfl⟩
            go_wp2_with (at_builtin; refine wpList_append_own _ rfl _ _ 36 rfl w.heap.size 5 i0 (.int .u8 0) 1 1 Try.underlying36 hi hz0 hz1 hz2 rfl (by decide) _ _ _ rfl (hown.alloc _) ⟨wr.heap.size, 0, none⟩ 3 3 [.int .u8 37, .int .u8 ((up x).toNat : Int), .int .u8 ((up y).toNat : Int)] rfl rfl (cell_three_new _ _ _ _ _) (ints_one [37, _, _]) (by unfold maxLen; omega) (by omega) (by simp; omega) ?_)
            intro v' w2 hown' hgrow' _
            go_wp2
            go_roundw
            case rel =>
              have e1 : spell o = [37, up x, up y] := by
                have h1 := HU.out
                have h2 : o.toNat / 16 = x := by have := HO.out; omega
                have h3 : o.toNat % 16 = y := by have := HO.out; omega
                simp [spell, h1, h2, h3]
              refine ⟨k + 3, _, by go_num, by omega, HT.out, step_row (x := spell o) hb hbs hown ?_ hgrow'⟩
              rw [e1]
              exact hown'
            case measure => simp [intOf]; omega
      · have HT : Hid (norm s.data.toList = (acc ++ [s[k]]) ++ norm (s.data.toList.drop (k + 1))) := by
          unfold Hid
          rw [HE.out, hd, norm_other _ _ hc, List.append_assoc]
          rfl
        have hcn : ¬ s[k].toNat = 37 := fun h => hc (UInt8.toNat_inj.1 h)
        clear hc hd
        go_wp2_with (at_builtin; refine wpList_append_own _ rfl _ _ 36 rfl w.heap.size 5 i0 (.int .u8 0) 1 1 Try.underlying36 hi hz0 hz1 hz2 rfl (by decide) _ _ _ rfl (hown.alloc _) ⟨wr.heap.size, 0, none⟩ 1 1 [.int .u8 (s[k].toNat : Int)] rfl rfl ?c1 ?c2 ?c3 ?c4 ?c5 ?_)
        case c1 => exact cell_one_new _ _ _
        case c2 => intro u hu; simp at hu; subst hu; rfl
        case c3 => unfold maxLen; omega
        case c4 => omega
        case c5 => simp; omega
        intro v' w2 hown' hgrow' _
        go_wp2
        go_roundw
        case rel => exact ⟨k + 1, _, by go_num, by omega, HT.out, step_row (x := [s[k]]) hb hbs hown hown' hgrow'⟩
        case measure => simp [intOf]; omega
    · have hE : norm s.data.toList = acc := by
        rw [HE.out, List.drop_of_length_le (by simp; omega), norm_nil, List.append_nil]
      have HF : Hid (norm s.data.toList = acc) := hE
      clear hE
      have hcv : (convert 36 9 u3).run Try.prog wr = .ok (.string ⟨acc.toArray⟩) wr := row_string hown
      go_wp2
      go_ret
      exact ⟨by rw [HF.out]; rfl, hb⟩
end Go.Proofs.Qxb6601800a
