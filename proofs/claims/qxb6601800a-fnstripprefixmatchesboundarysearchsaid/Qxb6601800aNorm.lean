/-
  Seat b6601800a: normalizePercents, walked.
-/
import Derived.Test.Qxb6601800aLeaf
import Derived.Test.Qxb6601800aBuild
import Derived.Deep.DeepCutAuto
import Derived.Deep.LoopGhost
import Derived.Deep.DeepMust
import Derived.Deep.DeepFit
import Derived.Deep.Light
namespace Go.Proofs.Qxb6601800a
open Go.RowKit

/-- the builder at a round's head: untouched, or holding bytes -/
def Sta (b : Nat) (bs : List UInt8) (p : Nat) (w : World) : Prop :=
  (bs = [] ∧ p = 0 ∧ w.heap[b]? = some (.cells #[.pointer none, .slice none 0 0] 55 (0, 0))) ∨ (bs ≠ [] ∧ ∃ v, Bd b v (Lib.byteCells bs) w)

/-- the digits' text, as the walk writes it -/
theorem tab_up (n : Nat) (h : n < 16) : ((⟨#[48, 49, 50, 51, 52, 53, 54, 55, 56, 57, 65, 66, 67, 68, 69, 70]⟩ : ByteArray)[n]'h).toNat = (up n).toNat := by
  have : ∀ m : Fin 16, ((⟨#[48, 49, 50, 51, 52, 53, 54, 55, 56, 57, 65, 66, 67, 68, 69, 70]⟩ : ByteArray)[m.val]'m.isLt).toNat = (up m.val).toNat := by decide
  exact this ⟨n, h⟩
theorem bits_and_fin : ∀ a : Fin 256, bits BinOp.and IntKind.u8 (a.val : Int) 15 = (a.val : Int) % 16 := by decide +kernel
theorem bits_and_15 (c : UInt8) : bits BinOp.and IntKind.u8 (c.toNat : Int) 15 = (c.toNat : Int) % 16 := bits_and_fin ⟨c.toNat, c.toNat_lt⟩

/-- the octet, spelt, lies in new memory -/
def Spelt (c : UInt8) (vn : Value) (wr wx : World) : Prop :=
  ∃ ad cap, vn = .slice (some ad) (spell c).length cap ∧ (∀ i (hi : i < (spell c).length), wx.cell? (ad.add i) = some (.int .u8 ((spell c)[i].toNat : Int))) ∧ wr.grownBy wx none ∧ wr.heap.size ≤ ad.block

theorem spelt_one {c : UInt8} (h : unres c = true) (wr : World) (X : Array Value) :
    Spelt c (.slice (some ⟨wr.heap.size + 1, 0, none⟩) 1 1) wr ((wr.alloc (.cells X 60)).alloc (.cells #[.int .u8 (c.toNat : Int)] 5)).drew := by
  have e : spell c = [c] := by simp [spell, h]
  unfold Spelt
  rw [e]
  refine ⟨⟨wr.heap.size + 1, 0, none⟩, 1, rfl, ?_, ?_, by simp⟩
  · intro i hi
    obtain rfl : i = 0 := by simpa using hi
    show ((wr.alloc (.cells X 60)).alloc (.cells #[.int .u8 (c.toNat : Int)] 5)).cell? ⟨wr.heap.size + 1, 0, none⟩ = _
    rw [World.cell?_alloc_at _ _ _ _ (by simp)]
    rfl
  · refine ⟨rfl, rfl, rfl, by simp; omega, fun k hk _ => ?_⟩
    show ((wr.alloc (.cells X 60)).alloc _).heap[k]? = _
    rw [Lib.alloc_old _ _ k (by simp; omega), Lib.alloc_old _ _ k hk]

theorem spelt_three {c : UInt8} (h : unres c = false) (wr : World) (x y : Int) (hx : x = ((up (c.toNat / 16)).toNat : Int)) (hy : y = ((up (c.toNat % 16)).toNat : Int)) :
    Spelt c (.slice (some ⟨wr.heap.size, 0, none⟩) 3 3) wr (wr.alloc (.cells #[.int .u8 37, .int .u8 x, .int .u8 y] 60)).drew := by
  have e : spell c = [37, up (c.toNat / 16), up (c.toNat % 16)] := by simp [spell, h]
  unfold Spelt
  rw [e, hx, hy]
  refine ⟨⟨wr.heap.size, 0, none⟩, 3, rfl, ?_, ?_, by simp⟩
  · intro i hi
    show (wr.alloc (.cells #[_, _, _] 60)).cell? _ = _
    match i, hi with
    | 0, _ => rw [show (Addr.add ⟨wr.heap.size, 0, none⟩ 0) = ⟨wr.heap.size, 0, none⟩ from rfl, World.cell?_alloc_at _ _ _ _ rfl]; rfl
    | 1, _ => rw [show (Addr.add ⟨wr.heap.size, 0, none⟩ 1) = ⟨wr.heap.size, 1, none⟩ from rfl, World.cell?_alloc_at _ _ _ _ rfl]; rfl
    | 2, _ => rw [show (Addr.add ⟨wr.heap.size, 0, none⟩ 2) = ⟨wr.heap.size, 2, none⟩ from rfl, World.cell?_alloc_at _ _ _ _ rfl]; rfl
  · refine ⟨rfl, rfl, rfl, by simp, fun k hk _ => ?_⟩
    show (wr.alloc _).heap[k]? = _
    rw [Lib.alloc_old _ _ k hk]

theorem Fr.cells {b : Nat} {v : Value} {w w' : World} (hF : Fr b v w w') {ad : Addr} (hlt : ad.block < w.heap.size) (hne : ad.block ≠ b) (hnv : some ad.block ≠ v.ownBlock) (i : Nat) : w'.cell? (ad.add i) = w.cell? (ad.add i) := by
  have e : (ad.add i).block = ad.block := by unfold Addr.add; split <;> rfl
  exact World.cell?_of_block (by rw [e]; exact hF.rest _ hlt hne hnv)

theorem list_at (s : ByteArray) (q : Nat) (h : q < s.size) : s.data.toList[q]? = some s[q] := by
  have h' : q < s.data.toList.length := by simpa using h
  rw [List.getElem?_eq_getElem h']
  rfl

theorem drop_at (s : ByteArray) (q : Nat) (h : q < s.size) : s.data.toList.drop q = s[q] :: s.data.toList.drop (q + 1) := by
  have h' : q < s.data.toList.length := by simpa using h
  rw [List.drop_eq_getElem_cons h']
  rfl

theorem ext_at (s : ByteArray) (q i : Nat) (h : q + i < s.size) (h' : i < (s.extract q s.size).size) : (s.extract q s.size)[i]'h' = s[q + i] := by
  rw [ByteArray.getElem_extract]

theorem octet_at (s : ByteArray) (q : Nat) (hq : q < s.size) (h37 : s[q] = 37) : ∃ (o : Int) (ok : Bool) (c : UInt8) (wd : Nat),
    (∀ w, Calls Try.prog 30 #[.string (s.extract q s.size)] w fun e w' => e = .returned (.tuple #[.int .u8 o, .bool ok]) ∧ w = w') ∧ (ok = true → o = c.toNat ∧ wd = 3) ∧ (ok = false → c = 37 ∧ wd = 1) ∧ Tok s.data.toList q c wd := by
  have hL : s.data.toList.length = s.size := by simp
  have hd := drop_at s q hq
  rw [h37] at hd
  by_cases hsh : s.size - q < 3
  · refine ⟨0, false, 37, 1, fun w => (percentOctet_no _ w (by simp; omega)).mono (fun e w' ⟨h1, h2⟩ => ⟨h1, h2.symm⟩), by simp, by simp, by omega, by omega, by omega, ?_⟩
    rw [hd, spell_37]
    refine norm_bare _ ?_
    have hl : (s.data.toList.drop (q + 1)).length < 2 := by simp; omega
    match s.data.toList.drop (q + 1), hl with
    | [], _ => rfl
    | [_], _ => rfl
    | _ :: _ :: _, h => simp at h; omega
  · have hd1 := drop_at s (q + 1) (by omega)
    have hd2 := drop_at s (q + 2) (by omega)
    have z : 2 < (s.extract q s.size).size := by simp; omega
    have e0 := ext_at s q 0 (by omega) (by omega)
    have e1 := ext_at s q 1 (by omega) (by omega)
    have e2 := ext_at s q 2 (by omega) (by omega)
    have hc := fun w => percentOctet_yes (s.extract q s.size) w z (by rw [e0]; exact h37)
    rw [e1, e2] at hc
    cases hok : (isHex s[q + 1] && isHex s[q + 2]) with
    | false =>
      rw [hok] at hc
      refine ⟨_, false, 37, 1, fun w => (hc w).mono (fun e w' ⟨h1, h2⟩ => ⟨h1, h2.symm⟩), by simp, by simp, by omega, by omega, by omega, ?_⟩
      rw [hd, spell_37]
      refine norm_bare _ ?_
      rw [hd1, hd2]
      exact hok
    | true =>
      rw [hok] at hc
      refine ⟨_, true, oct s[q + 1] s[q + 2], 3, fun w => (hc w).mono (fun e w' ⟨h1, h2⟩ => ⟨h1, h2.symm⟩), fun _ => ⟨by rw [oct_toNat], rfl⟩, by simp, by omega, by omega, by omega, ?_⟩
      rw [hd, hd1, hd2]
      simp only [Bool.and_eq_true] at hok
      exact norm_oct _ _ _ hok.1 hok.2

theorem heap_lt {w : World} {b : Nat} {o : Obj} (h : w.heap[b]? = some o) : b < w.heap.size := by
  rcases Nat.lt_or_ge b w.heap.size with h' | h'
  · exact h'
  · simp [Array.getElem?_eq_none h'] at h

theorem Sta.lt {b p : Nat} {bs : List UInt8} {w : World} (h : Sta b bs p w) : b < w.heap.size := by
  rcases h with ⟨_, _, h⟩ | ⟨_, v, h⟩
  · exact heap_lt h
  · exact h.lt

theorem Sta.kept {b p : Nat} {bs : List UInt8} {wr wc : World} (h : Sta b bs p wr) (hg : wr.grownBy wc none) : Sta b bs p wc := by
  have hlt := h.lt
  rcases h with ⟨h1, h2, h⟩ | ⟨h1, v, h⟩
  · exact .inl ⟨h1, h2, (hg.block b hlt (by simp)).trans h⟩
  · exact .inr ⟨h1, v, h.kept hg⟩

theorem str_take (s : ByteArray) (a b : Nat) : Lib.strCells (s.extract a b) = Lib.byteCells ((s.data.toList.drop a).take (b - a)) := by
  rw [Lib.strCells_eq, Lib.extract_data]

theorem str_tail (s : ByteArray) (a : Nat) : Lib.strCells (s.extract a s.size) = Lib.byteCells (s.data.toList.drop a) := by
  rw [str_take, List.take_of_length_le (by simp)]

theorem Spelt.lt {c : UInt8} {ad : Addr} {wc : World} (h : ∀ i (hi : i < (spell c).length), wc.cell? (ad.add i) = some (.int .u8 ((spell c)[i].toNat : Int))) : ad.block < wc.heap.size :=
  World.block_lt_of_cell? wc ad (by have := h 0 (spell_pos c); exact this)

theorem news_of {c : UInt8} {ad : Addr} {wc w2 : World} (h : ∀ i (hi : i < (spell c).length), wc.cell? (ad.add i) = some (.int .u8 ((spell c)[i].toNat : Int))) (hk : ∀ i, w2.cell? (ad.add i) = wc.cell? (ad.add i)) :
    ∀ j u, (Lib.byteCells (spell c))[j]? = some u → w2.cell? (ad.add j) = some u := by
  intro j u hj
  have hj' : j < (spell c).length := by
    have := (List.getElem?_eq_some_iff.1 hj).1
    simpa [Lib.byteCells] using this
  rw [hk j, h j hj', ← hj]
  simp [Lib.byteCells, List.getElem?_eq_getElem hj']

theorem byteCells_one (l : List UInt8) : ∀ u ∈ Lib.byteCells l, u.oneCell' = true := by
  intro u hu
  simp only [Lib.byteCells, List.mem_map] at hu
  obtain ⟨b, _, rfl⟩ := hu
  rfl

theorem spell_ne (c : UInt8) (x : List UInt8) : x ++ spell c ≠ [] := by
  intro h
  have := congrArg List.length h
  have := spell_pos c
  simp only [List.length_append, List.length_nil] at *
  omega

theorem grownBy_drew {w w' : World} {row : Option Nat} (h : w.grownBy w' row) : w.grownBy w'.drew row := ⟨h.os, h.tape, h.output, h.size, h.block⟩

theorem below_grow {N : Nat} {w wr wc : World} (hb : Below N w wr) (hN : N < wr.heap.size) (hg : wr.grownBy wc none) : Below N w wc :=
  hb.grown hg (by omega) (by simp)

set_option maxHeartbeats 2000000 in
theorem norm_any (s : ByteArray) (w : World) (hs : s.size ≤ 4194304) :
    Calls Try.prog 23 #[.string s] w fun e w' => e = .returned (.string ⟨(norm s.data.toList).toArray⟩) ∧ Below w.heap.size w w' := by
  go_enter Try.func23, Try.ntmps23
  go_wp2
  go_loopw [4, 5] (fun kept i wr => ∃ (p k : Nat) (bs : List UInt8), kept = .int .i64 p ∧ i = .int .i64 k ∧ Inv s.data.toList bs p k ∧ Sta w.heap.size bs p wr ∧ Below w.heap.size w wr) (fun _ i _ => s.size - (intOf i).toNat)
  case atStart =>
    refine ⟨0, 0, [], rfl, rfl, inv_start _, .inl ⟨rfl, rfl, ?_⟩, (Below.refl _ _).alloc (Nat.le_refl _) _⟩
    show (w.heap.push _)[w.heap.size]? = _
    simp
  case round =>
    obtain ⟨p, k, bs, rfl, rfl, hinv, hsta, hb⟩ := hrel
    have hpk := hinv.1
    have hkl : k ≤ s.size := by have := hinv.2.1; simpa using this
    have hN := hsta.lt
    by_cases hlt : k < s.size
    · by_cases hj : Lib.indexByte (s.data.toList.drop k) 37 < 0
      · have hE : Hid (norm s.data.toList = bs ++ s.data.toList.drop p) := inv_end hinv (idx_neg _ _ hj)
        have hi : ∀ w, Calls Try.prog 29 #[.string (s.extract k s.size), .int .u8 37] w fun e w' => e = .returned (.int .i64 (Lib.indexByte (s.data.toList.drop k) 37)) ∧ w = w' := by
          intro w
          have h1 := indexByte_any (s.extract k s.size) 37 w
          rw [Lib.extract_data, List.take_of_length_le (by simp), show ((37 : Int).toNat.toUInt8) = 37 from rfl] at h1
          exact h1.mono (fun e w' ⟨a, b⟩ => ⟨a, b.symm⟩)
        rcases hsta with ⟨rfl, rfl, hfr⟩ | ⟨hne, v, hB⟩
        · have hcc : wr.cell? ⟨w.heap.size, 1, none⟩ = some (.slice none 0 0) := by rw [Lib.cell_of_heap hfr]; rfl
          go_wp2_with (first | (go_at_call 29; refine (hi _).mono ?_; rintro e w' ⟨rfl, rfl⟩) | (go_at_call 32; refine (cap_any _ none 0 0 _ hcc).mono ?_; rintro e w' ⟨rfl, rfl⟩))
          go_ret
          refine ⟨?_, hb⟩
          rw [hE.out]
          simp
        · obtain ⟨ao, cp, hv, hcp⟩ := hB.slice
          have hcc : wr.cell? ⟨w.heap.size, 1, none⟩ = some (.slice ao (Lib.byteCells bs).length cp) := by rw [← hv]; exact hB.c1
          have hcp0 : ((cp : Int) == 0) = false := by
            have : 0 < bs.length := List.length_pos_iff.2 hne
            rw [Lib.byteCells_length] at hcp
            simp; omega
          have HV : Hid (v = .slice ao (Lib.byteCells bs).length cp) := hv
          have hbl := inv_len hinv
          clear hv hcp
          go_wp2_with (first | (go_at_call 29; refine (hi _).mono ?_; rintro e w' ⟨rfl, rfl⟩) | (go_at_call 32; refine (cap_any _ ao _ cp _ hcc).mono ?_; rintro e w' ⟨rfl, rfl⟩))
          refine (writeString_any _ v _ _ _ hB (by simp [Lib.byteCells_length]; simp at hbl; omega)).mono ?_
          rintro e w2 ⟨rfl, v2, hB2, hF2⟩
          rw [str_tail, ← Lib.byteCells_append] at hB2
          go_wp2_with fail
          refine (String_any _ v2 _ _ hB2 (by simp [hne])).mono ?_
          rintro e w3 ⟨rfl, hb3⟩
          go_wp2
          go_ret
          exact ⟨by rw [hE.out]; rfl, (hb.trans hF2.below).trans hb3⟩
      · obtain ⟨j, hjj⟩ : ∃ j : Nat, Lib.indexByte (s.data.toList.drop k) 37 = (j : Int) := ⟨(Lib.indexByte (s.data.toList.drop k) 37).toNat, by omega⟩
        have hi : ∀ w, Calls Try.prog 29 #[.string (s.extract k s.size), .int .u8 37] w fun e w' => e = .returned (.int .i64 (j : Int)) ∧ w = w' := by
          intro w
          have h1 := indexByte_any (s.extract k s.size) 37 w
          rw [Lib.extract_data, List.take_of_length_le (by simp), show ((37 : Int).toNat.toUInt8) = 37 from rfl, hjj] at h1
          exact h1.mono (fun e w' ⟨a, b⟩ => ⟨a, b.symm⟩)
        obtain ⟨hj1, hj2, hfree⟩ := idx_nat _ _ _ hjj
        have hjl : k + j < s.size := by simp at hj1; omega
        have h37 : s[k + j] = 37 := by
          rw [List.getElem?_drop, list_at s (k + j) hjl] at hj2
          exact Option.some.inj hj2
        have HF : Hid (37 ∉ (s.data.toList.drop k).take j) := hfree
        clear hjj hj hj1 hj2 hfree
        obtain ⟨o, ok, c, wd, hcall, hok1, hok0, htok⟩ := octet_at s (k + j) hjl h37
        have H1 : Hid (ok = true → o = c.toNat ∧ wd = 3) := hok1
        have H0 : Hid (ok = false → c = 37 ∧ wd = 1) := hok0
        clear hok1 hok0 h37
        have hwd1 := htok.1
        have hwd3 := htok.2.1
        have hwdl : k + j + wd ≤ s.size := by have := htok.2.2.1; simpa using this
        go_upto_if 33 with (first | (go_at_call 29; refine (hi _).mono ?_; rintro e w' ⟨rfl, rfl⟩) | (go_at_call 30; refine (hcall _).mono ?_; rintro e w' ⟨rfl, rfl⟩))
        go_cut [7, 8] (fun vc vw wc => vc = .int .u8 c.toNat ∧ vw = .int .i64 wd ∧ wr = wc)
        case first =>
          cases ok with
          | true =>
            go_wp2
            go_meet
            have hh := H1.out (by first | rfl | trivial)
            exact ⟨congrArg _ hh.1, by rw [hh.2]; rfl, rfl⟩
          | false =>
            go_wp2
            go_meet
            have hh := H0.out (by first | rfl | trivial)
            exact ⟨by rw [hh.1]; rfl, by rw [hh.2]; rfl, rfl⟩
        case rest =>
          obtain ⟨rfl, rfl, rfl⟩ := hcut
          have hc256 : c.toNat < 256 := c.toNat_lt
          have hd1 : (0 : Int) ≤ (c.toNat : Int) / 16 ∧ (c.toNat : Int) / 16 < 16 := by omega
          have hd2 : (0 : Int) ≤ (c.toNat : Int) % 16 ∧ (c.toNat : Int) % 16 < 16 := by omega
          have hand : bits BinOp.and IntKind.u8 (c.toNat : Int) 15 = (c.toNat : Int) % 16 := bits_and_15 c
          go_wp2
          go_region
          go_upto_if 44 with (go_at_call 31; refine (unreserved_any _ _).mono ?_; rintro e w' ⟨rfl, rfl⟩)
          go_cut [12] (fun vn wx => Spelt c vn wr wx)
          case first =>
            go_wp2
            · go_meet
              exact spelt_one ‹_› _ _
            · go_meet
              exact spelt_three ‹_› _ _ _ (congrArg Nat.cast (tab_up _ (by omega))) (congrArg Nat.cast (tab_up _ (by omega)))
          case rest =>
            obtain ⟨ad, cap, rfl, hcell, hgr, had⟩ := hcut
            have hconv : (convert 36 9 (.slice (some ad) (spell c).length cap)).run Try.prog wc.drew = .ok (.string ⟨(spell c).toArray⟩) wc.drew :=
              run_convert_bytes_back _ 36 9 5 ad cap (spell c) Try.underlying36 Try.underlying5 Try.underlying9 hcell
            obtain ⟨df, hdf⟩ : ∃ df : Bool, (!(spell c == (s.extract (k + j) (k + j + wd)).toList)) = df := ⟨_, rfl⟩
            go_upto_region 16 with fail
            go_cut [55] (fun v wx => v = .bool df ∧ wc.drew = wx)
            case first =>
              go_region
              go_wp2
              go_meet
              exact ⟨rfl, rfl⟩
            case rest =>
              obtain ⟨rfl, rfl⟩ := hcut
              have HC : Hid (∀ i (hi : i < (spell c).length), wc.cell? (ad.add i) = some (.int .u8 ((spell c)[i].toNat : Int))) := hcell
              have HD : Hid ((!(spell c == (s.extract (k + j) (k + j + wd)).toList)) = df) := hdf
              clear hcell hconv hdf
              go_upto_if 55 with fail
              go_cut [4] (fun v4 wx => ∃ (p' : Nat) (bs' : List UInt8), v4 = .int .i64 p' ∧ Inv s.data.toList bs' p' (k + j + wd) ∧ Sta w.heap.size bs' p' wx ∧ Below w.heap.size w wx)
              case first =>
                cases df with
                | false =>
                  go_wp2
                  go_meet
                  have heq : spell c = (s.data.toList.drop (k + j)).take wd := by
                    have h1 := HD.out
                    simp only [Bool.not_eq_false', beq_iff_eq] at h1
                    rw [h1, Lib.extract_toList]
                    congr 1
                    omega
                  exact ⟨p, bs, rfl, inv_same hinv j c wd HF.out htok heq, hsta.kept (grownBy_drew hgr), below_grow hb hN (grownBy_drew hgr)⟩
                | true =>
                  have hlt' := Spelt.lt HC.out
                  have hgs := hgr.size
                  have hbl := inv_len hinv
                  rcases hsta with ⟨rfl, rfl, hfr⟩ | ⟨hne, v, hB⟩
                  · have hfr' : wc.drew.heap[w.heap.size]? = some (.cells #[.pointer none, .slice none 0 0] 55 (0, 0)) := (hgr.block _ hN (by simp)).trans hfr
                    have hcc : wc.drew.cell? ⟨w.heap.size, 1, none⟩ = some (.slice none 0 0) := by rw [Lib.cell_of_heap hfr']; rfl
                    go_wp2_with (first | (go_at_call 32; refine (cap_any _ none 0 0 _ hcc).mono ?_; rintro e w' ⟨rfl, rfl⟩) | (go_at_call 33; refine (Grow_fresh _ s.size _ hfr' (by omega) (by omega)).mono ?_; rintro e w1 ⟨rfl, v1, hB1, hF1, hv1⟩))
                    refine (writeString_any _ v1 _ _ _ hB1 (by simp; omega)).mono ?_
                    rintro e w2 ⟨rfl, v2, hB2, hF2⟩
                    go_wp2_with fail
                    refine (write_any _ v2 _ ad _ cap (Lib.byteCells (spell c)) _ hB2 (by simp [Lib.byteCells]) ?_ ?_ ?_).mono ?_
                    rotate_left 3
                    · rintro e w3 ⟨rfl, v3, hB3, hF3⟩
                      go_wp2
                      go_meet
                      have hI := inv_diff hinv j c wd HF.out htok
                      refine ⟨k + j + wd, _, by go_num, hI, .inr ⟨spell_ne _ _, v3, ?_⟩, ?_⟩
                      · rw [str_take] at hB3
                        simpa [Lib.byteCells_append] using hB3
                      · exact (((below_grow hb hN hgr).drew.trans hF1.below).trans hF2.below).trans hF3.below
                    · refine news_of HC.out (fun i => ?_)
                      rw [hF2.cells (Nat.lt_of_lt_of_le hlt' hF1.below.size) (by omega) (fun e => by have := hv1 _ e.symm; have hz : wc.drew.heap.size = wc.heap.size := rfl; omega) i]
                      exact hF1.cells hlt' (by omega) (by simp [Value.ownBlock]) i
                    · exact byteCells_one _
                    · have := spell_le c
                      simp [Lib.strCells_length]; omega
                  · have hB0 : Bd w.heap.size v (Lib.byteCells bs) wc.drew := hB.kept (grownBy_drew hgr)
                    obtain ⟨ao, cp, hv, hcp⟩ := hB0.slice
                    have hcc : wc.drew.cell? ⟨w.heap.size, 1, none⟩ = some (.slice ao (Lib.byteCells bs).length cp) := by rw [← hv]; exact hB0.c1
                    have hcp0 : ((cp : Int) == 0) = false := by
                      have : 0 < bs.length := List.length_pos_iff.2 hne
                      rw [Lib.byteCells_length] at hcp
                      simp; omega
                    have HV : Hid (v = .slice ao (Lib.byteCells bs).length cp) := hv
                    clear hv hcp
                    go_wp2_with (first | (go_at_call 32; refine (cap_any _ ao _ cp _ hcc).mono ?_; rintro e w' ⟨rfl, rfl⟩))
                    refine (writeString_any _ v _ _ _ hB0 (by simp [Lib.byteCells_length]; simp at hbl; omega)).mono ?_
                    rintro e w2 ⟨rfl, v2, hB2, hF2⟩
                    go_wp2_with fail
                    refine (write_any _ v2 _ ad _ cap (Lib.byteCells (spell c)) _ hB2 (by simp [Lib.byteCells]) ?_ ?_ ?_).mono ?_
                    rotate_left 3
                    · rintro e w3 ⟨rfl, v3, hB3, hF3⟩
                      go_wp2
                      go_meet
                      have hI := inv_diff hinv j c wd HF.out htok
                      refine ⟨k + j + wd, _, by go_num, hI, .inr ⟨spell_ne _ _, v3, ?_⟩, ?_⟩
                      · rw [str_take] at hB3
                        simpa [Lib.byteCells_append] using hB3
                      · exact ((below_grow hb hN hgr).drew.trans hF2.below).trans hF3.below
                    · refine news_of HC.out (fun i => ?_)
                      exact hF2.cells hlt' (by omega) (fun e => by have := (hB.own.lt _ e.symm).2; omega) i
                    · exact byteCells_one _
                    · have := spell_le c
                      simp at hbl
                      simp [Lib.strCells_length, Lib.byteCells_length]; omega
              case rest =>
                obtain ⟨p', bs', rfl, hinv', hsta', hb'⟩ := hcut
                go_wp2
                go_roundw
                case rel => exact ⟨p', k + j + wd, bs', rfl, by go_num, hinv', hsta', hb'⟩
                case measure => simp [intOf]; omega
    · have hE : Hid (norm s.data.toList = bs ++ s.data.toList.drop p) := inv_end hinv (by rw [List.drop_of_length_le (by simp; omega)]; simp)
      rcases hsta with ⟨rfl, rfl, hfr⟩ | ⟨hne, v, hB⟩
      · have hcc : wr.cell? ⟨w.heap.size, 1, none⟩ = some (.slice none 0 0) := by rw [Lib.cell_of_heap hfr]; rfl
        go_wp2_with (first | (go_at_call 32; refine (cap_any _ none 0 0 _ hcc).mono ?_; rintro e w' ⟨rfl, rfl⟩))
        go_ret
        refine ⟨?_, hb⟩
        rw [hE.out]
        simp
      · obtain ⟨ao, cp, hv, hcp⟩ := hB.slice
        have hcc : wr.cell? ⟨w.heap.size, 1, none⟩ = some (.slice ao (Lib.byteCells bs).length cp) := by rw [← hv]; exact hB.c1
        have hcp0 : ((cp : Int) == 0) = false := by
          have : 0 < bs.length := List.length_pos_iff.2 hne
          rw [Lib.byteCells_length] at hcp
          simp; omega
        have HV : Hid (v = .slice ao (Lib.byteCells bs).length cp) := hv
        have hbl := inv_len hinv
        clear hv hcp
        go_wp2_with (first | (go_at_call 32; refine (cap_any _ ao _ cp _ hcc).mono ?_; rintro e w' ⟨rfl, rfl⟩))
        refine (writeString_any _ v _ _ _ hB (by simp [Lib.byteCells_length]; simp at hbl; omega)).mono ?_
        rintro e w2 ⟨rfl, v2, hB2, hF2⟩
        rw [str_tail, ← Lib.byteCells_append] at hB2
        go_wp2_with fail
        refine (String_any _ v2 _ _ hB2 (by simp [hne])).mono ?_
        rintro e w3 ⟨rfl, hb3⟩
        go_wp2
        go_ret
        exact ⟨by rw [hE.out]; rfl, (hb.trans hF2.below).trans hb3⟩

end Go.Proofs.Qxb6601800a
