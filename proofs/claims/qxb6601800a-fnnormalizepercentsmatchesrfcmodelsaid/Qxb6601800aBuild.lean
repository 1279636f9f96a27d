/-
  Seat b6601800a: strings.Builder's methods, walked: Cap, Grow at a fresh builder, WriteString, Write, String. The builder lies in block b, its row behind it.
-/
import Derived.Test.Qxb6601800aRows
import Derived.Test.Qxb6601800aLaid
import Derived.WalkKit
import Derived.WalkSpells
import Derived.WalkLawsBesides
import Derived.RegionTactic
import Derived.BigRegion
import Derived.Lib.Strings
import Derived.Lib.Slices
import Derived.Lib.Walk
import Derived.Lib.Builder
import Derived.Lib.AppendStr
import Derived.Lib.MakeNoZero
import Derived.Laws.Externs
import Derived.Laws.IdiomCopy
namespace Go.Proofs.Qxb6601800a
open Go.RowKit

/-- A used builder in block b: its buffer is v, which owns the bytes bs in a row behind b. -/
structure Bd (b : Nat) (v : Value) (bs : List Value) (w : World) : Prop where
  blk : w.heap[b]? = some (.cells #[.pointer (some ⟨b, 0, none⟩), v] 55 (0, 0))
  own : w.ownsRow (b + 1) 5 1 v bs.length bs

/-- The frame of a builder's method: what is neither the builder nor its row stands. -/
structure Fr (b : Nat) (v : Value) (w w' : World) : Prop where
  below : Below b w w'
  rest : ∀ k, k < w.heap.size → k ≠ b → some k ≠ v.ownBlock → w'.heap[k]? = w.heap[k]?

theorem Bd.lt {b : Nat} {v : Value} {bs : List Value} {w : World} (h : Bd b v bs w) : b < w.heap.size := by
  rcases Nat.lt_or_ge b w.heap.size with h' | h'
  · exact h'
  · have := h.blk; simp [Array.getElem?_eq_none h'] at this

theorem Bd.ne {b : Nat} {v : Value} {bs : List Value} {w : World} (h : Bd b v bs w) : v.ownBlock ≠ some b := by
  intro e
  have := (h.own.lt b e).1
  omega

theorem Bd.c0 {b : Nat} {v : Value} {bs : List Value} {w : World} (h : Bd b v bs w) : w.cell? ⟨b, 0, none⟩ = some (.pointer (some ⟨b, 0, none⟩)) := by rw [Lib.cell_of_heap h.blk]; rfl
theorem Bd.c1 {b : Nat} {v : Value} {bs : List Value} {w : World} (h : Bd b v bs w) : w.cell? ⟨b, 1, none⟩ = some v := by rw [Lib.cell_of_heap h.blk]; rfl

theorem Bd.slice {b : Nat} {v : Value} {bs : List Value} {w : World} (h : Bd b v bs w) : ∃ ao cap, v = .slice ao bs.length cap ∧ bs.length ≤ cap := by
  rcases h.own.2 with ⟨hv, h0⟩ | ⟨g, cap, cur, hv, _, _, hc, _⟩
  · exact ⟨none, 0, by rw [hv, h0], by omega⟩
  · exact ⟨_, _, hv, hc⟩

/-- A new buffer laid into 'buf'. -/
theorem Bd.put {b : Nat} {v v' : Value} {bs' : List Value} {w : World} (hb : w.heap[b]? = some (.cells #[.pointer (some ⟨b, 0, none⟩), v] 55 (0, 0))) (hown : w.ownsRow (b + 1) 5 1 v' bs'.length bs') :
    Bd b v' bs' (w.setCell ⟨b, 1, none⟩ v') := by
  refine ⟨?_, ?_⟩
  · simp [World.setCell, Array.getElem?_modify, hb]
  · exact hown.kept (row := some b) ⟨rfl, rfl, rfl, by simp [World.setCell], fun k _ hk => Below.heap_setCell _ _ _ _ (fun e => hk (by simp [e]))⟩ (Or.inr (fun e => by have := (hown.lt b e).1; omega))

/-- The builder over a frame that keeps both its blocks. -/
theorem Bd.kept {b : Nat} {v : Value} {bs : List Value} {w w' : World} (h : Bd b v bs w) (hg : w.grownBy w' none) : Bd b v bs w' := by
  refine ⟨?_, h.own.kept hg ?_⟩
  · rw [hg.block b h.lt (by simp)]; exact h.blk
  · cases v.ownBlock <;> simp

theorem byte_parts : ∃ i, Try.prog.info? 5 = some i ∧ i.zero = some (.int .u8 0) ∧ i.size = 1 ∧ i.bytes = 1 := by
  have h : (Try.prog.info? 5).map (fun i => (i.zero, i.size, i.bytes)) = some (some (.int .u8 0), 1, 1) := by kernel_rfl
  obtain ⟨i, hi, h2⟩ := Option.map_eq_some_iff.1 h
  simp only [Prod.mk.injEq] at h2
  exact ⟨i, hi, h2.1, h2.2.1, h2.2.2⟩

theorem copyCheck_used (b : Nat) (w : World) (h0 : w.cell? ⟨b, 0, none⟩ = some (.pointer (some ⟨b, 0, none⟩))) :
    Calls Try.prog 43 #[.pointer (some ⟨b, 0, none⟩)] w fun e w' => e = .returned (.tuple #[]) ∧ w = w' :=
  (Any.Builder_copyCheck_used { lays165 with } Builder_Extra_165.toX72 b w h0).mono (fun _ _ ⟨h1, h2⟩ => ⟨h1, h2.symm⟩)

theorem copyCheck_fresh (b : Nat) (w : World) (h0 : w.cell? ⟨b, 0, none⟩ = some (.pointer none)) (hsh : w.shape? b = some (55, 2)) (hfz : w.frozen? ⟨b, 0, none⟩ = false) :
    Calls Try.prog 43 #[.pointer (some ⟨b, 0, none⟩)] w fun e w' => e = .returned (.tuple #[]) ∧ w' = w.setCell ⟨b, 0, none⟩ (.pointer (some ⟨b, 0, none⟩)) :=
  Any.Builder_copyCheck_fresh { lays165 with } Builder_Extra_165.toX72 b w h0 hsh hfz

set_option maxHeartbeats 1000000 in
theorem cap_any (b : Nat) (ao : Option Addr) (n cap : Nat) (w : World) (h : w.cell? ⟨b, 1, none⟩ = some (.slice ao n cap)) :
    Calls Try.prog 32 #[.pointer (some ⟨b, 0, none⟩)] w fun e w' => e = .returned (.int .i64 cap) ∧ w = w' := by
  go_enter Try.func32, Try.ntmps32
  go_wp2
  go_ret
  exact ⟨rfl, rfl⟩

set_option maxHeartbeats 2000000 in
set_option maxRecDepth 100000 in
theorem writeString_any (b : Nat) (v : Value) (bs : List Value) (s : ByteArray) (w : World) (h : Bd b v bs w) (hlen : bs.length + s.size ≤ 140737488355328) :
    Calls Try.prog 34 #[.pointer (some ⟨b, 0, none⟩), .string s] w fun e w' => e = .returned (.tuple #[.int .i64 s.size, .nilIface]) ∧ ∃ v', Bd b v' (bs ++ Lib.strCells s) w' ∧ Fr b v w w' := by
  obtain ⟨i0, hi, hz0, hz1, hz2⟩ := byte_parts
  have c0 := h.c0
  have c1 := h.c1
  have hlt := h.lt
  go_enter Try.func34, Try.ntmps34
  go_wp2_with (first | (go_at_call 43; refine (copyCheck_used _ _ c0).mono ?_; rintro e w' ⟨rfl, rfl⟩) | (at_builtin; refine Lib.wpList_append_own_string _ rfl _ _ 36 9 rfl (b + 1) 5 i0 Try.underlying36 Try.underlying9 hi hz0 hz1 hz2 _ _ _ rfl h.own s rfl ?c3 ?c4 ?c5 ?_))
  case c3 => unfold maxLen; omega
  case c4 => omega
  case c5 => omega
  intro v' w2 hown' hgrow _
  have hb2 : w2.heap[b]? = some (.cells #[.pointer (some ⟨b, 0, none⟩), v] 55 (0, 0)) := by
    rw [hgrow.block b hlt (fun e => h.ne e.symm)]
    exact h.blk
  have d1 : w2.cell? ⟨b, 1, none⟩ = some v := by rw [Lib.cell_of_heap hb2]; rfl
  have f1 : w2.frozen? ⟨b, 1, none⟩ = false := Lib.frozen_of_heap hb2 1
  obtain ⟨ao, n', cap, rfl⟩ : ∃ ao n' cap, v' = .slice ao n' cap := by
    rcases hown'.2 with ⟨hv, _⟩ | ⟨g, cap, cur, hv, _⟩
    · exact ⟨_, _, _, hv⟩
    · exact ⟨_, _, _, hv⟩
  go_wp2
  go_ret2
  refine ⟨rfl, _, Bd.put hb2 (bs' := bs ++ Lib.strCells s) (by simpa [Lib.strCells_length] using hown'), ?_, ?_⟩
  · exact ((Below.refl b w).grown hgrow (by omega) (fun k hk => by have := (h.own.lt k hk).1; omega)).setCell (p := ⟨b, 1, none⟩) (Nat.le_refl _) _
  · intro k hk hkb hkv
    rw [Below.heap_setCell _ _ _ _ hkb]
    exact hgrow.block k hk hkv

set_option maxHeartbeats 2000000 in
set_option maxRecDepth 100000 in
theorem write_any (b : Nat) (v : Value) (bs : List Value) (ad : Addr) (m c : Nat) (news : List Value) (w : World) (h : Bd b v bs w)
    (hl : news.length = m) (hnews : ∀ j u, news[j]? = some u → w.cell? (ad.add j) = some u) (h1 : ∀ u ∈ news, u.oneCell' = true) (hlen : bs.length + m ≤ 140737488355328) :
    Calls Try.prog 35 #[.pointer (some ⟨b, 0, none⟩), .slice (some ad) m c] w fun e w' => e = .returned (.tuple #[.int .i64 m, .nilIface]) ∧ ∃ v', Bd b v' (bs ++ news) w' ∧ Fr b v w w' := by
  obtain ⟨i0, hi, hz0, hz1, hz2⟩ := byte_parts
  have c0 := h.c0
  have c1 := h.c1
  have hlt := h.lt
  go_enter Try.func35, Try.ntmps35
  go_wp2_with (first | (go_at_call 43; refine (copyCheck_used _ _ c0).mono ?_; rintro e w' ⟨rfl, rfl⟩) | (at_builtin; refine wpList_append_own _ rfl _ _ 36 rfl (b + 1) 5 i0 (.int .u8 0) 1 1 Try.underlying36 hi hz0 hz1 hz2 rfl (by decide) _ _ _ rfl h.own ad m c news rfl (by omega) hnews h1 ?c3 ?c4 ?c5 ?_))
  case c3 => unfold maxLen; omega
  case c4 => omega
  case c5 => omega
  intro v' w2 hown' hgrow _
  have hb2 : w2.heap[b]? = some (.cells #[.pointer (some ⟨b, 0, none⟩), v] 55 (0, 0)) := by
    rw [hgrow.block b hlt (fun e => h.ne e.symm)]
    exact h.blk
  have d1 : w2.cell? ⟨b, 1, none⟩ = some v := by rw [Lib.cell_of_heap hb2]; rfl
  have f1 : w2.frozen? ⟨b, 1, none⟩ = false := Lib.frozen_of_heap hb2 1
  obtain ⟨ao, n', cap, rfl⟩ : ∃ ao n' cap, v' = .slice ao n' cap := by
    rcases hown'.2 with ⟨hv, _⟩ | ⟨g, cap, cur, hv, _⟩
    · exact ⟨_, _, _, hv⟩
    · exact ⟨_, _, _, hv⟩
  go_wp2
  go_ret2
  refine ⟨rfl, _, Bd.put hb2 (bs' := bs ++ news) (by simpa [hl] using hown'), ?_, ?_⟩
  · exact ((Below.refl b w).grown hgrow (by omega) (fun k hk => by have := (h.own.lt k hk).1; omega)).setCell (p := ⟨b, 1, none⟩) (Nat.le_refl _) _
  · intro k hk hkb hkv
    rw [Below.heap_setCell _ _ _ _ hkb]
    exact hgrow.block k hk hkv

set_option maxHeartbeats 2000000 in
set_option maxRecDepth 1000000 in
theorem grow_fresh (b n : Nat) (w : World) (hbk : w.heap[b]? = some (.cells #[.pointer (some ⟨b, 0, none⟩), .slice none 0 0] 55 (0, 0))) (hn : n ≤ 281474976710656) :
    Calls Try.prog 44 #[.pointer (some ⟨b, 0, none⟩), .int .i64 n] w fun e w' => e = .returned (.tuple #[]) ∧ ∃ v', Bd b v' [] w' ∧ Fr b (.slice none 0 0) w w' ∧ ∀ g, v'.ownBlock = some g → w.heap.size ≤ g := by
  obtain ⟨cs, hrun, hle, hmax⟩ := Lib.run_makeNoZero (P := Try.prog) w.drew #[3] 36 5 Try.underlying36 n hn
  have hw : IntKind.i64.wrap (IntKind.i64.wrap 0 + (n : Int)) = n := by
    rw [IntKind.wrap_i64, IntKind.wrap_i64]
    omega
  have hlt : b < w.heap.size := by
    rcases Nat.lt_or_ge b w.heap.size with h' | h'
    · exact h'
    · simp [Array.getElem?_eq_none h'] at hbk
  have hcall : (callFunc 48 #[.int .i64 n]).run Try.prog w.drew = .ok (.value (.slice (some ⟨w.drew.heap.size, 0, none⟩) n cs.size)) (w.drew.drew.drew.alloc (.cells cs 5)) := by
    rw [run_callFunc_extern Try.func48 (by kernel_rfl) (by kernel_rfl) (by kernel_rfl) (e := Extern.BytealgMakeNoZero.makeNoZero #[3] #[36]) (by kernel_rfl), hrun]
    rfl
  have c1 : w.drew.cell? ⟨b, 1, none⟩ = some (.slice none 0 0) := by
    have : w.drew.heap[b]? = _ := hbk
    rw [Lib.cell_of_heap this]; rfl
  have hbk2 : (w.alloc (.cells cs 5)).heap[b]? = some (.cells #[.pointer (some ⟨b, 0, none⟩), .slice none 0 0] 55 (0, 0)) := (Lib.alloc_old w _ b hlt).trans hbk
  have c2 : (w.alloc (.cells cs 5)).cell? ⟨b, 1, none⟩ = some (.slice none 0 0) := by
    rw [Lib.cell_of_heap hbk2]; rfl
  have f2 : (w.alloc (.cells cs 5)).frozen? ⟨b, 1, none⟩ = false := Lib.frozen_of_heap hbk2 1
  have hcopy : ∀ W : World, (Builtin.copy_ #[36, 36] 3 #[.slice (some ⟨w.heap.size, 0, none⟩) 0 cs.size, .slice none 0 0]).run Try.prog W = .ok (goInt 0) W :=
    fun W => run_copy_none W 36 36 3 5 _ _ 0 cs.size 0 0 Try.underlying36 (by kernel_rfl) rfl
  have hfin : Bd b (.slice (some ⟨w.heap.size, 0, none⟩) 0 cs.size) [] ((w.alloc (.cells cs 5)).setCell ⟨b, 1, none⟩ (.slice (some ⟨w.heap.size, 0, none⟩) 0 cs.size)) :=
    Bd.put hbk2 (World.ownsRow_made w cs cs.size (by omega) (hmax (by unfold maxLen; omega)) (by simp))
  clear hw
  go_enter Try.func44, Try.ntmps44
  go_wp2
  go_region
  all_goals
    go_wp2
    go_end0
    rw [World.setCell_alloc_past (w := w) _ _ _ _ hlt] at hfin
    refine ⟨rfl, _, ⟨hfin.1, hfin.2⟩, ⟨?_, ?_⟩, fun g hg => by simp [Value.ownBlock] at hg; omega⟩
    · exact ((((Below.refl b w).setCell (p := ⟨b, 1, none⟩) (Nat.le_refl _) _).alloc (by simp [World.setCell]; omega) _).drew).drew.drew
    · intro k hk hkb _
      show (((w.setCell ⟨b, 1, none⟩ _).alloc _).heap)[k]? = _
      rw [Lib.alloc_old _ _ k (by simpa [World.setCell] using hk), Below.heap_setCell _ _ _ _ hkb]

set_option maxHeartbeats 2000000 in
set_option maxRecDepth 1000000 in
/-- Grow at a builder that has not been written. -/
theorem Grow_fresh (b n : Nat) (w : World) (hbk : w.heap[b]? = some (.cells #[.pointer none, .slice none 0 0] 55 (0, 0))) (hn0 : 0 < n) (hn : n ≤ 281474976710656) :
    Calls Try.prog 33 #[.pointer (some ⟨b, 0, none⟩), .int .i64 n] w fun e w' => e = .returned (.tuple #[]) ∧ ∃ v', Bd b v' [] w' ∧ Fr b (.slice none 0 0) w w' ∧ ∀ g, v'.ownBlock = some g → w.heap.size ≤ g := by
  have hbk1 : (w.setCell ⟨b, 0, none⟩ (.pointer (some ⟨b, 0, none⟩))).heap[b]? = some (.cells #[.pointer (some ⟨b, 0, none⟩), .slice none 0 0] 55 (0, 0)) := by
    simp [World.setCell, Array.getElem?_modify, hbk]
  have c1 : (w.setCell ⟨b, 0, none⟩ (.pointer (some ⟨b, 0, none⟩))).cell? ⟨b, 1, none⟩ = some (.slice none 0 0) := by rw [Lib.cell_of_heap hbk1]; rfl
  have c0 : w.cell? ⟨b, 0, none⟩ = some (.pointer none) := by rw [Lib.cell_of_heap hbk]; rfl
  have hsh : w.shape? b = some (55, 2) := by simp [World.shape?, hbk]
  have hf0 : w.frozen? ⟨b, 0, none⟩ = false := Lib.frozen_of_heap hbk 0
  go_enter Try.func33, Try.ntmps33
  go_wp2_with (go_at_call 43; refine (copyCheck_fresh b w c0 hsh hf0).mono ?_; rintro e w' ⟨rfl, rfl⟩)
  go_region
  all_goals go_wp2_with (go_at_call 44; refine (grow_fresh b n _ (by exact hbk1) hn).mono ?_; rintro e w' ⟨rfl, v', h1, h2, h3⟩)
  all_goals
    go_end0
    refine ⟨rfl, v', h1, ⟨?_, ?_⟩, fun g hg => by have := h3 g hg; simpa [World.setCell] using this⟩
    · exact (((Below.refl b w).setCell (p := ⟨b, 0, none⟩) (Nat.le_refl _) _).drew).trans h2.below
    · intro k hk hkb hkv
      rw [h2.rest k (by simpa [World.setCell] using hk) hkb hkv]
      exact Below.heap_setCell _ _ _ _ hkb

/-- String of a builder that holds at least one byte. -/
theorem String_any (b : Nat) (v : Value) (l : List UInt8) (w : World) (h : Bd b v (Lib.byteCells l) w) (h0 : l ≠ []) :
    Calls Try.prog 36 #[.pointer (some ⟨b, 0, none⟩)] w fun e w' => e = .returned (.string ⟨l.toArray⟩) ∧ Below b w w' := by
  have hown : w.ownsRow b 5 1 v (Lib.byteCells l).length (Lib.byteCells l) := by
    obtain ⟨h1, h2⟩ := h.own
    refine ⟨h1, ?_⟩
    rcases h2 with h2 | ⟨g, cap, cur, hv, hg, r⟩
    · exact .inl h2
    · exact .inr ⟨g, cap, cur, hv, by omega, r⟩
  exact Any.Builder_String lays169 Builder_Extra_169 b b l w (.inr ⟨Nat.le_refl _, v, h.blk, hown, h.ne⟩) h0

end Go.Proofs.Qxb6601800a
