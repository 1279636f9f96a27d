/-
  Seat b6602004a: strings.Contains's contract at this program, as the shelf's plain mode lays it; what the world's shape says of internal bytealg's MaxLen.
-/
import Derived.Shelf.LaysM
import Derived.Shelf.Strings.Search3
import Derived.Test.Qxb6602004aProg
namespace Go.Proofs.Qxb6602004a
open Go.Shelf
def lays144_ren : Go.Shelf.Ren := ⟨fun | 144 => 12 | 143 => 16 | 219 => 19 | 217 => 22 | 225 => 23 | 224 => 24 | 267 => 25 | 266 => 26 | 314 => 27 | n => n, fun | 9 => 9 | 4 => 4 | 3 => 3 | 5 => 5 | 46 => 41 | 146 => 43 | 51 => 42 | n => n, fun | 1 => 0 | n => n⟩
theorem lays144 : Go.Proofs.Lays.n144 Try.prog lays144_ren := {
  mixed := by kernel_rfl
  f143 := Try.func16.trans (congrArg some (by kernel_rfl))
  f144 := Try.func12.trans (congrArg some (by kernel_rfl))
  f217 := Try.func22.trans (congrArg some (by kernel_rfl))
  f219 := Try.func19.trans (congrArg some (by kernel_rfl))
  f224 := Try.func24.trans (congrArg some (by kernel_rfl))
  f225 := Try.func23.trans (congrArg some (by kernel_rfl))
  f266 := Try.func26.trans (congrArg some (by kernel_rfl))
  f267 := Try.func25.trans (congrArg some (by kernel_rfl))
  f314 := Try.func27.trans (congrArg some (by kernel_rfl))
  t3 := Try.underlying3
  a3 := Try.isAgg3
  z3 := Try.sizeOf3
  v3 := Try.zeroValue3
  t4 := Try.underlying4
  a4 := Try.isAgg4
  z4 := Try.sizeOf4
  v4 := Try.zeroValue4
  t5 := Try.underlying5
  a5 := Try.isAgg5
  z5 := Try.sizeOf5
  v5 := Try.zeroValue5
  t9 := Try.underlying9
  a9 := Try.isAgg9
  z9 := Try.sizeOf9
  v9 := Try.zeroValue9
  t46 := Try.underlying41
  a46 := Try.isAgg41
  z46 := Try.sizeOf41
  v46 := Try.zeroValue41
  t51 := Try.underlying42
  a51 := Try.isAgg42
  z51 := Try.sizeOf42
  v51 := Try.zeroValue42
  t146 := Try.underlying43
  a146 := Try.isAgg43
  z146 := Try.sizeOf43
  v146 := Try.zeroValue43
  g1 := by kernel_rfl }
open Go.RowKit Go.Lib in
theorem strings_Contains (s sub : ByteArray) (m : Int) (w : World) (hs : s.size < 4294967281) (hm : w.cell? ⟨0, 0, none⟩ = some (.int .i64 m)) :
    Calls Try.prog 12 #[.string s, .string sub] w fun e w' => e = .returned (.bool (Lib.contains s.data.toList sub.data.toList)) ∧ w' = w := Any.strings_Contains lays144 s sub m w hs hm
/-- The variable MaxLen holds some number. -/
theorem cell_maxLen (w : World) (h : w.ShapedOpen Try.prog) : ∃ m, w.cell? ⟨0, 0, none⟩ = some (.int .i64 m) :=
  Go.Proofs.cell_of_shapedOpen_int (zero := #[.int .i64 0]) (t := 3) h (of_decide_eq_true (by kernel_rfl)) (by kernel_rfl) rfl (by kernel_rfl) (by kernel_rfl) Try.underlying3

end Go.Proofs.Qxb6602004a
