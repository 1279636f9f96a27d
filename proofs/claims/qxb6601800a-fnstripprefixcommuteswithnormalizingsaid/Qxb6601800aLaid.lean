/-
  Seat b6601800a: that this program bears the bodies of strings.Builder's Grow (with copyCheck) and String that the kit's shelf speaks of: in the shelf's plain mode.
-/
import Derived.Shelf.Strings.Builder1
import Derived.Test.Qxb6601800aProg
namespace Go.Proofs.Qxb6601800a
open Go.Shelf
def lays169_ren : Go.Shelf.Ren := ⟨fun | 169 => 36 | n => n, fun | 70 => 53 | 9 => 9 | 0 => 0 | 72 => 55 | 37 => 36 | 127 => 74 | 3 => 3 | 5 => 5 | n => n, fun | n => n⟩
theorem lays169 : Go.Proofs.Lays.n169 Try.prog lays169_ren := {
  mixed := by kernel_rfl
  f169 := Try.func36.trans (congrArg some (by kernel_rfl))
  t0 := Try.underlying0
  a0 := Try.isAgg0
  z0 := Try.sizeOf0
  v0 := Try.zeroValue0
  t3 := Try.underlying3
  a3 := Try.isAgg3
  z3 := Try.sizeOf3
  v3 := Try.zeroValue3
  t9 := Try.underlying9
  a9 := Try.isAgg9
  z9 := Try.sizeOf9
  v9 := Try.zeroValue9
  t37 := Try.underlying36
  a37 := Try.isAgg36
  z37 := Try.sizeOf36
  v37 := Try.zeroValue36
  t70 := Try.underlying53
  a70 := Try.isAgg53
  z70 := Try.sizeOf53
  v70 := Try.zeroValue53
  t72 := Try.underlying55
  a72 := Try.isAgg55
  z72 := Try.sizeOf55
  v72 := Try.zeroValue55
  t127 := Try.underlying74
  a127 := Try.isAgg74
  z127 := Try.sizeOf74
  v127 := Try.zeroValue74 }
theorem Builder_Extra_169 : Builder.Extra Try.prog lays169_ren := {
  sizeBuilder := by kernel_rfl
  liesBuilder := by kernel_rfl
  t5 := Try.underlying5
  a5 := Try.isAgg5
  z5 := Try.sizeOf5
  v5 := Try.zeroValue5
  infoByte := by kernel_rfl
  cellsByte := by kernel_rfl
  sizeByte := by kernel_rfl
  neB5 := by decide }
def lays165_ren : Go.Shelf.Ren := ⟨fun | 165 => 33 | 240 => 43 | 241 => 44 | 276 => 47 | 277 => 48 | n => n, fun | 70 => 53 | 3 => 3 | 0 => 0 | 4 => 4 | 9 => 9 | 20 => 20 | 72 => 55 | 37 => 36 | 164 => 75 | 5 => 5 | n => n, fun | n => n⟩
theorem lays165 : Go.Proofs.Lays.n165 Try.prog lays165_ren := {
  mixed := by kernel_rfl
  f165 := Try.func33.trans (congrArg some (by kernel_rfl))
  f240 := Try.func43.trans (congrArg some (by kernel_rfl))
  f241 := Try.func44.trans (congrArg some (by kernel_rfl))
  f276 := Try.func47.trans (congrArg some (by kernel_rfl))
  f277 := Try.func48.trans (congrArg some (by kernel_rfl))
  t0 := Try.underlying0
  a0 := Try.isAgg0
  z0 := Try.sizeOf0
  v0 := Try.zeroValue0
  t3 := Try.underlying3
  a3 := Try.isAgg3
  z3 := Try.sizeOf3
  v3 := Try.zeroValue3
  t4 := Try.underlying4
  a4 := Try.isAgg4
  z4 := Try.sizeOf4
  v4 := Try.zeroValue4
  t9 := Try.underlying9
  a9 := Try.isAgg9
  z9 := Try.sizeOf9
  v9 := Try.zeroValue9
  t20 := Try.underlying20
  a20 := Try.isAgg20
  z20 := Try.sizeOf20
  v20 := Try.zeroValue20
  t37 := Try.underlying36
  a37 := Try.isAgg36
  z37 := Try.sizeOf36
  v37 := Try.zeroValue36
  t70 := Try.underlying53
  a70 := Try.isAgg53
  z70 := Try.sizeOf53
  v70 := Try.zeroValue53
  t72 := Try.underlying55
  a72 := Try.isAgg55
  z72 := Try.sizeOf55
  v72 := Try.zeroValue55
  t164 := Try.underlying75
  a164 := Try.isAgg75
  z164 := Try.sizeOf75
  v164 := Try.zeroValue75 }
theorem Builder_Extra_165 : Builder.Extra Try.prog lays165_ren := {
  sizeBuilder := by kernel_rfl
  liesBuilder := by kernel_rfl
  t5 := Try.underlying5
  a5 := Try.isAgg5
  z5 := Try.sizeOf5
  v5 := Try.zeroValue5
  infoByte := by kernel_rfl
  cellsByte := by kernel_rfl
  sizeByte := by kernel_rfl
  neB5 := by decide }
end Go.Proofs.Qxb6601800a
