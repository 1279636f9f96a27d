/-
  No cell of these rows narrows 'for every input' (looked for: loops, veiled, ifaces, maps, wideKeys, modest, calm, conditions, laid).
  DERIVED. THE GIVEN ROWS OF THIS SEAT. 2 by the template 'for every input the law returns true; each argument reads behind the call as it read before'; 0 by the template 'total and deterministic' (their statements: Qxb6602004aTotals.lean).
  GIVEN WITH THE SEED: the statements are not yours to turn. If you find one false, say at which input.
  Laid BY PROGRAM, IN A SANDBOX (cutbox-rows.mjs): the forced cells as the released guide's own fill.sh prints them over the translation 404c43048575d25e… (all of the seat's roots in one cut). By AI agents, Wed Nov 11 2026. No macro, syntax, notation, axiom, sorry.
-/
import Derived.Test.Qxb6602004aChecked
import GoSem.Claim
import GoSem.ClaimJoined
import GoSem.ClaimMapViews
import Derived.JoinedTies
import Derived.KernelRfl
namespace Go.Proofs.Qxb6602004a
/- THE CELL 'sum', in the pinned program and in every row, IS THE sha256 OF THE DUMP (.gsa) THAT Qxb6602004aProg.lean LOADS. Nothing in Lean hashes anything: it is a label: what it is worth is what the hold of that sum in a sandbox is worth. -/
noncomputable def Try.pinned : Pinned := { name := "qxb6602004a", sum := "404c43048575d25e4087f2acb99ad95b92ccffe46a041815601a197bf3afa41a", checked := Try.checked }
namespace Rows
def none {H : Type} : Left H := { results := [], args := [] }

/-- 'zzlaws_pkg_rules_b1.FnMergeSlashesMatchesSegmentModel': WHATEVER THE INPUT: true; the input reads as it did. -/
def fnMergeSlashesMatchesSegmentModelSpec : ChangeSpec := { name := "fnMergeSlashesMatchesSegmentModel", fn := fun _ => fun
  | [d] => { results := [.lit (.bool true)], args := [d] }
  | _ => none }
def fnMergeSlashesMatchesSegmentModelRow : OpenClaim := { program := "qxb6602004a", sum := "404c43048575d25e4087f2acb99ad95b92ccffe46a041815601a197bf3afa41a", func := "example.com/sluicegate/sluicegate/zzlaws_pkg_rules_b1.FnMergeSlashesMatchesSegmentModel", spec := "fnMergeSlashesMatchesSegmentModel", inPlace := ["internal/bytealg.IndexByteString", "internal/bytealg.IndexString", "internal/abi.NoEscape", "internal/bytealg.MakeNoZero"], named := ["internal/bytealg.MaxLen"], apart := false }
def FnMergeSlashesMatchesSegmentModelSaid : Prop := fnMergeSlashesMatchesSegmentModelRow.holds Try.pinned (OpenSpec.ofChange fnMergeSlashesMatchesSegmentModelSpec)

/-- ITS FALSE NEIGHBOUR: 'it returns false'. Refute it at one input. -/
def fnMergeSlashesMatchesSegmentModelWrong : ChangeSpec := { name := "fnMergeSlashesMatchesSegmentModel", fn := fun _ => fun
  | [d] => { results := [.lit (.bool false)], args := [d] }
  | _ => none }
def FnMergeSlashesMatchesSegmentModelWrongFalsely : Prop := fnMergeSlashesMatchesSegmentModelRow.holds Try.pinned (OpenSpec.ofChange fnMergeSlashesMatchesSegmentModelWrong)

/-- 'zzlaws_pkg_rules_b1.FnMergeSlashesIsIdempotentAndKeepsTheText': WHATEVER THE INPUT: true; the input reads as it did. -/
def fnMergeSlashesIsIdempotentAndKeepsTheTextSpec : ChangeSpec := { name := "fnMergeSlashesIsIdempotentAndKeepsTheText", fn := fun _ => fun
  | [d] => { results := [.lit (.bool true)], args := [d] }
  | _ => none }
def fnMergeSlashesIsIdempotentAndKeepsTheTextRow : OpenClaim := { program := "qxb6602004a", sum := "404c43048575d25e4087f2acb99ad95b92ccffe46a041815601a197bf3afa41a", func := "example.com/sluicegate/sluicegate/zzlaws_pkg_rules_b1.FnMergeSlashesIsIdempotentAndKeepsTheText", spec := "fnMergeSlashesIsIdempotentAndKeepsTheText", inPlace := ["internal/bytealg.IndexByteString", "internal/bytealg.IndexString", "internal/abi.NoEscape", "internal/bytealg.MakeNoZero"], named := ["internal/bytealg.MaxLen"], apart := false }
def FnMergeSlashesIsIdempotentAndKeepsTheTextSaid : Prop := fnMergeSlashesIsIdempotentAndKeepsTheTextRow.holds Try.pinned (OpenSpec.ofChange fnMergeSlashesIsIdempotentAndKeepsTheTextSpec)

/-- ITS FALSE NEIGHBOUR: 'it returns false'. Refute it at one input. -/
def fnMergeSlashesIsIdempotentAndKeepsTheTextWrong : ChangeSpec := { name := "fnMergeSlashesIsIdempotentAndKeepsTheText", fn := fun _ => fun
  | [d] => { results := [.lit (.bool false)], args := [d] }
  | _ => none }
def FnMergeSlashesIsIdempotentAndKeepsTheTextWrongFalsely : Prop := fnMergeSlashesIsIdempotentAndKeepsTheTextRow.holds Try.pinned (OpenSpec.ofChange fnMergeSlashesIsIdempotentAndKeepsTheTextWrong)

end Rows
end Go.Proofs.Qxb6602004a
