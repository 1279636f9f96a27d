/-
  Seat b6602109a: the row's step where the arguments are strings alone and the call leaves old memory as it was ('Below'), bytes frozen in new memory or not.
-/
import Derived.Test.Qxb6602109aRows
import Derived.WalkKit
import Derived.ProofKit
import Derived.OpenShut
import Derived.ShutString
namespace Go.Proofs.Qxb6602109a
open Go.ChangeShapes Go.WideShapes Go.ChangeAt Go.RowKit

section
variable {H : Type} {enc : TypeId × Value → H} {P : Program}
theorem post_new {f : Func} {s : ChangeSpec} {apart fresh handsOn again : Bool} {W W' : World} {args : Array Value} {v : Value} {ds gs : List (DataW H)}
    (hW : DataW.Whole enc P f.params.toList s.vars apart W args.toList ds gs [])
    (hres : ∀ (b : Nat) (sp : Nat → Bool) (hd : Bool), DataW.TrodAll enc P W' b sp hd f.resultTypes.toList (v.resultList f.resultTypes.size) (s.fn H (ds ++ gs)).results [])
    (hargs : ∀ sp : Nat → Bool, DataW.TrodAll enc P W' 0 sp true f.params.toList args.toList (s.fn H (ds ++ gs)).args [])
    (hvars : ∀ sp : Nat → Bool, DataW.TrodVars enc P W' sp s.vars (s.fn H (ds ++ gs)).vars [])
    (hk : Below W.heap.size W W')
    (hok : ∀ (j : Nat) (t : TypeId) (r : Value), f.resultTypes[j]? = some t → (v.resultList f.resultTypes.size)[j]? = some r → Value.okWide P W' .any 0 t r) :
    s.post enc P f apart fresh handsOn again W args v W' := by
  refine ⟨ds, gs, [], [], [], [], hW, hres _ _ _, hargs _, hvars _, hk.frame _, fun _ => ⟨hok, _, _, [], ⟨[], [], trodAll_append (hargs _) (hres _ _ _), hvars _, rfl, ?_, ?_⟩, ?_⟩⟩
  · intro b off hp
    simp at hp
  · intro _
    simp
  · intro p hp _
    simp at hp
end
end Go.Proofs.Qxb6602109a
