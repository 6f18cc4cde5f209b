import Derived.Test.YtlfcbbcdiecelaaGreatDoorRows
import Derived.JoinedCond
namespace Go.Proofs.YtlfcbbcdiecelaaGreatDoor
open Go Go.Proofs.Tryz
set_option maxRecDepth 100000
set_option maxHeartbeats 4000000
set_option linter.all false
theorem jf3:joinedFacts prog 3 Tryz.f3 (Rows.OpenSpec.upto Rows.fnSetIsLookupsSpec).bare Rows.fnSetIsLookupsUptoRow=true:=by
 unfold joinedFacts
 repeat' refine Bool.and_eq_true_iff.2 ⟨?_,?_⟩
 all_goals as_aux_lemma=>kernel_rfl
end Go.Proofs.YtlfcbbcdiecelaaGreatDoor
