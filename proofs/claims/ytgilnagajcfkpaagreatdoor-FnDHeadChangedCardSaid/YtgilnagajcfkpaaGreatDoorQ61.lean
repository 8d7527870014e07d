import Derived.Test.YtgilnagajcfkpaaGreatDoorRows
import Derived.ProofKit
import Derived.Stop.Joined
set_option maxHeartbeats 4000000
set_option maxRecDepth 1000000
set_option linter.all false
namespace Go.Proofs.YtgilnagajcfkpaaGreatDoor
theorem fnDHeadChanged_and {a b:Bool} (h1:a=true)(h2:b=true):(a&&b)=true:=by rw [h1,h2];rfl
theorem fnDHeadChanged_facts:joinedFacts Tryz.pinned.checked.prog 5 Tryz.f5 Rows.fnDHeadChangedSpec Rows.fnDHeadChangedRow=true:=by
 unfold joinedFacts
 repeat' (with_reducible refine fnDHeadChanged_and ?_ ?_)
 all_goals(as_aux_lemma=>kernel_rfl)
end Go.Proofs.YtgilnagajcfkpaaGreatDoor
