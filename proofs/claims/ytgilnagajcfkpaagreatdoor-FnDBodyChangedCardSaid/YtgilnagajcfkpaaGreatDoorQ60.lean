import Derived.Test.YtgilnagajcfkpaaGreatDoorRows
import Derived.ProofKit
import Derived.Stop.Joined
set_option maxHeartbeats 4000000
set_option maxRecDepth 1000000
set_option linter.all false
namespace Go.Proofs.YtgilnagajcfkpaaGreatDoor
theorem fnDBodyChanged_and {a b:Bool} (h1:a=true)(h2:b=true):(a&&b)=true:=by rw [h1,h2];rfl
theorem fnDBodyChanged_facts:joinedFacts Tryz.pinned.checked.prog 4 Tryz.f4 Rows.fnDBodyChangedSpec Rows.fnDBodyChangedRow=true:=by
 unfold joinedFacts
 repeat' (with_reducible refine fnDBodyChanged_and ?_ ?_)
 all_goals(as_aux_lemma=>kernel_rfl)
end Go.Proofs.YtgilnagajcfkpaaGreatDoor
