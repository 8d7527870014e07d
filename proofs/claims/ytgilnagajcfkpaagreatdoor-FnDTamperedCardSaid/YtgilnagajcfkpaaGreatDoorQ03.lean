import Derived.Test.YtgilnagajcfkpaaGreatDoorRows
import Derived.ProofKit
import Derived.Stop.Joined
set_option maxHeartbeats 4000000
set_option maxRecDepth 1000000
set_option linter.all false
namespace Go.Proofs.YtgilnagajcfkpaaGreatDoor
theorem fnDTampered_and {a b:Bool} (h1:a=true)(h2:b=true):(a&&b)=true:=by rw [h1,h2];rfl
theorem fnDTampered_facts:joinedFacts Tryz.pinned.checked.prog 3 Tryz.f3 Rows.fnDTamperedSpec Rows.fnDTamperedRow=true:=by
 unfold joinedFacts
 repeat' (with_reducible refine fnDTampered_and ?_ ?_)
 all_goals(as_aux_lemma=>kernel_rfl)
end Go.Proofs.YtgilnagajcfkpaaGreatDoor
