/- The closed facts of FnIndex's row, one by one. -/
import Derived.Test.YtpamlgdcnmcedaaGreatDoorCards
import Derived.ProofKit
import Derived.JoinedCond
namespace Go.Proofs.YtpamlgdcnmcedaaGreatDoor
open Go
set_option maxRecDepth 1000000
set_option maxHeartbeats 8000000 in
theorem fnIndex_closed : joinedFacts Tryz.prog 6 Tryz.f6 (OpenSpec.ofChange Rows.fnIndexSpec).bare Rows.fnIndexRow = true := by
  unfold joinedFacts
  simp only [Bool.and_eq_true]
  repeat' apply And.intro
  all_goals as_aux_lemma => kernel_rfl
end Go.Proofs.YtpamlgdcnmcedaaGreatDoor
