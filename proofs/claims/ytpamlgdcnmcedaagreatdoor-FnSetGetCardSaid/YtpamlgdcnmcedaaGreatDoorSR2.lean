/- The closed facts of FnSetGet's row, one by one. -/
import Derived.Test.YtpamlgdcnmcedaaGreatDoorCards
import Derived.ProofKit
import Derived.JoinedCond
namespace Go.Proofs.YtpamlgdcnmcedaaGreatDoor
open Go
set_option maxRecDepth 1000000
set_option maxHeartbeats 8000000 in
theorem fnSetGet_closed : joinedFacts Tryz.prog 8 Tryz.f8 (OpenSpec.ofChange Rows.fnSetGetSpec).bare Rows.fnSetGetRow = true := by
  unfold joinedFacts
  simp only [Bool.and_eq_true]
  repeat' apply And.intro
  all_goals as_aux_lemma => kernel_rfl
end Go.Proofs.YtpamlgdcnmcedaaGreatDoor
