/- The closed facts of FnMin's row, one by one. -/
import Derived.Test.YtpamlgdcnmcedaaGreatDoorCards
import Derived.ProofKit
import Derived.JoinedCond
namespace Go.Proofs.YtpamlgdcnmcedaaGreatDoor
open Go
set_option maxRecDepth 1000000
set_option maxHeartbeats 8000000 in
theorem fnMin_closed : joinedFacts Tryz.prog 4 Tryz.f4 (OpenSpec.ofChange Rows.fnMinSpec).bare Rows.fnMinRow = true := by
  unfold joinedFacts
  simp only [Bool.and_eq_true]
  repeat' apply And.intro
  all_goals as_aux_lemma => kernel_rfl
end Go.Proofs.YtpamlgdcnmcedaaGreatDoor
