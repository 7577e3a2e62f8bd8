/- The closed facts of FnTransposeAt's card, one by one. -/
import Derived.Test.YtpamlgdcnmcedaaGreatDoorCards
import Derived.Test.YtpamlgdcnmcedaaGreatDoorTie
import Derived.ProofKit
import Derived.SevenTiedAt
namespace Go.Proofs.YtpamlgdcnmcedaaGreatDoor
open Go
set_option maxRecDepth 1000000
theorem fnTransposeAt_wf : Rows.fnTransposeAtRow.wfByText (OpenSpec.ofChange Rows.fnTransposeAtSpec) = true := by kernel_rfl
theorem fnTransposeAt_goes : false = Rows.fnTransposeAtRow.goesBy Tryz.pinned.checked.prog := by kernel_rfl
theorem looks_on : true = Tryz.pinned.checked.prog.looks [] := by kernel_rfl
theorem fnTransposeAt_named : Tryz.prog.funcNamed "pub-strainer/laws.FnTransposeAt" = some 7 := by kernel_rfl
theorem fnTransposeAt_stand : ([41, 5, 5].all fun u => !Tryz.prog.wantsStandIn u) = true := by kernel_rfl
theorem fnTransposeAt_inst : Tryz.f7.isInstance Tryz.prog Rows.fnTransposeAtRow.origin Rows.fnTransposeAtRow.targs := of_decide_eq_true (by kernel_rfl)
theorem fnTransposeAt_wrap : Tryz.f7.isWrapper Tryz.prog Rows.fnTransposeAtRow.wrapper Rows.fnTransposeAtRow.mainSum := by
  unfold Func.isWrapper; first | (rw [if_pos (by decide +kernel)]; kernel_rfl) | (rw [if_neg (by decide +kernel)]; exact ⟨rfl, rfl⟩)
theorem main_is : Tryz.pinned.checked.prog.mainIs = some (true, "686dacda36492c4a5dd2fcd0ba8ae3342e5bd98fb229dece3713e2645cfa60f0".toList) := by kernel_rfl
theorem noInit7 : Tryz.prog.inits.idxOf? 7 = none := by kernel_rfl
end Go.Proofs.YtpamlgdcnmcedaaGreatDoor
