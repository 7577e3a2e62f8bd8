/- The closed facts of FnDiv's card, one by one. -/
import Derived.Test.YtpamlgdcnmcedaaGreatDoorCards
import Derived.Test.YtpamlgdcnmcedaaGreatDoorTie
import Derived.ProofKit
import Derived.SevenTiedAt
namespace Go.Proofs.YtpamlgdcnmcedaaGreatDoor
open Go
set_option maxRecDepth 1000000
theorem fnDiv_wf : Rows.fnDivRow.wfByText (OpenSpec.ofChange Rows.fnDivSpec) = true := by kernel_rfl
theorem fnDiv_goes : false = Rows.fnDivRow.goesBy Tryz.pinned.checked.prog := by kernel_rfl
theorem looks_on : true = Tryz.pinned.checked.prog.looks [] := by kernel_rfl
theorem fnDiv_named : Tryz.prog.funcNamed "pub-strainer/laws.FnDiv" = some 5 := by kernel_rfl
theorem fnDiv_stand : ([26, 26].all fun u => !Tryz.prog.wantsStandIn u) = true := by kernel_rfl
theorem fnDiv_inst : Tryz.f5.isInstance Tryz.prog Rows.fnDivRow.origin Rows.fnDivRow.targs := of_decide_eq_true (by kernel_rfl)
theorem fnDiv_wrap : Tryz.f5.isWrapper Tryz.prog Rows.fnDivRow.wrapper Rows.fnDivRow.mainSum := by
  unfold Func.isWrapper; first | (rw [if_pos (by decide +kernel)]; kernel_rfl) | (rw [if_neg (by decide +kernel)]; exact ⟨rfl, rfl⟩)
theorem main_is : Tryz.pinned.checked.prog.mainIs = some (true, "686dacda36492c4a5dd2fcd0ba8ae3342e5bd98fb229dece3713e2645cfa60f0".toList) := by kernel_rfl
theorem noInit5 : Tryz.prog.inits.idxOf? 5 = none := by kernel_rfl
end Go.Proofs.YtpamlgdcnmcedaaGreatDoor
