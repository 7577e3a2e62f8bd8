/- The closed facts of FnKeysBuild's card, one by one. -/
import Derived.Test.YtpamlgdcnmcedaaGreatDoorCards
import Derived.Test.YtpamlgdcnmcedaaGreatDoorTie
import Derived.ProofKit
import Derived.SevenTiedAt
namespace Go.Proofs.YtpamlgdcnmcedaaGreatDoor
open Go
set_option maxRecDepth 1000000
theorem fnKeysBuild_wf : Rows.fnKeysBuildRow.wfByText (OpenSpec.ofChange Rows.fnKeysBuildSpec) = true := by kernel_rfl
theorem fnKeysBuild_goes : false = Rows.fnKeysBuildRow.goesBy Tryz.pinned.checked.prog := by kernel_rfl
theorem looks_on : true = Tryz.pinned.checked.prog.looks [] := by kernel_rfl
theorem fnKeysBuild_named : Tryz.prog.funcNamed "pub-strainer/laws.FnKeysBuild" = some 9 := by kernel_rfl
theorem fnKeysBuild_stand : ([26].all fun u => !Tryz.prog.wantsStandIn u) = true := by kernel_rfl
theorem fnKeysBuild_inst : Tryz.f9.isInstance Tryz.prog Rows.fnKeysBuildRow.origin Rows.fnKeysBuildRow.targs := of_decide_eq_true (by kernel_rfl)
theorem fnKeysBuild_wrap : Tryz.f9.isWrapper Tryz.prog Rows.fnKeysBuildRow.wrapper Rows.fnKeysBuildRow.mainSum := by
  unfold Func.isWrapper; first | (rw [if_pos (by decide +kernel)]; kernel_rfl) | (rw [if_neg (by decide +kernel)]; exact ⟨rfl, rfl⟩)
theorem main_is : Tryz.pinned.checked.prog.mainIs = some (true, "686dacda36492c4a5dd2fcd0ba8ae3342e5bd98fb229dece3713e2645cfa60f0".toList) := by kernel_rfl
theorem noInit9 : Tryz.prog.inits.idxOf? 9 = none := by kernel_rfl
end Go.Proofs.YtpamlgdcnmcedaaGreatDoor
