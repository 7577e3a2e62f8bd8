/- The closed facts of FnMin's card, one by one. -/
import Derived.Test.YtpamlgdcnmcedaaGreatDoorCards
import Derived.Test.YtpamlgdcnmcedaaGreatDoorTie
import Derived.ProofKit
import Derived.SevenTiedAt
namespace Go.Proofs.YtpamlgdcnmcedaaGreatDoor
open Go
set_option maxRecDepth 1000000
theorem fnMin_wf : Rows.fnMinRow.wfByText (OpenSpec.ofChange Rows.fnMinSpec) = true := by kernel_rfl
theorem fnMin_goes : false = Rows.fnMinRow.goesBy Tryz.pinned.checked.prog := by kernel_rfl
theorem looks_on : true = Tryz.pinned.checked.prog.looks [] := by kernel_rfl
theorem fnMin_named : Tryz.prog.funcNamed "pub-strainer/laws.FnMin" = some 4 := by kernel_rfl
theorem fnMin_stand : ([26].all fun u => !Tryz.prog.wantsStandIn u) = true := by kernel_rfl
theorem fnMin_inst : Tryz.f4.isInstance Tryz.prog Rows.fnMinRow.origin Rows.fnMinRow.targs := of_decide_eq_true (by kernel_rfl)
theorem fnMin_wrap : Tryz.f4.isWrapper Tryz.prog Rows.fnMinRow.wrapper Rows.fnMinRow.mainSum := by
  unfold Func.isWrapper; first | (rw [if_pos (by decide +kernel)]; kernel_rfl) | (rw [if_neg (by decide +kernel)]; exact ⟨rfl, rfl⟩)
theorem main_is : Tryz.pinned.checked.prog.mainIs = some (true, "686dacda36492c4a5dd2fcd0ba8ae3342e5bd98fb229dece3713e2645cfa60f0".toList) := by kernel_rfl
theorem noInit4 : Tryz.prog.inits.idxOf? 4 = none := by kernel_rfl
end Go.Proofs.YtpamlgdcnmcedaaGreatDoor
