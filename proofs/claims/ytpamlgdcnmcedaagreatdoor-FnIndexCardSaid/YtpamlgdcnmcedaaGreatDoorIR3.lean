/- The closed facts of FnIndex's card, one by one. -/
import Derived.Test.YtpamlgdcnmcedaaGreatDoorCards
import Derived.Test.YtpamlgdcnmcedaaGreatDoorTie
import Derived.ProofKit
import Derived.SevenTiedAt
namespace Go.Proofs.YtpamlgdcnmcedaaGreatDoor
open Go
set_option maxRecDepth 1000000
theorem fnIndex_wf : Rows.fnIndexRow.wfByText (OpenSpec.ofChange Rows.fnIndexSpec) = true := by kernel_rfl
theorem fnIndex_goes : false = Rows.fnIndexRow.goesBy Tryz.pinned.checked.prog := by kernel_rfl
theorem looks_on : true = Tryz.pinned.checked.prog.looks [] := by kernel_rfl
theorem fnIndex_named : Tryz.prog.funcNamed "pub-strainer/laws.FnIndex" = some 6 := by kernel_rfl
theorem fnIndex_stand : ([26, 26].all fun u => !Tryz.prog.wantsStandIn u) = true := by kernel_rfl
theorem fnIndex_inst : Tryz.f6.isInstance Tryz.prog Rows.fnIndexRow.origin Rows.fnIndexRow.targs := of_decide_eq_true (by kernel_rfl)
theorem fnIndex_wrap : Tryz.f6.isWrapper Tryz.prog Rows.fnIndexRow.wrapper Rows.fnIndexRow.mainSum := by
  unfold Func.isWrapper; first | (rw [if_pos (by decide +kernel)]; kernel_rfl) | (rw [if_neg (by decide +kernel)]; exact ⟨rfl, rfl⟩)
theorem main_is : Tryz.pinned.checked.prog.mainIs = some (true, "686dacda36492c4a5dd2fcd0ba8ae3342e5bd98fb229dece3713e2645cfa60f0".toList) := by kernel_rfl
theorem noInit6 : Tryz.prog.inits.idxOf? 6 = none := by kernel_rfl
end Go.Proofs.YtpamlgdcnmcedaaGreatDoor
