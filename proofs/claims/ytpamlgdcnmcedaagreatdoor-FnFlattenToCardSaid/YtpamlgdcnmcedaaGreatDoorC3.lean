/- The closed facts of FnFlattenTo's card, one by one. -/
import Derived.Test.YtpamlgdcnmcedaaGreatDoorCards
import Derived.Test.YtpamlgdcnmcedaaGreatDoorTie
import Derived.ProofKit
import Derived.SevenTiedAt
namespace Go.Proofs.YtpamlgdcnmcedaaGreatDoor
open Go
set_option maxRecDepth 1000000
theorem fnFlattenTo_wf : Rows.fnFlattenToRow.wfByText (OpenSpec.ofChange Rows.fnFlattenToSpec) = true := by kernel_rfl
theorem fnFlattenTo_goes : false = Rows.fnFlattenToRow.goesBy Tryz.pinned.checked.prog := by kernel_rfl
theorem looks_on : true = Tryz.pinned.checked.prog.looks [] := by kernel_rfl
theorem fnFlattenTo_named : Tryz.prog.funcNamed "pub-strainer/laws.FnFlattenTo" = some 3 := by kernel_rfl
theorem fnFlattenTo_stand : ([26, 26].all fun u => !Tryz.prog.wantsStandIn u) = true := by kernel_rfl
theorem fnFlattenTo_inst : Tryz.f3.isInstance Tryz.prog Rows.fnFlattenToRow.origin Rows.fnFlattenToRow.targs := of_decide_eq_true (by kernel_rfl)
theorem fnFlattenTo_wrap : Tryz.f3.isWrapper Tryz.prog Rows.fnFlattenToRow.wrapper Rows.fnFlattenToRow.mainSum := by
  unfold Func.isWrapper; first | (rw [if_pos (by decide +kernel)]; kernel_rfl) | (rw [if_neg (by decide +kernel)]; exact ⟨rfl, rfl⟩)
theorem main_is : Tryz.pinned.checked.prog.mainIs = some (true, "686dacda36492c4a5dd2fcd0ba8ae3342e5bd98fb229dece3713e2645cfa60f0".toList) := by kernel_rfl
theorem noInit3 : Tryz.prog.inits.idxOf? 3 = none := by kernel_rfl
end Go.Proofs.YtpamlgdcnmcedaaGreatDoor
