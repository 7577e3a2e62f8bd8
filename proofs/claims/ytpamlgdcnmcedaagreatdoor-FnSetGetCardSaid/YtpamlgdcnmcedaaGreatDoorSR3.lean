/- The closed facts of FnSetGet's card, one by one. -/
import Derived.Test.YtpamlgdcnmcedaaGreatDoorCards
import Derived.Test.YtpamlgdcnmcedaaGreatDoorTie
import Derived.ProofKit
import Derived.SevenTiedAt
namespace Go.Proofs.YtpamlgdcnmcedaaGreatDoor
open Go
set_option maxRecDepth 1000000
theorem fnSetGet_wf : Rows.fnSetGetRow.wfByText (OpenSpec.ofChange Rows.fnSetGetSpec) = true := by kernel_rfl
theorem fnSetGet_goes : false = Rows.fnSetGetRow.goesBy Tryz.pinned.checked.prog := by kernel_rfl
theorem looks_on : true = Tryz.pinned.checked.prog.looks [] := by kernel_rfl
theorem fnSetGet_named : Tryz.prog.funcNamed "pub-strainer/laws.FnSetGet" = some 8 := by kernel_rfl
theorem fnSetGet_stand : ([26, 23, 26].all fun u => !Tryz.prog.wantsStandIn u) = true := by kernel_rfl
theorem fnSetGet_inst : Tryz.f8.isInstance Tryz.prog Rows.fnSetGetRow.origin Rows.fnSetGetRow.targs := of_decide_eq_true (by kernel_rfl)
theorem fnSetGet_wrap : Tryz.f8.isWrapper Tryz.prog Rows.fnSetGetRow.wrapper Rows.fnSetGetRow.mainSum := by
  unfold Func.isWrapper; first | (rw [if_pos (by decide +kernel)]; kernel_rfl) | (rw [if_neg (by decide +kernel)]; exact ⟨rfl, rfl⟩)
theorem main_is : Tryz.pinned.checked.prog.mainIs = some (true, "686dacda36492c4a5dd2fcd0ba8ae3342e5bd98fb229dece3713e2645cfa60f0".toList) := by kernel_rfl
theorem noInit8 : Tryz.prog.inits.idxOf? 8 = none := by kernel_rfl
end Go.Proofs.YtpamlgdcnmcedaaGreatDoor
