/- laws.FnTransposeAt of rows as they come in. -/
import Derived.Test.YtpamlgdcnmcedaaGreatDoorT4
import Derived.Test.YtpamlgdcnmcedaaGreatDoorXA
set_option linter.unusedVariables false
namespace Go.Proofs.YtpamlgdcnmcedaaGreatDoor
open Go Go.RowKit
theorem transposeAt_rows (rows : List (List V)) (A : Option Addr) (c : Nat) (B : Nat → Option Addr) (e : Nat → Nat) {W : World} (hm : rows.length ≤ 140737488351232) (ho : RowAt W (fun _ => True) 1 A rows.length (fun i => [.slice (B i) ((rows.getD i []).length) (e i)]))
    (hr : ∀ (i : Nat) (r : List V), rows[i]? = some r → ListR W (B i) r (e i)) (i j : Int) (hi : 0 ≤ i ∧ i < 256) (hj : 0 ≤ j ∧ j < 256) (hT : Lib.Utf8Tabs 0 1 W) :
    Calls Tryz.prog 7 #[.slice A rows.length c, .int .u8 i, .int .u8 j] W (LawP W) := by
  obtain ⟨F, hF⟩ := Classical.axiomOfChoice (show ∀ i : Nat, ∃ f : Nat → List Value, ∀ r, rows[i]? = some r → r.length ≤ e i ∧ r.length ≤ 140737488351232 ∧ RowAt W (fun _ => True) 6 (B i) r.length f ∧ ∀ (j : Nat) (v : V), r[j]? = some v → Vr W (fun _ => True) v (f j) from fun i => by
    cases h : rows[i]? with
    | none => exact ⟨fun _ => [], fun r hr => by cases hr⟩
    | some r =>
      obtain ⟨f, h1, h2, h3, h4⟩ := hr i r h
      exact ⟨f, fun r' hr' => by cases hr'; exact ⟨h1, h2, h3, h4⟩⟩)
  exact transposeAt_law rows (fun _ => True) A rows.length c rfl i j hi hj W ⟨B, e, F, ho, hF⟩ hm hT
end Go.Proofs.YtpamlgdcnmcedaaGreatDoor
