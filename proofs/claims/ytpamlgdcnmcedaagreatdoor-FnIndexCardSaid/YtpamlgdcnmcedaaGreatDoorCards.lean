/-
  DERIVED. GIVEN WITH THE SEED: THE CARDS: each row of YtpamlgdcnmcedaaGreatDoorRows.lean that lists a variable, with what it lists TIED to the program's text (the seventh form; the later family's looks); each row that meets fmt, with fmt's text TOLD by the authors' own Lean function (tested against real Go, not proved from fmt's source: count such statements apart). THE CARD IS WHAT COUNTS. Prove the row's statement (the work); the ties are given (YtpamlgdcnmcedaaGreatDoorTie.lean); close each card by the builder's one call (the guide's Derived/Test/ToyasCard.lean, 'card_holds'). Laid BY PROGRAM, IN A SANDBOX (cutbox-door.mjs). By AI agents, Wed Nov 11 2026. No macro, syntax, notation, axiom, sorry.
-/
import Derived.Test.YtpamlgdcnmcedaaGreatDoorRows
import GoSem.ClaimSeven
namespace Go.Proofs.YtpamlgdcnmcedaaGreatDoor
namespace Rows

/-- THE TIED CARD OF 'laws.FnFlattenTo'. -/
def fnFlattenToCard : Claim7 := { stood := { row := fnFlattenToRow, standIns := [], harness := (true, "686dacda36492c4a5dd2fcd0ba8ae3342e5bd98fb229dece3713e2645cfa60f0"), looks := true }, kinds := [], alts := [], laidByText := true, laidKinds := [.data, .data, .widerDeep, .widerDeep, .data, .data, .data, .data, .data, .data, .sentinel, .sentinel, .pinned, .pinned, .pinned], laidTests := true, laidLooks := .later }
def FnFlattenToCardSaid : Prop := Claim7.holds Tryz.pinned (.plain (OpenSpec.ofChange fnFlattenToSpec)) fnFlattenToCard

/-- THE TIED CARD OF 'laws.FnMin'. -/
def fnMinCard : Claim7 := { stood := { row := fnMinRow, standIns := [], harness := (true, "686dacda36492c4a5dd2fcd0ba8ae3342e5bd98fb229dece3713e2645cfa60f0"), looks := true }, kinds := [], alts := [], laidByText := true, laidKinds := [.data, .data, .widerDeep, .widerDeep, .data, .data, .data, .data, .data, .data, .sentinel, .sentinel, .pinned, .pinned, .pinned], laidTests := true, laidLooks := .later }
def FnMinCardSaid : Prop := Claim7.holds Tryz.pinned (.plain (OpenSpec.ofChange fnMinSpec)) fnMinCard

/-- THE TIED CARD OF 'laws.FnDiv'. -/
def fnDivCard : Claim7 := { stood := { row := fnDivRow, standIns := [], harness := (true, "686dacda36492c4a5dd2fcd0ba8ae3342e5bd98fb229dece3713e2645cfa60f0"), looks := true }, kinds := [], alts := [], laidByText := true, laidKinds := [.data, .data, .widerDeep, .widerDeep, .data, .data, .data, .data, .data, .data, .sentinel, .sentinel, .pinned, .pinned, .pinned], laidTests := true, laidLooks := .later }
def FnDivCardSaid : Prop := Claim7.holds Tryz.pinned (.plain (OpenSpec.ofChange fnDivSpec)) fnDivCard

/-- THE TIED CARD OF 'laws.FnIndex'. -/
def fnIndexCard : Claim7 := { stood := { row := fnIndexRow, standIns := [], harness := (true, "686dacda36492c4a5dd2fcd0ba8ae3342e5bd98fb229dece3713e2645cfa60f0"), looks := true }, kinds := [], alts := [], laidByText := true, laidKinds := [.data, .data, .widerDeep, .widerDeep, .data, .data, .data, .data, .data, .data, .sentinel, .sentinel, .pinned, .pinned, .pinned], laidTests := true, laidLooks := .later }
def FnIndexCardSaid : Prop := Claim7.holds Tryz.pinned (.plain (OpenSpec.ofChange fnIndexSpec)) fnIndexCard

/-- THE TIED CARD OF 'laws.FnTransposeAt'. -/
def fnTransposeAtCard : Claim7 := { stood := { row := fnTransposeAtRow, standIns := [], harness := (true, "686dacda36492c4a5dd2fcd0ba8ae3342e5bd98fb229dece3713e2645cfa60f0"), looks := true }, kinds := [], alts := [], laidByText := true, laidKinds := [.data, .data, .widerDeep, .widerDeep, .data, .data, .data, .data, .data, .data, .sentinel, .sentinel, .pinned, .pinned, .pinned], laidTests := true, laidLooks := .later }
def FnTransposeAtCardSaid : Prop := Claim7.holds Tryz.pinned (.plain (OpenSpec.ofChange fnTransposeAtSpec)) fnTransposeAtCard

/-- THE TIED CARD OF 'laws.FnSetGet'. -/
def fnSetGetCard : Claim7 := { stood := { row := fnSetGetRow, standIns := [], harness := (true, "686dacda36492c4a5dd2fcd0ba8ae3342e5bd98fb229dece3713e2645cfa60f0"), looks := true }, kinds := [], alts := [], laidByText := true, laidKinds := [.data, .data, .widerDeep, .widerDeep, .data, .data, .data, .data, .data, .data, .sentinel, .sentinel, .pinned, .pinned, .pinned], laidTests := true, laidLooks := .later }
def FnSetGetCardSaid : Prop := Claim7.holds Tryz.pinned (.plain (OpenSpec.ofChange fnSetGetSpec)) fnSetGetCard

/-- THE TIED CARD OF 'laws.FnKeysBuild'. -/
def fnKeysBuildCard : Claim7 := { stood := { row := fnKeysBuildRow, standIns := [], harness := (true, "686dacda36492c4a5dd2fcd0ba8ae3342e5bd98fb229dece3713e2645cfa60f0"), looks := true }, kinds := [], alts := [], laidByText := true, laidKinds := [.data, .data, .widerDeep, .widerDeep, .data, .data, .data, .data, .data, .data, .sentinel, .sentinel, .pinned, .pinned, .pinned], laidTests := true, laidLooks := .later }
def FnKeysBuildCardSaid : Prop := Claim7.holds Tryz.pinned (.plain (OpenSpec.ofChange fnKeysBuildSpec)) fnKeysBuildCard

/-- THE SECOND FORM's CARD OF 'laws.FnFlattenTo'. -/
def fnFlattenToUptoCard : Claim7 := { stood := { row := fnFlattenToUptoRow, standIns := [], harness := (true, "686dacda36492c4a5dd2fcd0ba8ae3342e5bd98fb229dece3713e2645cfa60f0"), looks := true }, kinds := [], alts := [], laidByText := true, laidKinds := [.data, .data, .widerDeep, .widerDeep, .data, .data, .data, .data, .data, .data, .sentinel, .sentinel, .pinned, .pinned, .pinned], laidTests := true, laidLooks := .later }
def FnFlattenToUptoCardSaid : Prop := Claim7.holds Tryz.pinned (.plain (OpenSpec.upto fnFlattenToSpec)) fnFlattenToUptoCard

/-- THE SECOND FORM's CARD OF 'laws.FnMin'. -/
def fnMinUptoCard : Claim7 := { stood := { row := fnMinUptoRow, standIns := [], harness := (true, "686dacda36492c4a5dd2fcd0ba8ae3342e5bd98fb229dece3713e2645cfa60f0"), looks := true }, kinds := [], alts := [], laidByText := true, laidKinds := [.data, .data, .widerDeep, .widerDeep, .data, .data, .data, .data, .data, .data, .sentinel, .sentinel, .pinned, .pinned, .pinned], laidTests := true, laidLooks := .later }
def FnMinUptoCardSaid : Prop := Claim7.holds Tryz.pinned (.plain (OpenSpec.upto fnMinSpec)) fnMinUptoCard

/-- THE SECOND FORM's CARD OF 'laws.FnDiv'. -/
def fnDivUptoCard : Claim7 := { stood := { row := fnDivUptoRow, standIns := [], harness := (true, "686dacda36492c4a5dd2fcd0ba8ae3342e5bd98fb229dece3713e2645cfa60f0"), looks := true }, kinds := [], alts := [], laidByText := true, laidKinds := [.data, .data, .widerDeep, .widerDeep, .data, .data, .data, .data, .data, .data, .sentinel, .sentinel, .pinned, .pinned, .pinned], laidTests := true, laidLooks := .later }
def FnDivUptoCardSaid : Prop := Claim7.holds Tryz.pinned (.plain (OpenSpec.upto fnDivSpec)) fnDivUptoCard

/-- THE SECOND FORM's CARD OF 'laws.FnIndex'. -/
def fnIndexUptoCard : Claim7 := { stood := { row := fnIndexUptoRow, standIns := [], harness := (true, "686dacda36492c4a5dd2fcd0ba8ae3342e5bd98fb229dece3713e2645cfa60f0"), looks := true }, kinds := [], alts := [], laidByText := true, laidKinds := [.data, .data, .widerDeep, .widerDeep, .data, .data, .data, .data, .data, .data, .sentinel, .sentinel, .pinned, .pinned, .pinned], laidTests := true, laidLooks := .later }
def FnIndexUptoCardSaid : Prop := Claim7.holds Tryz.pinned (.plain (OpenSpec.upto fnIndexSpec)) fnIndexUptoCard

/-- THE SECOND FORM's CARD OF 'laws.FnTransposeAt'. -/
def fnTransposeAtUptoCard : Claim7 := { stood := { row := fnTransposeAtUptoRow, standIns := [], harness := (true, "686dacda36492c4a5dd2fcd0ba8ae3342e5bd98fb229dece3713e2645cfa60f0"), looks := true }, kinds := [], alts := [], laidByText := true, laidKinds := [.data, .data, .widerDeep, .widerDeep, .data, .data, .data, .data, .data, .data, .sentinel, .sentinel, .pinned, .pinned, .pinned], laidTests := true, laidLooks := .later }
def FnTransposeAtUptoCardSaid : Prop := Claim7.holds Tryz.pinned (.plain (OpenSpec.upto fnTransposeAtSpec)) fnTransposeAtUptoCard

/-- THE SECOND FORM's CARD OF 'laws.FnSetGet'. -/
def fnSetGetUptoCard : Claim7 := { stood := { row := fnSetGetUptoRow, standIns := [], harness := (true, "686dacda36492c4a5dd2fcd0ba8ae3342e5bd98fb229dece3713e2645cfa60f0"), looks := true }, kinds := [], alts := [], laidByText := true, laidKinds := [.data, .data, .widerDeep, .widerDeep, .data, .data, .data, .data, .data, .data, .sentinel, .sentinel, .pinned, .pinned, .pinned], laidTests := true, laidLooks := .later }
def FnSetGetUptoCardSaid : Prop := Claim7.holds Tryz.pinned (.plain (OpenSpec.upto fnSetGetSpec)) fnSetGetUptoCard

/-- THE SECOND FORM's CARD OF 'laws.FnKeysBuild'. -/
def fnKeysBuildUptoCard : Claim7 := { stood := { row := fnKeysBuildUptoRow, standIns := [], harness := (true, "686dacda36492c4a5dd2fcd0ba8ae3342e5bd98fb229dece3713e2645cfa60f0"), looks := true }, kinds := [], alts := [], laidByText := true, laidKinds := [.data, .data, .widerDeep, .widerDeep, .data, .data, .data, .data, .data, .data, .sentinel, .sentinel, .pinned, .pinned, .pinned], laidTests := true, laidLooks := .later }
def FnKeysBuildUptoCardSaid : Prop := Claim7.holds Tryz.pinned (.plain (OpenSpec.upto fnKeysBuildSpec)) fnKeysBuildUptoCard
end Rows
end Go.Proofs.YtpamlgdcnmcedaaGreatDoor
