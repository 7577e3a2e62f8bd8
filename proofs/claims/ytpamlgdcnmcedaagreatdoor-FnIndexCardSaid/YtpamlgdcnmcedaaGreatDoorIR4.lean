/- The witness's closed facts. -/
import Derived.Test.YtpamlgdcnmcedaaGreatDoorX3
import Derived.Deep.DeepWitnessRowRef
set_option linter.unusedVariables false
namespace Go.Proofs.YtpamlgdcnmcedaaGreatDoor
open Go
set_option maxRecDepth 1000000
noncomputable abbrev zeroV : Value := .agg #[.int .i64 0, .int .i64 0, .string ⟨#[]⟩, .slice none 0 0, .slice none 0 0, .slice none 0 0]
theorem pow_types : Tryz.prog.cellTypes Tryz.prog.depth 390 = some (List.replicate 1392 235) := by kernel_rfl
theorem pow_size : powCells.size = 1392 := by kernel_rfl
theorem pow_small : (Pinned.pow10Rows.all fun x => decide (x.1 < 18446744073709551616) && decide (x.2 < 18446744073709551616)) = true := by kernel_rfl
theorem powCells_u64 (i : Nat) (u : Value) (h : powCells[i]? = some u) : ∃ n : Nat, u = .int .u64 n ∧ n < 18446744073709551616 := by
  have hm : u ∈ powCells.toList := by
    rw [← Array.getElem?_toList] at h
    exact List.mem_of_getElem? h
  simp only [List.mem_flatMap] at hm
  obtain ⟨x, hx0, hx⟩ := hm
  have hs := List.all_eq_true.1 pow_small x hx0
  simp only [Bool.and_eq_true, decide_eq_true_eq] at hs
  simp only [List.mem_cons, List.not_mem_nil, or_false] at hx
  rcases hx with rfl | rfl
  · exact ⟨_, rfl, hs.1⟩
  · exact ⟨_, rfl, hs.2⟩
theorem pow_ok (w : World) : Row.okRefB Tryz.prog w 390 powCells = true := by
  unfold Row.okRefB
  rw [pow_types]
  simp only [List.length_replicate, pow_size, Bool.and_eq_true, List.all_eq_true, List.mem_range]
  refine ⟨by decide, fun i hi => ?_⟩
  obtain ⟨u, hu⟩ : ∃ u, powCells[i]? = some u := ⟨powCells[i]'(by rw [pow_size]; exact hi), Array.getElem?_eq_getElem _⟩
  obtain ⟨n, rfl, hn⟩ := powCells_u64 i u hu
  rw [hu, Nat.mod_eq_of_lt hi, List.getElem?_replicate, if_pos hi]
  show Cell.okRefB Tryz.prog w 235 (.int .u64 n) = true
  have h0 : (0 : Int) ≤ (n : Int) := Int.natCast_nonneg _
  have h1 : (n : Int) ≤ 18446744073709551615 := by omega
  simp [Cell.okRefB, Cell.okB, Tryz.underlying235, IntKind.min, IntKind.max, IntKind.signed, IntKind.bits, h0, h1]
theorem globals16 : Tryz.checked.prog.globals.size = 16 := by kernel_rfl
theorem pow_begin : (((begin Tryz.checked.prog (fun _ _ => 0) default).world.heap[11]?).bind Obj.row?).map (fun x => (x.1.size, x.2)) = some (1392, 390) := by kernel_rfl
theorem pow_wit (os : Os) : ((laidWorld os).forCall (fun _ _ => 0) ⟨#[], #[zeroV, zeroV], []⟩).heap[11]? = some (.cells powCells 390 (0, 0)) := by kernel_rfl
theorem wit_vars (os : Os) : ((laidWorld os).forCall (fun _ _ => 0) ⟨#[], #[zeroV, zeroV], []⟩).variablesRefB Tryz.checked.prog = true := by
  unfold World.variablesRefB
  refine List.all_eq_true.2 (fun g hg0 => ?_)
  have hg := List.mem_range.1 hg0
  clear hg0
  rw [globals16] at hg
  have hc : g = 11 ∨ g = 0 ∨ g = 1 ∨ g = 2 ∨ g = 3 ∨ g = 4 ∨ g = 5 ∨ g = 6 ∨ g = 7 ∨ g = 8 ∨ g = 9 ∨ g = 10 ∨ g = 12 ∨ g = 13 ∨ g = 14 ∨ g = 15 := by omega
  rcases hc with rfl | rfl | rfl | rfl | rfl | rfl | rfl | rfl | rfl | rfl | rfl | rfl | rfl | rfl | rfl | rfl
  · obtain ⟨⟨zs, tz⟩, hz, hze⟩ := Option.map_eq_some_iff.1 pow_begin
    simp only [Prod.mk.injEq] at hze
    obtain ⟨hz1, rfl⟩ := hze
    rw [hz]
    simp only
    rw [pow_wit os]
    simp only
    rw [show Row.okRefB Tryz.checked.prog _ 390 powCells = true from pow_ok _, hz1, pow_size]
    simp
  all_goals (clear hg; show (_ : Bool) = true; kernel_rfl)
theorem wit_rest (os : Os) : (((laidWorld os).forCall (fun _ _ => 0) ⟨#[], #[zeroV, zeroV], []⟩).heap.toList.drop Tryz.checked.prog.globals.size).take ((begin Tryz.checked.prog (fun _ _ => 0) default).world.heap.size - Tryz.checked.prog.globals.size) = (begin Tryz.checked.prog (fun _ _ => 0) default).world.heap.toList.drop Tryz.checked.prog.globals.size := by kernel_rfl
theorem wit_ok (os : Os) : Input.okWideB Tryz.checked.prog ((laidWorld os).forCall (fun _ _ => 0) ⟨#[], #[zeroV, zeroV], []⟩) 6 ⟨#[], #[zeroV, zeroV], []⟩ = true := by kernel_rfl
end Go.Proofs.YtpamlgdcnmcedaaGreatDoor
