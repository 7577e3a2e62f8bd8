/- The witness's world: the settled one with the listed variables laid. -/
import Derived.Test.YtpamlgdcnmcedaaGreatDoorRows
import Derived.ProofKit
import Derived.LaidMore
import Derived.LaidLaws
import Derived.Deep.DeepHandedRow
import Derived.Lib.LaidIn
set_option linter.unusedVariables false
namespace Go.Proofs.YtpamlgdcnmcedaaGreatDoor
open Go
noncomputable def laidWorld (os : Os) : World :=
  let N := (World.settled Tryz.prog os).heap.size
  let w0 := World.holding Tryz.prog os ⟨#[
    .cells #[.string ⟨#[105, 110, 118, 97, 108, 105, 100, 32, 115, 121, 110, 116, 97, 120]⟩] 370,
    .cells #[.string ⟨#[118, 97, 108, 117, 101, 32, 111, 117, 116, 32, 111, 102, 32, 114, 97, 110, 103, 101]⟩] 370,
    .cells #[.float .f32 1065353216, .float .f32 1092616192, .float .f32 1120403456, .float .f32 1148846080, .float .f32 1176256512, .float .f32 1203982336, .float .f32 1232348160, .float .f32 1259902592, .float .f32 1287568416, .float .f32 1315859240, .float .f32 1343554297] 262,
    .cells #[.int .i64 1, .int .i64 3, .int .i64 6, .int .i64 9, .int .i64 13, .int .i64 16, .int .i64 19, .int .i64 23, .int .i64 26] 3,
    .cells #[.float .f64 4607182418800017408, .float .f64 4621819117588971520, .float .f64 4636737291354636288, .float .f64 4652007308841189376, .float .f64 4666723172467343360, .float .f64 4681608360884174848, .float .f64 4696837146684686336, .float .f64 4711630319722168320, .float .f64 4726483295884279808, .float .f64 4741671816366391296, .float .f64 4756540486875873280, .float .f64 4771362005757984768, .float .f64 4786511204640096256, .float .f64 4801453603149578240, .float .f64 4816244402031689728, .float .f64 4831355200913801216, .float .f64 4846369599423283200, .float .f64 4861130398305394688, .float .f64 4876203697187506176, .float .f64 4891288408196988160, .float .f64 4906019910204099648, .float .f64 4921056587992461136, .float .f64 4936209963552724370] 82,
    .cells (Pinned.cheatRows.flatMap fun x => [Value.int .i64 x.1, Value.string ⟨x.2.toArray⟩]).toArray 400], #[], []⟩
  let put (h : Array Obj) (g : Nat) (cs : Array Value) : Array Obj := h.modify g fun
    | .cells _ t frozen => .cells cs t frozen
    | o => o
  let h0 := w0.heap
  let h1 := put h0 0 (Pinned.utf8FirstZ.map fun (n : Nat) => Value.int .u8 n).toArray
  let h2 := put h1 1 #[.int .u8 128, .int .u8 191, .int .u8 160, .int .u8 191, .int .u8 128, .int .u8 159, .int .u8 144, .int .u8 191, .int .u8 128, .int .u8 143, .int .u8 0, .int .u8 0, .int .u8 0, .int .u8 0, .int .u8 0, .int .u8 0, .int .u8 0, .int .u8 0, .int .u8 0, .int .u8 0, .int .u8 0, .int .u8 0, .int .u8 0, .int .u8 0, .int .u8 0, .int .u8 0, .int .u8 0, .int .u8 0, .int .u8 0, .int .u8 0, .int .u8 0, .int .u8 0]
  let h3 := put h2 3 #[.iface 368 (.pointer (some ⟨N + 0, 0, none⟩))]
  let h4 := put h3 4 #[.iface 368 (.pointer (some ⟨N + 1, 0, none⟩))]
  let h5 := put h4 5 #[.int .u64 23, .int .u64 8, .int .i64 (-127)]
  let h6 := put h5 6 #[.bool true]
  let h7 := put h6 7 #[.int .u64 52, .int .u64 11, .int .i64 (-1023)]
  let h8 := put h7 8 #[.slice (some ⟨N + 2, 0, none⟩) 11 11]
  let h9 := put h8 9 #[.slice (some ⟨N + 3, 0, none⟩) 9 9]
  let h10 := put h9 10 #[.slice (some ⟨N + 4, 0, none⟩) 23 23]
  let h11 := put h10 11 (Pinned.pow10Rows.flatMap fun x => [Value.int .u64 x.1, Value.int .u64 x.2]).toArray
  let h12 := put h11 12 #[.slice (some ⟨N + 5, 0, none⟩) Pinned.cheatRows.length Pinned.cheatRows.length]
  let h13 := put h12 13 #[.int .u64 1, .int .u64 10, .int .u64 100, .int .u64 1000, .int .u64 10000, .int .u64 100000, .int .u64 1000000, .int .u64 10000000, .int .u64 100000000, .int .u64 1000000000, .int .u64 10000000000, .int .u64 100000000000, .int .u64 1000000000000, .int .u64 10000000000000, .int .u64 100000000000000, .int .u64 1000000000000000, .int .u64 10000000000000000, .int .u64 100000000000000000, .int .u64 1000000000000000000, .int .u64 10000000000000000000]
  let h14 := put h13 14 #[.int .u8 0, .int .u8 1, .int .u8 28, .int .u8 2, .int .u8 29, .int .u8 14, .int .u8 24, .int .u8 3, .int .u8 30, .int .u8 22, .int .u8 20, .int .u8 15, .int .u8 25, .int .u8 17, .int .u8 4, .int .u8 8, .int .u8 31, .int .u8 27, .int .u8 13, .int .u8 23, .int .u8 21, .int .u8 19, .int .u8 16, .int .u8 7, .int .u8 26, .int .u8 12, .int .u8 18, .int .u8 6, .int .u8 11, .int .u8 5, .int .u8 10, .int .u8 9]
  let h15 := put h14 15 #[.int .u8 0, .int .u8 1, .int .u8 56, .int .u8 2, .int .u8 57, .int .u8 49, .int .u8 28, .int .u8 3, .int .u8 61, .int .u8 58, .int .u8 42, .int .u8 50, .int .u8 38, .int .u8 29, .int .u8 17, .int .u8 4, .int .u8 62, .int .u8 47, .int .u8 59, .int .u8 36, .int .u8 45, .int .u8 43, .int .u8 51, .int .u8 22, .int .u8 53, .int .u8 39, .int .u8 33, .int .u8 30, .int .u8 24, .int .u8 18, .int .u8 12, .int .u8 5, .int .u8 63, .int .u8 55, .int .u8 48, .int .u8 27, .int .u8 60, .int .u8 41, .int .u8 37, .int .u8 16, .int .u8 46, .int .u8 35, .int .u8 44, .int .u8 21, .int .u8 52, .int .u8 32, .int .u8 23, .int .u8 11, .int .u8 54, .int .u8 26, .int .u8 40, .int .u8 15, .int .u8 34, .int .u8 20, .int .u8 31, .int .u8 10, .int .u8 25, .int .u8 14, .int .u8 19, .int .u8 9, .int .u8 13, .int .u8 8, .int .u8 7, .int .u8 6]
  { w0 with heap := h15 }
noncomputable abbrev N0 : Nat := (World.settled Tryz.prog default).heap.size
noncomputable abbrev laidMem (os : Os) (args : Array Value) : World := ((laidWorld os).forCall (fun _ _ => 0) ⟨#[], args, []⟩).memory
set_option maxRecDepth 1000000 in
theorem piece0 (os : Os) (args : Array Value) : LaidIn Tryz.prog (laidMem os args) (Rows.fnFlattenToRow.laid.take 12) [14, 15, 5, 7, 6, 9, N0 + 3, 10, N0 + 4, 8, N0 + 2, 13, 1, 4, N0 + 1, 3, N0] :=
  LaidIn.of_run [14, 15, 5, 7, 6, 9, N0 + 3, 10, N0 + 4, 8, N0 + 2, 13, 1, 4, N0 + 1, 3, N0] 8 (by kernel_rfl) (by kernel_rfl) (by kernel_rfl) (by kernel_rfl)
set_option maxRecDepth 1000000 in
theorem piece1 (os : Os) (args : Array Value) : LaidIn Tryz.prog (laidMem os args) [("internal/strconv.leftcheats", Rows.laid_internal_strconv_leftcheats)] [12, N0 + 5] :=
  LaidIn.of_run [12, N0 + 5] 8 (by kernel_rfl) (by kernel_rfl) (by kernel_rfl) (by kernel_rfl)
set_option maxRecDepth 1000000 in
theorem piece3 (os : Os) (args : Array Value) : LaidIn Tryz.prog (laidMem os args) [("unicode/utf8.first", Rows.laid_unicode_utf8_first)] [0] :=
  LaidIn.of_run [0] 8 (by kernel_rfl) (by kernel_rfl) (by kernel_rfl) (by kernel_rfl)
noncomputable abbrev powCells : Array Value := (Pinned.pow10Rows.flatMap fun x => [Value.int .u64 x.1, Value.int .u64 x.2]).toArray
theorem powCells_int (i : Nat) (u : Value) (h : powCells[i]? = some u) : ∃ n, u = .int .u64 n := by
  have hm : u ∈ powCells.toList := by
    rw [← Array.getElem?_toList] at h
    exact List.mem_of_getElem? h
  simp only [List.mem_flatMap] at hm
  obtain ⟨x, _, hx⟩ := hm
  simp only [List.mem_cons, List.not_mem_nil, or_false] at hx
  rcases hx with rfl | rfl <;> exact ⟨_, rfl⟩
set_option maxRecDepth 1000000 in
theorem pow_heap (os : Os) (args : Array Value) : (laidMem os args).heap[11]? = some (.cells powCells 390 (0, 0)) := by kernel_rfl
set_option maxRecDepth 1000000 in
theorem pow_read (os : Os) (args : Array Value) : DataW.trod (fun _ => ()) Tryz.prog (laidMem os args) 0 (fun _ => true) false 8 390 powCells.toList = some (Rows.laid_internal_strconv_pow10Tab, []) := by kernel_rfl
set_option maxRecDepth 1000000 in
theorem piece2 (os : Os) (args : Array Value) : LaidIn Tryz.prog (laidMem os args) [("internal/strconv.pow10Tab", Rows.laid_internal_strconv_pow10Tab)] [11] := by
  have hn : Tryz.prog.globalNamed "internal/strconv.pow10Tab" = some 11 := by kernel_rfl
  refine LaidIn.one (g := 11) (t := 390) (cs := powCells) (fuel := 8) (p := []) [11] hn (by kernel_rfl) (by simp [World.var?, hn, pow_heap os args]) (pow_read os args) ?_ ?_ ?_
  · rw [List.append_nil]
    exact rowP_nodup _ _
  · rw [List.append_nil]
    intro b off hp
    obtain ⟨i, hi, e'⟩ := MemPlace.mem_row.1 hp
    cases e'
    refine ⟨⟨_, _, pow_heap os args⟩, fun u v hc' => ?_⟩
    have hc2 : powCells[0 + i]? = some (.iface u v) := by
      rw [← hc']
      simp [World.cell?, pow_heap os args]
    obtain ⟨n, hn⟩ := powCells_int _ _ hc2
    cases hn
  · rw [List.append_nil]
    intro x hx
    obtain ⟨i, hi, rfl⟩ := MemPlace.mem_row.1 hx
    simp [MemPlace.block]
theorem laid_met (os : Os) (args : Array Value) : laidMet Tryz.prog Rows.fnFlattenToRow.laid (laidMem os args) :=
  ((((piece0 os args).append (piece1 os args) (by kernel_rfl)).append (piece2 os args) (by kernel_rfl)).append (piece3 os args) (by kernel_rfl)).met
end Go.Proofs.YtpamlgdcnmcedaaGreatDoor
