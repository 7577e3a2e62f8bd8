/- gojq.funcTranspose of rows. -/
import Derived.Test.YtpamlgdcnmcedaaGreatDoorZ1
set_option linter.unusedVariables false
set_option linter.unusedSimpArgs false
set_option maxRecDepth 100000
namespace Go.Proofs.YtpamlgdcnmcedaaGreatDoor
open Go Go.RowKit
theorem info62 : (Tryz.prog.info? 62).map (fun i => (i.zero, i.size, i.bytes)) = some (some (.slice none 0 0), 1, 24) := by kernel_rfl
@[go_sem] theorem ta1_62 (v : Value) (w : World) : (Instr.typeAssert (.iface 62 v) 20 62 false).run Tryz.prog w = .ok v w := by
  unfold Instr.typeAssert
  simp [run_underlying Tryz.underlying62]
def wideL {α : Type} : List (List α) → Nat
  | [] => 0
  | r :: rs => max r.length (wideL rs)
theorem wideL_append {α : Type} (r : List α) : ∀ l : List (List α), wideL (l ++ [r]) = max (wideL l) r.length
  | [] => by simp [wideL]
  | a :: l => by rw [List.cons_append, wideL, wideL, wideL_append r l]; omega
theorem wideL_take {α : Type} {l : List (List α)} {k : Nat} {r : List α} (h : l[k]? = some r) : wideL (l.take (k + 1)) = max (wideL (l.take k)) r.length := by
  rw [List.take_add_one, h]
  exact wideL_append r _
theorem wideL_le {α : Type} : ∀ (l : List (List α)) (r : List α), r ∈ l → r.length ≤ wideL l
  | a :: l, r, h => by
    rw [wideL]
    rcases List.mem_cons.1 h with rfl | h
    · omega
    · have := wideL_le l r h; omega
theorem wideL_of {α : Type} (n : Nat) : ∀ (l : List (List α)), (∀ r, r ∈ l → r.length ≤ n) → wideL l ≤ n
  | [], _ => Nat.zero_le _
  | a :: l, h => by
    rw [wideL]
    have h1 := h a List.mem_cons_self
    have h2 := wideL_of n l fun r hr => h r (List.mem_cons_of_mem _ hr)
    omega
/-- The columns. -/
def transJ (rows : List (List J)) (L : Nat) : List J := (List.range L).map fun j => J.arr (rows.map fun r => r.getD j .null)
/-- The columns under way: B: the heap's size at the start; 'done i j': the element of row i and column j lies where it is to. -/
structure TGrid (w : World) (B L m k : Nat) (done : Nat → Nat → Prop) (val : Nat → Nat → Value) (wr : World) : Prop where
  below : Below B w wr
  size : wr.heap.size = B + 2 + k
  c1 : ∃ arr : Array Value, wr.heap[B]? = some (.cells arr 62 (0, 0)) ∧ arr.size = L ∧ ∀ j, j < k → arr[j]? = some (.slice (some ⟨B + 2 + j, 0, none⟩) m m)
  c2 : ∃ arr : Array Value, wr.heap[B + 1]? = some (.cells arr 20 (0, 0)) ∧ arr.size = L ∧ ∀ j, j < k → arr[j]? = some (.iface 62 (.slice (some ⟨B + 2 + j, 0, none⟩) m m))
  cols : ∀ j, j < k → ∃ arr : Array Value, wr.heap[B + 2 + j]? = some (.cells arr 20 (0, 0)) ∧ arr.size = m ∧ ∀ i, i < m → (done i j → arr[i]? = some (val i j)) ∧ (¬ done i j → arr[i]? = some .nilIface)
theorem TGrid.cell1 {w wr : World} {B L m k : Nat} {done : Nat → Nat → Prop} {val : Nat → Nat → Value} (h : TGrid w B L m k done val wr) {q : Nat} (hq : q < L) : ∃ u, wr.cell? ⟨B, q, none⟩ = some u := by
  obtain ⟨arr, ha, hs, _⟩ := h.c1
  exact ⟨arr[q]'(by omega), by simp [World.cell?, ha, hs, hq]⟩
theorem TGrid.cell2 {w wr : World} {B L m k : Nat} {done : Nat → Nat → Prop} {val : Nat → Nat → Value} (h : TGrid w B L m k done val wr) {q : Nat} (hq : q < L) : ∃ u, wr.cell? ⟨B + 1, q, none⟩ = some u := by
  obtain ⟨arr, ha, hs, _⟩ := h.c2
  exact ⟨arr[q]'(by omega), by simp [World.cell?, ha, hs, hq]⟩
/-- A column is laid. -/
theorem TGrid.lay {w wr : World} {B L m k : Nat} {val : Nat → Nat → Value} (h : TGrid w B L m k (fun _ _ => False) val wr) (hk : k < L) (hB : B ≤ B) :
    TGrid w B L m (k + 1) (fun _ _ => False) val (((wr.alloc (.cells (madeCells #[.nilIface] m) 20)).setCell ⟨B, k, none⟩ (.slice (some ⟨B + 2 + k, 0, none⟩) m m)).setCell ⟨B + 1, k, none⟩ (.iface 62 (.slice (some ⟨B + 2 + k, 0, none⟩) m m))) := by
  obtain ⟨a1, h1, s1, e1⟩ := h.c1
  obtain ⟨a2, h2, s2, e2⟩ := h.c2
  have hsz := h.size
  have k1 : (wr.alloc (.cells (madeCells #[.nilIface] m) 20)).heap[B]? = some (.cells a1 62 (0, 0)) := (Below.heap_alloc _ _ _ (by omega)).trans h1
  have k2 : (wr.alloc (.cells (madeCells #[.nilIface] m) 20)).heap[B + 1]? = some (.cells a2 20 (0, 0)) := (Below.heap_alloc _ _ _ (by omega)).trans h2
  have hne : ∀ (W : World) (u u' : Value) (b : Nat), b ≠ B → b ≠ B + 1 → ((W.setCell ⟨B, k, none⟩ u).setCell ⟨B + 1, k, none⟩ u').heap[b]? = W.heap[b]? := fun W u u' b hb1 hb2 => (Below.heap_setCell _ _ _ _ hb2).trans (Below.heap_setCell _ _ _ _ hb1)
  refine ⟨?_, ?_, ⟨_, (Below.heap_setCell _ _ _ _ (by show B ≠ B + 1; omega)).trans (heap_setCell_row k1 _), by simp [s1], fun j hj => ?_⟩, ⟨_, heap_setCell_row ((Below.heap_setCell _ _ _ _ (by show B + 1 ≠ B; omega)).trans k2) _, by simp [s2], fun j hj => ?_⟩, fun j hj => ?_⟩
  · exact ((h.below.alloc (by omega) _).setCell (Nat.le_refl _) _).setCell (by show B ≤ B + 1; omega) _
  · simp [World.setCell, hsz]
    omega
  · rw [Array.getElem?_setIfInBounds]
    by_cases e : k = j
    · subst e; rw [if_pos rfl, if_pos (by omega)]
    · rw [if_neg e]; exact e1 j (by omega)
  · rw [Array.getElem?_setIfInBounds]
    by_cases e : k = j
    · subst e; rw [if_pos rfl, if_pos (by omega)]
    · rw [if_neg e]; exact e2 j (by omega)
  · rw [hne _ _ _ _ (by omega) (by omega)]
    by_cases e : j = k
    · subst e
      refine ⟨_, by rw [← hsz]; exact heap_alloc_new wr _, size_madeCells _ _, fun i hi => ⟨fun h => h.elim, fun _ => ?_⟩⟩
      have h1 : i % 1 = 0 := Nat.mod_one i
      simp [madeCells, hi, h1]
    · obtain ⟨arr, ha, hs, hc⟩ := h.cols j (by omega)
      exact ⟨arr, (Below.heap_alloc _ _ _ (by omega)).trans ha, hs, hc⟩
theorem TGrid.lay' {w wr : World} {B L m k : Nat} {val : Nat → Nat → Value} (h : TGrid w B L m k (fun _ _ => False) val wr) (hk : k < L) :
    TGrid w B L m (k + 1) (fun _ _ => False) val (((wr.alloc (.cells (madeCells #[.nilIface] m) 20)).setCell ⟨B, k, none⟩ (.slice (some ⟨wr.heap.size, 0, none⟩) m m)).setCell ⟨B + 1, k, none⟩ (.iface 62 (.slice (some ⟨wr.heap.size, 0, none⟩) m m))) := by
  have h2 := h.lay hk (Nat.le_refl _)
  rw [← h.size] at h2
  exact h2
theorem TGrid.start {w : World} (L m : Nat) (val : Nat → Nat → Value) : TGrid w w.heap.size L m 0 (fun _ _ => False) val ((w.alloc (.cells (madeCells #[.slice none 0 0] L) 62)).alloc (.cells (madeCells #[.nilIface] L) 20)) := by
  have hs : (w.alloc (.cells (madeCells #[.slice none 0 0] L) 62)).heap.size = w.heap.size + 1 := by simp
  have k1 : ((w.alloc (.cells (madeCells #[.slice none 0 0] L) 62)).alloc (.cells (madeCells #[.nilIface] L) 20)).heap[w.heap.size]? = some (.cells (madeCells #[.slice none 0 0] L) 62 (0, 0)) := (Below.heap_alloc _ _ _ (by simp)).trans (heap_alloc_new w _)
  have k2 : ((w.alloc (.cells (madeCells #[.slice none 0 0] L) 62)).alloc (.cells (madeCells #[.nilIface] L) 20)).heap[w.heap.size + 1]? = some (.cells (madeCells #[.nilIface] L) 20 (0, 0)) := by
    have := heap_alloc_new (w.alloc (.cells (madeCells #[.slice none 0 0] L) 62)) (.cells (madeCells #[.nilIface] L) 20)
    rw [hs] at this
    exact this
  exact ⟨((Below.refl _ _).alloc (Nat.le_refl _) _).alloc (by simp) _, by simp, ⟨_, k1, size_madeCells _ _, fun j hj => absurd hj (Nat.not_lt_zero _)⟩, ⟨_, k2, size_madeCells _ _, fun j hj => absurd hj (Nat.not_lt_zero _)⟩, fun j hj => absurd hj (Nat.not_lt_zero _)⟩
theorem TGrid.turn {w wr : World} {B L m k : Nat} {done done' : Nat → Nat → Prop} {val : Nat → Nat → Value} (h : TGrid w B L m k done val wr) (h1 : ∀ i j, done i j → done' i j) (h2 : ∀ i j, done' i j → ¬ done i j → val i j = .nilIface) : TGrid w B L m k done' val wr := by
  refine ⟨h.below, h.size, h.c1, h.c2, fun j hj => ?_⟩
  obtain ⟨arr, ha, hs, hc⟩ := h.cols j hj
  refine ⟨arr, ha, hs, fun i hi => ⟨fun hd => ?_, fun hd => (hc i hi).2 fun h => hd (h1 i j h)⟩⟩
  by_cases h0 : done i j
  · exact (hc i hi).1 h0
  · rw [h2 i j hd h0]; exact (hc i hi).2 h0
/-- What the walk reads and writes. -/
theorem TGrid.at1 {w wr : World} {B L m : Nat} {done : Nat → Nat → Prop} {val : Nat → Nat → Value} (h : TGrid w B L m L done val wr) {q : Nat} (hq : q < L) : wr.cell? ⟨B, q, none⟩ = some (.slice (some ⟨B + 2 + q, 0, none⟩) m m) := by
  obtain ⟨arr, ha, hs, he⟩ := h.c1
  simp [World.cell?, ha, he q hq]
theorem TGrid.atCol {w wr : World} {B L m : Nat} {done : Nat → Nat → Prop} {val : Nat → Nat → Value} (h : TGrid w B L m L done val wr) {q i : Nat} (hq : q < L) (hi : i < m) : (∃ u, wr.cell? ⟨B + 2 + q, i, none⟩ = some u) ∧ wr.frozen? ⟨B + 2 + q, i, none⟩ = false := by
  obtain ⟨arr, ha, hs, hc⟩ := h.cols q hq
  refine ⟨⟨arr[i]'(by omega), by simp [World.cell?, ha, hs, hi]⟩, by simp [World.frozen?, ha]⟩
/-- The two stores of a laid column. -/
theorem TGrid.stores {w wr : World} {B L m k : Nat} {val : Nat → Nat → Value} (h : TGrid w B L m k (fun _ _ => False) val wr) (hk : k < L) (o : Obj) :
    (∃ u, (wr.alloc o).cell? ⟨B, k, none⟩ = some u) ∧ (wr.alloc o).frozen? ⟨B, k, none⟩ = false ∧ (∀ v, ∃ u, ((wr.alloc o).setCell ⟨B, k, none⟩ v).cell? ⟨B + 1, k, none⟩ = some u) ∧ ∀ v, ((wr.alloc o).setCell ⟨B, k, none⟩ v).frozen? ⟨B + 1, k, none⟩ = false := by
  obtain ⟨a1, h1, s1, e1⟩ := h.c1
  obtain ⟨a2, h2, s2, e2⟩ := h.c2
  have hsz := h.size
  have k1 : (wr.alloc o).heap[B]? = some (.cells a1 62 (0, 0)) := (Below.heap_alloc _ _ _ (by omega)).trans h1
  have k2 : ∀ v, ((wr.alloc o).setCell ⟨B, k, none⟩ v).heap[B + 1]? = some (.cells a2 20 (0, 0)) := fun v => (Below.heap_setCell _ _ _ _ (by show B + 1 ≠ B; omega)).trans ((Below.heap_alloc _ _ _ (by omega)).trans h2)
  refine ⟨⟨a1[k]'(by omega), by simp [World.cell?, k1, s1, hk]⟩, by simp [World.frozen?, k1], fun v => ⟨a2[k]'(by omega), ?_⟩, fun v => ?_⟩
  · simp only [World.cell?, k2 v]
    simp [s2, hk]
  · simp only [World.frozen?, k2 v]
    simp
/-- An element is laid. -/
theorem TGrid.fill {w wr : World} {B L m i0 j0 : Nat} {done done' : Nat → Nat → Prop} {val : Nat → Nat → Value} (h : TGrid w B L m L done val wr) (hi : i0 < m) (hj : j0 < L)
    (h1 : ∀ i j, done' i j → done i j ∨ (i = i0 ∧ j = j0)) (h2 : ∀ i j, done i j → done' i j) (h3 : done' i0 j0) : TGrid w B L m L done' val (wr.setCell ⟨B + 2 + j0, i0, none⟩ (val i0 j0)) := by
  have hoth : ∀ b, b ≠ B + 2 + j0 → (wr.setCell ⟨B + 2 + j0, i0, none⟩ (val i0 j0)).heap[b]? = wr.heap[b]? := fun b hb => Below.heap_setCell _ _ _ _ hb
  refine ⟨h.below.setCell (by show B ≤ B + 2 + j0; omega) _, by simp [World.setCell, h.size], ?_, ?_, fun j hjL => ?_⟩
  · obtain ⟨arr, ha, r⟩ := h.c1
    exact ⟨arr, (hoth _ (by omega)).trans ha, r⟩
  · obtain ⟨arr, ha, r⟩ := h.c2
    exact ⟨arr, (hoth _ (by omega)).trans ha, r⟩
  · obtain ⟨arr, ha, hs, hc⟩ := h.cols j hjL
    by_cases e : j = j0
    · subst e
      refine ⟨_, heap_setCell_row ha _, by simp [hs], fun i him => ?_⟩
      by_cases ei : i = i0
      · subst ei
        exact ⟨fun _ => by simp [Array.getElem?_setIfInBounds, hs, him], fun hn => absurd h3 hn⟩
      · refine ⟨fun hd => ?_, fun hd => ?_⟩
        · rw [Array.getElem?_setIfInBounds, if_neg (by omega)]
          exact (hc i him).1 ((h1 i j hd).resolve_right fun h => ei h.1)
        · rw [Array.getElem?_setIfInBounds, if_neg (by omega)]
          exact (hc i him).2 fun h => hd (h2 i j h)
    · refine ⟨arr, (hoth _ (by omega)).trans ha, hs, fun i him => ⟨fun hd => (hc i him).1 ((h1 i j hd).resolve_right fun h => e h.2), fun hd => (hc i him).2 fun h => hd (h2 i j h)⟩⟩
theorem TGrid.done_all {w wr : World} {B L m : Nat} {rows : List (List J)} {val : Nat → Nat → Value} (h : TGrid w B L m L (fun i _ => i < m) val wr) (hm : rows.length = m) (hB : B = w.heap.size) (ok : Nat → Prop)
    (hv : ∀ (i j : Nat) (r : List J), rows[i]? = some r → Jr w ok (r.getD j .null) (val i j)) : Jr wr (fun _ => True) (.arr (transJ rows L)) (.iface 62 (.slice (some ⟨B + 1, 0, none⟩) L L)) := by
  obtain ⟨a2, h2, s2, e2⟩ := h.c2
  subst hB
  have hlen : (transJ rows L).length = L := by simp [transJ]
  have key := Jr.arr (w := wr) (ok := fun _ => True) (transJ rows L) (some ⟨w.heap.size + 1, 0, none⟩) L (fun j => .iface 62 (.slice (some ⟨w.heap.size + 2 + j, 0, none⟩) m m)) (by omega) (fun _ => ⟨_, rfl, trivial, fun i j u hi hu => ?_⟩) (fun j x hj => ?_)
  · rw [hlen] at key; exact key
  · rw [hlen] at hi
    match j, hu with
    | 0, hu =>
      simp only [List.getElem?_cons_zero, Option.some.injEq] at hu
      subst hu
      have e : (⟨w.heap.size + 1, 0, none⟩ : Addr).add (i * 1 + 0) = ⟨w.heap.size + 1, i, none⟩ := by
        unfold Addr.add
        split
        · rename_i h0; have : i = 0 := by omega
          subst this; rfl
        · simp
      rw [e]
      have := e2 i hi
      simp [World.cell?, h2, this]
    | j + 1, hu => simp at hu
  · have hjL : j < L := by have := (List.getElem?_eq_some_iff.1 hj).1; omega
    have hx : x = .arr (rows.map fun r => r.getD j .null) := by
      unfold transJ at hj
      rw [List.getElem?_map, List.getElem?_range hjL] at hj
      simpa using hj.symm
    subst hx
    obtain ⟨arr, ha, hs, hc⟩ := h.cols j hjL
    have hl2 : (rows.map fun r => r.getD j J.null).length = m := by simp [hm]
    have key := Jr.arr (w := wr) (ok := fun _ => True) (rows.map fun r => r.getD j .null) (some ⟨w.heap.size + 2 + j, 0, none⟩) m (fun i => val i j) (by omega) (fun _ => ⟨_, rfl, trivial, fun i q u hi hu => ?_⟩) (fun i y hi => ?_)
    · rw [hl2] at key; exact key
    · rw [hl2] at hi
      match q, hu with
      | 0, hu =>
        simp only [List.getElem?_cons_zero, Option.some.injEq] at hu
        subst hu
        have e : (⟨w.heap.size + 2 + j, 0, none⟩ : Addr).add (i * 1 + 0) = ⟨w.heap.size + 2 + j, i, none⟩ := by
          unfold Addr.add
          split
          · rename_i h0; have : i = 0 := by omega
            subst this; rfl
          · simp
        rw [e]
        have := (hc i hi).1 hi
        simp [World.cell?, ha, this]
      | q + 1, hu => simp at hu
    · rw [List.getElem?_map] at hi
      obtain ⟨r, hr, rfl⟩ := Option.map_eq_some_iff.1 hi
      exact ((hv i j r hr).keep h.below).mono fun _ _ => trivial
end Go.Proofs.YtpamlgdcnmcedaaGreatDoor
