/- A result that a law keeps in a variable of its own: the variable's block may be laid ahead of the calls or behind them. -/
import Derived.Test.YtpamlgdcnmcedaaGreatDoorZ1
set_option linter.unusedVariables false
set_option linter.unusedSimpArgs false
namespace Go.Proofs.YtpamlgdcnmcedaaGreatDoor
open Go Go.RowKit
theorem alloc_then {w0 w' : World} {o : Obj} (hb : Below (w0.alloc o).heap.size (w0.alloc o) w') : w'.heap[w0.heap.size]? = some o := (hb.block _ (by simp)).trans (heap_alloc_new w0 o)
theorem alloc_then1 {w0 w' : World} {o : Obj} (hb : Below (w0.alloc o).drew.heap.size (w0.alloc o).drew w') : w'.heap[w0.heap.size]? = some o := by
  have h := hb.block w0.heap.size (show w0.heap.size < (w0.alloc o).heap.size by simp)
  exact h.trans (heap_alloc_new w0 o)
theorem alloc_then2 {w0 w' : World} {o : Obj} (hb : Below (w0.alloc o).drew.drew.heap.size (w0.alloc o).drew.drew w') : w'.heap[w0.heap.size]? = some o := by
  have h := hb.block w0.heap.size (show w0.heap.size < (w0.alloc o).heap.size by simp)
  exact h.trans (heap_alloc_new w0 o)
theorem alloc_lt {w0 w' : World} {o : Obj} (hb : Below (w0.alloc o).heap.size (w0.alloc o) w') : w0.heap.size < (w0.alloc o).heap.size := by simp
theorem cells7 {w : World} {g : Nat} {a0 a1 a2 a3 a4 a5 a6 : Value} {t : TypeId} (h : w.heap[g]? = some (.cells #[a0, a1, a2, a3, a4, a5, a6] t (0, 0))) :
    w.cell? ⟨g, 0, none⟩ = some a0 ∧ w.cell? ⟨g, 1, none⟩ = some a1 ∧ w.cell? ⟨g, 2, none⟩ = some a2 ∧ w.cell? ⟨g, 3, none⟩ = some a3 ∧ w.cell? ⟨g, 4, none⟩ = some a4 ∧ w.cell? ⟨g, 5, none⟩ = some a5 ∧ w.cell? ⟨g, 6, none⟩ = some a6 ∧ ∀ i, w.frozen? ⟨g, i, none⟩ = false := by
  refine ⟨?_, ?_, ?_, ?_, ?_, ?_, ?_, fun i => ?_⟩ <;> simp [World.cell?, World.frozen?, h]
theorem cells6b {w : World} {g : Nat} {a0 a1 a2 a3 a4 a5 : Value} {t : TypeId} (h : w.heap[g]? = some (.cells #[a0, a1, a2, a3, a4, a5] t (0, 0))) :
    w.cell? ⟨g, 0, none⟩ = some a0 ∧ w.cell? ⟨g, 1, none⟩ = some a1 ∧ w.cell? ⟨g, 2, none⟩ = some a2 ∧ w.cell? ⟨g, 3, none⟩ = some a3 ∧ w.cell? ⟨g, 4, none⟩ = some a4 ∧ w.cell? ⟨g, 5, none⟩ = some a5 ∧ ∀ i, w.frozen? ⟨g, i, none⟩ = false := by
  refine ⟨?_, ?_, ?_, ?_, ?_, ?_, fun i => ?_⟩ <;> simp [World.cell?, World.frozen?, h]
/-- The variable at pv holds the value v, ended by c. -/
def ResAt (W : World) (v : V) (c : Int) (pv : Value) (wx : World) : Prop :=
  ∃ (g : Nat) (b0 b1 : Int) (sb : ByteArray) (T3 T4 T5 : Option Addr) (u3 v3 u4 v4 u5 v5 : Nat), pv = .pointer (some ⟨g, 0, none⟩) ∧ Below W.heap.size W wx ∧ W.heap.size ≤ g ∧
    wx.heap[g]? = some (.cells #[.int .i64 b0, .int .i64 b1, .string sb, .slice T3 u3 v3, .slice T4 u4 v4, .slice T5 u5 v5, .int .i64 c] 34 (0, 0)) ∧
    Vr wx (fun _ => True) v [.int .i64 b0, .int .i64 b1, .string sb, .slice T3 u3 v3, .slice T4 u4 v4, .slice T5 u5 v5]
theorem resAt_below {W wx : World} {v : V} {c : Int} {pv : Value} (h : ResAt W v c pv wx) : Below W.heap.size W wx := by
  obtain ⟨_, _, _, _, _, _, _, _, _, _, _, _, _, _, h, _⟩ := h
  exact h
set_option maxHeartbeats 4000000 in
theorem resAt_set {W w : World} {M g : Nat} {v : V} {c b0 b1 : Int} {sb : ByteArray} {T3 T4 T5 : Option Addr} {u3 v3 u4 v4 u5 v5 : Nat} {z0 z1 z2 z3 z4 z5 z6 : Value} (hb : Below W.heap.size W w) (hg0 : W.heap.size ≤ g) (hgM : g < M)
    (hg : w.heap[g]? = some (.cells #[z0, z1, z2, z3, z4, z5, z6] 34 (0, 0))) (hv : Vr w (fun b => M ≤ b) v [.int .i64 b0, .int .i64 b1, .string sb, .slice T3 u3 v3, .slice T4 u4 v4, .slice T5 u5 v5]) :
    ResAt W v c (.pointer (some ⟨g, 0, none⟩)) (((((((w.setCell ⟨g, 0, none⟩ (.int .i64 b0)).setCell ⟨g, 1, none⟩ (.int .i64 b1)).setCell ⟨g, 2, none⟩ (.string sb)).setCell ⟨g, 3, none⟩ (.slice T3 u3 v3)).setCell ⟨g, 4, none⟩ (.slice T4 u4 v4)).setCell ⟨g, 5, none⟩ (.slice T5 u5 v5)).setCell ⟨g, 6, none⟩ (.int .i64 c)) := by
  have hs : ∀ (W' : World) (i : Nat) (u : Value), Vr W' (fun b => M ≤ b) v [.int .i64 b0, .int .i64 b1, .string sb, .slice T3 u3 v3, .slice T4 u4 v4, .slice T5 u5 v5] → Vr (W'.setCell ⟨g, i, none⟩ u) (fun b => M ≤ b) v [.int .i64 b0, .int .i64 b1, .string sb, .slice T3 u3 v3, .slice T4 u4 v4, .slice T5 u5 v5] := fun W' i u h =>
    h.move fun b hb => Below.heap_setCell _ _ _ _ (by show b ≠ g; omega)
  refine ⟨g, b0, b1, sb, T3, T4, T5, u3, v3, u4, v4, u5, v5, rfl, ?_, hg0, ?_, ?_⟩
  · have q : ∀ (W' : World) (i : Nat) (u : Value), Below W.heap.size W W' → Below W.heap.size W (W'.setCell ⟨g, i, none⟩ u) := fun W' i u h => h.setCell hg0 u
    apply q; apply q; apply q; apply q; apply q; apply q; apply q
    exact hb
  · have k0 := heap_setCell_row (i := 0) hg (.int .i64 b0)
    have k1 := heap_setCell_row (i := 1) k0 (.int .i64 b1)
    have k2 := heap_setCell_row (i := 2) k1 (.string sb)
    have k3 := heap_setCell_row (i := 3) k2 (.slice T3 u3 v3)
    have k4 := heap_setCell_row (i := 4) k3 (.slice T4 u4 v4)
    have k5 := heap_setCell_row (i := 5) k4 (.slice T5 u5 v5)
    have k6 := heap_setCell_row (i := 6) k5 (.int .i64 c)
    exact k6
  · refine Vr.mono (ok := fun b => M ≤ b) (fun _ _ => trivial) ?_
    apply hs; apply hs; apply hs; apply hs; apply hs; apply hs; apply hs
    exact hv
theorem resAt_alloc {W w : World} {v : V} {c b0 b1 : Int} {sb : ByteArray} {T3 T4 T5 : Option Addr} {u3 v3 u4 v4 u5 v5 : Nat} {ok : Nat → Prop} (hb : Below W.heap.size W w)
    (hv : Vr w ok v [.int .i64 b0, .int .i64 b1, .string sb, .slice T3 u3 v3, .slice T4 u4 v4, .slice T5 u5 v5]) :
    ResAt W v c (.pointer (some ⟨w.heap.size, 0, none⟩)) (w.alloc (.cells #[.int .i64 b0, .int .i64 b1, .string sb, .slice T3 u3 v3, .slice T4 u4 v4, .slice T5 u5 v5, .int .i64 c] 34)) :=
  ⟨w.heap.size, b0, b1, sb, T3, T4, T5, u3, v3, u4, v4, u5, v5, rfl, hb.alloc hb.size _, hb.size, heap_alloc_new w _, (hv.mono fun _ _ => trivial).keep ((Below.refl _ _).alloc (Nat.le_refl _) _)⟩
end Go.Proofs.YtpamlgdcnmcedaaGreatDoor
