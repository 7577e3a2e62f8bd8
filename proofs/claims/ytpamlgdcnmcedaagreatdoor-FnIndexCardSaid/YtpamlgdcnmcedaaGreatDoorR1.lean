/- impl.result. -/
import Derived.Test.YtpamlgdcnmcedaaGreatDoorH3
set_option linter.unusedVariables false
set_option linter.unusedSimpArgs false
set_option maxRecDepth 100000
namespace Go.Proofs.YtpamlgdcnmcedaaGreatDoor
open Go Go.RowKit
/-- The error asserted out of a jq value: none. -/
theorem err_J {w : World} {ok : Nat → Prop} {j : J} {x : Value} (h : Jr w ok j x) (W : World) : (Instr.typeAssert x 20 89 true).run Tryz.prog W = .ok (.tuple #[.nilIface, .bool false]) W := by
  cases h <;> simp [err_nil, err_3, err_4, err_9, err_62, err_82, err_85]
def ResultPost (j : J) (w : World) (e : Ending) (w' : World) : Prop := ∃ cs : List Value, e = .returned (.agg (cs ++ [Value.int .i64 0]).toArray) ∧ Vr w' (fun b => w.heap.size ≤ b) j.v cs ∧ Below w.heap.size w w'
theorem result_any (j : J) (ok : Nat → Prop) (x : Value) (w : World) (hG : GJ j) (hJ : Jr w ok j x) : Calls Tryz.prog 48 #[x] w (ResultPost j w) := by
  have herr := err_J hJ
  have HJ := Lib.hid hJ
  clear hJ
  go_enter Tryz.func48, Tryz.ntmps48
  go_wp2_with fail
  refine (fromGo_any j ok x _ hG (HJ.out.keep ((Below.refl _ _).alloc (Nat.le_refl _) _))).mono ?_
  rintro e' w' ⟨cs, rfl, hv', hbw⟩
  have hr' : w'.heap[w.heap.size]? = some (.cells #[.int .i64 0, .int .i64 0, .string ⟨#[]⟩, .slice none 0 0, .slice none 0 0, .slice none 0 0, .int .i64 0] 34) := (hbw.block _ (by simp)).trans (heap_alloc_new w _)
  have y0 : w'.cell? ⟨w.heap.size, 0, none⟩ = some (.int .i64 0) := by simp [World.cell?, hr']
  have y1 : w'.cell? ⟨w.heap.size, 1, none⟩ = some (.int .i64 0) := by simp [World.cell?, hr']
  have y2 : w'.cell? ⟨w.heap.size, 2, none⟩ = some (.string ⟨#[]⟩) := by simp [World.cell?, hr']
  have y3 : w'.cell? ⟨w.heap.size, 3, none⟩ = some (.slice none 0 0) := by simp [World.cell?, hr']
  have y4 : w'.cell? ⟨w.heap.size, 4, none⟩ = some (.slice none 0 0) := by simp [World.cell?, hr']
  have y5 : w'.cell? ⟨w.heap.size, 5, none⟩ = some (.slice none 0 0) := by simp [World.cell?, hr']
  have y6 : w'.cell? ⟨w.heap.size, 6, none⟩ = some (.int .i64 0) := by simp [World.cell?, hr']
  have yf : ∀ i, w'.frozen? ⟨w.heap.size, i, none⟩ = false := fun i => by simp [World.frozen?, hr']
  have hlt' : w.heap.size < w'.heap.size := heap_lt hr'
  clear hr'
  have hset : ∀ (W : World) (i : Nat) (u : Value), Vr W (fun b => w.heap.size < b) j.v cs → Vr (W.setCell ⟨w.heap.size, i, none⟩ u) (fun b => w.heap.size < b) j.v cs := fun W i u h =>
    h.move fun b hb => Below.heap_setCell _ _ _ _ (by show b ≠ w.heap.size; omega)
  have hv1 : Vr w' (fun b => w.heap.size < b) j.v cs := hv'.mono fun b hb => by simp at hb; omega
  have HSET := Lib.hid hset
  have HV1 := Lib.hid hv1
  have HBW := Lib.hid (below_trans ((Below.refl _ _).alloc (Nat.le_refl _) _) hbw)
  clear hset hv1 hbw
  generalize hjv : j.v = jv at hv'
  have HJV := Lib.hid hjv
  clear hjv
  obtain ⟨k', h', t', l', ks', vs', B1, d1, B2, d2, B3, d3, f1, g1, ht, h1, h2, h3, b1, b2, b3, hk', hh', hs', q1, e1, q2, q3, e3'⟩ := hv'
  go_wp2_with fail
  refine bodyPost_ret (v := .agg #[.int .i64 k', .int .i64 h', .string t', .slice B1 l'.length d1, .slice B2 ks'.length d2, .slice B3 vs'.length d3, .int .i64 0]) (by simp [results, Tryz.results48, go_sem, hlt', y0, y1, y2, y3, y4, y5, y6]) rfl ?_
  refine ⟨[.int .i64 k', .int .i64 h', .string t', .slice B1 l'.length d1, .slice B2 ks'.length d2, .slice B3 vs'.length d3], rfl, ?_, ?_⟩
  · exact ((HSET.out _ _ _ (HSET.out _ _ _ (HSET.out _ _ _ (HSET.out _ _ _ (HSET.out _ _ _ (HSET.out _ _ _ (HSET.out _ _ _ HV1.out))))))).mono fun b hb => by omega).keep ((Below.refl _ _).alloc (Nat.le_refl _) _)
  · refine Below.alloc ?_ (by simp; omega) _
    exact ((((((HBW.out.setCell (Nat.le_refl _) _).setCell (Nat.le_refl _) _).setCell (Nat.le_refl _) _).setCell (Nat.le_refl _) _).setCell (Nat.le_refl _) _).setCell (Nat.le_refl _) _).setCell (Nat.le_refl _) _
end Go.Proofs.YtpamlgdcnmcedaaGreatDoor
