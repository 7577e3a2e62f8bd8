import Derived.Test.YtpamlgdcnmcedaaGreatDoorC1
import Derived.Test.YtpamlgdcnmcedaaGreatDoorW2
import Derived.Deep.OwnRows
set_option linter.unusedVariables false
set_option linter.unusedSimpArgs false
set_option maxRecDepth 100000
namespace Go.Proofs.YtpamlgdcnmcedaaGreatDoor
open Go Go.RowKit

theorem info20 : (Tryz.prog.info? 20).map (fun i => (i.zero, i.size, i.bytes)) = some (some .nilIface, 1, 16) := by kernel_rfl

/-- A []any of the call's own, filled up to k. -/
structure Filled (w : World) (g n k : Nat) (js : List J) (wr : World) : Prop where
  below : Below w.heap.size w wr
  hg : w.heap.size ≤ g
  blk : ∃ arr : Array Value, wr.heap[g]? = some (.cells arr 20 (0, 0)) ∧ arr.size = n ∧ ∀ (i : Nat) (j : J), i < k → js[i]? = some j → ∃ x, arr[i]? = some x ∧ Jr wr (fun b => g < b) j x
theorem heap_lt {w : World} {g : Nat} {o : Obj} (h : w.heap[g]? = some o) : g < w.heap.size := (Array.getElem?_eq_some_iff.1 h).1
theorem Filled.start (w : World) (n : Nat) (js : List J) : Filled w w.heap.size n 0 js (w.alloc (.cells (madeCells #[.nilIface] n) 20)) :=
  ⟨(Below.refl _ _).alloc (Nat.le_refl _) _, Nat.le_refl _, _, heap_alloc_new w _, size_madeCells _ _, fun i j hi => by omega⟩
section
variable {w wr w' : World} {g n k : Nat} {js : List J}
theorem Filled.lt (h : Filled w g n k js wr) : g < wr.heap.size := by
  obtain ⟨arr, ha, _⟩ := h.blk
  exact heap_lt ha
theorem Filled.cell (h : Filled w g n k js wr) (hb : Below wr.heap.size wr w') (hk : k < n) : ∃ u, w'.cell? ⟨g, k, none⟩ = some u := by
  obtain ⟨arr, ha, hs, _⟩ := h.blk
  have ha' := (hb.block g (heap_lt ha)).trans ha
  refine ⟨arr[k], ?_⟩
  simp [World.cell?, ha', hs, hk]
theorem Filled.frozen (h : Filled w g n k js wr) (hb : Below wr.heap.size wr w') : w'.frozen? ⟨g, k, none⟩ = false := by
  obtain ⟨arr, ha, hs, _⟩ := h.blk
  have ha' := (hb.block g (heap_lt ha)).trans ha
  simp [World.frozen?, ha']
theorem heap_setCell_row {w : World} {g i : Nat} {arr : Array Value} {t : TypeId} {fz : Nat × Nat} (h : w.heap[g]? = some (.cells arr t fz)) (x : Value) : (w.setCell ⟨g, i, none⟩ x).heap[g]? = some (.cells (arr.setIfInBounds i x) t fz) := by
  simp [World.setCell, Array.getElem?_modify, h]
theorem Filled.step (h : Filled w g n k js wr) (hb : Below wr.heap.size wr w') (hk : k < n) {x : Value} (hx : ∀ j, js[k]? = some j → Jr w' (fun b => g < b) j x) :
    Filled w g n (k + 1) js (w'.setCell ⟨g, k, none⟩ x) := by
  obtain ⟨arr, ha, hs, hf⟩ := h.blk
  have ha' := (hb.block g (heap_lt ha)).trans ha
  have hmv : ∀ b, g < b → (w'.setCell ⟨g, k, none⟩ x).heap[b]? = w'.heap[b]? := fun b hb => Below.heap_setCell _ _ _ _ (by show b ≠ g; omega)
  refine ⟨(below_trans h.below hb).setCell h.hg _, h.hg, _, heap_setCell_row ha' x, by simp [hs], fun i j hi hj => ?_⟩
  by_cases hik : i = k
  · subst hik
    exact ⟨x, by simp [Array.getElem?_setIfInBounds, hs, hk], (hx j hj).move hmv⟩
  · obtain ⟨y, hy, hJ⟩ := hf i j (by omega) hj
    refine ⟨y, ?_, (hJ.keep hb).move hmv⟩
    rw [Array.getElem?_setIfInBounds, if_neg (by omega)]
    exact hy
theorem Filled.done (h : Filled w g n n js wr) (hn : js.length = n) : ∃ f' : Nat → Value, RowAt wr (fun b => w.heap.size ≤ b) 1 (some ⟨g, 0, none⟩) n (fun i => [f' i]) ∧ ∀ (i : Nat) (j : J), js[i]? = some j → Jr wr (fun b => w.heap.size ≤ b) j (f' i) := by
  obtain ⟨arr, ha, hs, hf⟩ := h.blk
  have hg := h.hg
  refine ⟨fun i => arr.getD i undef, fun _ => ⟨_, rfl, hg, fun i j u hi hu => ?_⟩, fun i j hj => ?_⟩
  · match j, hu with
    | 0, hu =>
      simp only [List.getElem?_cons_zero, Option.some.injEq] at hu
      subst hu
      have e : (⟨g, 0, none⟩ : Addr).add (i * 1 + 0) = ⟨g, i, none⟩ := by
        unfold Addr.add
        split
        · rename_i h0; have : i = 0 := by omega
          subst this; rfl
        · simp
      rw [e]
      simp [World.cell?, ha, hs, hi]
    | j + 1, hu => simp at hu
  · have hi : i < n := by
      rw [← hn]; exact (List.getElem?_eq_some_iff.1 hj).1
    obtain ⟨x, hx, hJ⟩ := hf i j hi hj
    have : arr.getD i undef = x := by simp [Array.getD_eq_getD_getElem?, hx]
    simp only [this]
    exact hJ.mono fun b hb => by omega
end

def ToGoPost (v : V) (w : World) (e : Ending) (w' : World) : Prop := ∃ x, e = .returned (.tuple #[x, .bool true]) ∧ Jr w' (fun b => w.heap.size ≤ b) v.j x ∧ Below w.heap.size w w'
def ToGoIH (n : Nat) : Prop := ∀ v ok cs w, SizeOf.sizeOf v < n → WF v → Sm v → Vr w ok v cs → Calls Tryz.prog 47 #[.agg cs.toArray] w (ToGoPost v w)
def ListToGoPost (l : List V) (w : World) (e : Ending) (w' : World) : Prop := ∃ (A' : Option Addr) (f' : Nat → Value), e = .returned (.tuple #[.slice A' l.length l.length, .bool true]) ∧
      RowAt w' (fun b => w.heap.size ≤ b) 1 A' l.length (fun i => [f' i]) ∧ (∀ (i : Nat) (j : J), (V.js l)[i]? = some j → Jr w' (fun b => w.heap.size ≤ b) j (f' i)) ∧ Below w.heap.size w w'

theorem js_get {l : List V} {i : Nat} {j : J} (h : (V.js l)[i]? = some j) {v : V} (hv : l[i]? = some v) : j = v.j := by
  rw [V.js_map, List.getElem?_map, hv] at h
  simpa using h.symm
theorem js_len (l : List V) : (V.js l).length = l.length := by rw [V.js_map, List.length_map]

theorem listToGo_one (n : Nat) (ih : ToGoIH n)
    (l : List V) (ok : Nat → Prop) (A : Option Addr) (c : Nat) (f : Nat → List Value) (w : World) (hn : ∀ v, v ∈ l → SizeOf.sizeOf v < n) (hw : ∀ v, v ∈ l → WF v) (hp : l.length ≤ 1000000) (hsm : ∀ v, v ∈ l → Sm v)
    (r : RowAt w ok 6 A l.length f) (e : ∀ (i : Nat) (v : V), l[i]? = some v → Vr w ok v (f i)) :
    Calls Tryz.prog 91 #[.slice A l.length c] w (ListToGoPost l w) := by
  have hmk := run_make_row' (P := Tryz.prog) 62 20 .nilIface 16 Tryz.underlying62 info20 rfl .i64 .i64 l.length (by omega) (by omega)
  go_enter Tryz.func91, Tryz.ntmps91
  go_wp2_with fail
  go_loopw [14] (fun i wr => ∃ k : Nat, k ≤ l.length ∧ i = .int .i64 k ∧ Filled w w.heap.size l.length k (V.js l) wr) (fun i _ => l.length - (intOf i).toNat)
  case atStart => exact ⟨0, Nat.zero_le _, rfl, Filled.start _ _ _⟩
  case round =>
    obtain ⟨k, hk, rfl, hrel⟩ := hrel
    by_cases hlt : k < l.length
    · have hl : l[k]? = some l[k] := List.getElem?_eq_getElem hlt
      have hV := e k _ hl
      obtain ⟨ad, hA, _, hc0⟩ := r (by omega)
      subst hA
      have hc := fun j u hu => cell_kept hrel.below (hc0 k j u hlt hu)
      clear hc0
      have hV := Vr.keep hrel.below hV
      generalize f k = cs at hV hc
      generalize l[k] = v at hV hl
      have HV := Lib.hid hV
      have HL := Lib.hid hl
      clear hl
      obtain ⟨k', h', t', l', ks', vs', A1, c1, A2, c2, A3, c3, f1, g1, ht, h1, h2, h3, b1, b2, b3, hk', hh', hs', r1, e1, r2, r3, e3⟩ := hV
      obtain ⟨q0, q1, q2, q3, q4, q5⟩ := cells6 hc
      clear hc
      go_wp2_with fail
      refine (ih _ _ _ _ (hn _ (List.mem_of_getElem? HL.out)) (hw _ (List.mem_of_getElem? HL.out)) (hsm _ (List.mem_of_getElem? HL.out)) (Vr.keep ((Below.refl _ _).alloc (Nat.le_refl _) _) HV.out)).mono ?_
      rintro e' w' ⟨x, rfl, hx, hb⟩
      have hb1 := below_trans ((Below.refl wr.heap.size wr).alloc (Nat.le_refl _) _) hb
      obtain ⟨u, hcell⟩ := hrel.cell hb1 hlt
      have hfr := hrel.frozen (k := k) hb1
      have hstep := hrel.step hb1 hlt (x := x) (fun j hj => by
        rw [js_get hj HL.out]
        refine hx.mono fun b hb => ?_
        have := hrel.lt
        simp at hb
        omega)
      clear q0 q1 q2 q3 q4 q5
      rcases hx.form with rfl | ⟨t, y, rfl⟩
      all_goals
        go_wp2_with fail
        go_roundw
        case rel => exact ⟨k + 1, by omega, by go_num, hstep⟩
        case measure => simp [intOf]; omega
    · have hkn : k = l.length := by omega
      subst hkn
      go_wp2_with fail
      go_ret2
      obtain ⟨f', hr, hj⟩ := hrel.done (js_len l)
      exact ⟨_, f', rfl, hr, hj, hrel.below⟩
end Go.Proofs.YtpamlgdcnmcedaaGreatDoor
