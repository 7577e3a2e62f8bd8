/- spec.looker: part, want, str. -/
import Derived.Test.YtpamlgdcnmcedaaGreatDoorIt
import Derived.Test.YtpamlgdcnmcedaaGreatDoorD
import Derived.Lib.Hide
import Derived.WalkKit
import Derived.OwnWalk
import Derived.Test.YtpamlgdcnmcedaaGreatDoorC1
set_option linter.unusedVariables false
set_option linter.unusedSimpArgs false
set_option maxRecDepth 100000
namespace Go.Proofs.YtpamlgdcnmcedaaGreatDoor
open Go Go.RowKit
/-- A looker in block g. -/
def Looks (w : World) (g : Nat) (p q : Int) (b : Bool) : Prop := w.heap[g]? = some (.cells #[.int .i64 p, .int .i64 q, .bool b] 65 (0, 0))
theorem looks_set {w : World} {g : Nat} {p q : Int} {b : Bool} (h : Looks w g p q b) (c : Bool) : Looks (w.setCell ⟨g, 2, none⟩ (.bool c)) g p q c ∧ w.grownBy (w.setCell ⟨g, 2, none⟩ (.bool c)) (some g) := by
  refine ⟨?_, ⟨rfl, rfl, rfl, by simp [World.setCell], fun k _ hk => Below.heap_setCell _ _ _ _ (fun e => hk (by rw [e]))⟩⟩
  have h' : w.heap[g]? = _ := h
  unfold Looks
  simp [World.setCell, Array.getElem?_modify, h']
theorem grown_trans {a b c : World} {row : Option Nat} (h : a.grownBy b row) (k : b.grownBy c row) : a.grownBy c row :=
  ⟨k.os.trans h.os, k.tape.trans h.tape, k.output.trans h.output, Nat.le_trans h.size k.size, fun i hi hne => (k.block i (Nat.lt_of_lt_of_le hi h.size) hne).trans (h.block i hi hne)⟩
theorem want_any (g : Nat) (p q : Int) (b c : Bool) (w : World) (h : Looks w g p q b) : Calls Tryz.prog 96 #[.pointer (some ⟨g, 0, none⟩), .bool c] w fun e w' => e = .returned (.tuple #[]) ∧ Looks w' g p q (b || !c) ∧ w.grownBy w' (some g) := by
  have x0 : w.cell? ⟨g, 0, none⟩ = some (.int .i64 p) := by simp [World.cell?, show w.heap[g]? = _ from h]
  have x2 : w.cell? ⟨g, 2, none⟩ = some (.bool b) := by simp [World.cell?, show w.heap[g]? = _ from h]
  have xf : w.frozen? ⟨g, 2, none⟩ = false := by simp [World.frozen?, show w.heap[g]? = _ from h]
  have H := Lib.hid h
  clear h
  cases b <;> cases c
  all_goals
    go_enter Tryz.func96, Tryz.ntmps96
    go_wp2_with fail
    go_end0
    exact ⟨rfl, looks_set H.out _⟩
theorem looks_bad {w : World} {g : Nat} {p q : Int} {b : Bool} (h : Looks w g p q b) : w.cell? ⟨g, 2, none⟩ = some (.bool b) := by simp [World.cell?, show w.heap[g]? = _ from h]
theorem part_any (g : Nat) (p q d : Int) (b : Bool) (w : World) (h : Looks w g p q b) (hp : 0 ≤ p ∧ p ≤ 1000000) : Calls Tryz.prog 95 #[.pointer (some ⟨g, 0, none⟩), .int .i64 d] w fun e w' =>
    e = .returned (.bool (!(b || !(decide (p + 1 ≤ 400) && decide (q ≤ 2000) && decide (d ≤ 60))))) ∧ Looks w' g (p + 1) q (b || !(decide (p + 1 ≤ 400) && decide (q ≤ 2000) && decide (d ≤ 60))) ∧ w.grownBy w' (some g) := by
  have x0 : w.cell? ⟨g, 0, none⟩ = some (.int .i64 p) := by simp [World.cell?, show w.heap[g]? = _ from h]
  have x1 : w.cell? ⟨g, 1, none⟩ = some (.int .i64 q) := by simp [World.cell?, show w.heap[g]? = _ from h]
  have x2 : w.cell? ⟨g, 2, none⟩ = some (.bool b) := by simp [World.cell?, show w.heap[g]? = _ from h]
  have xf : ∀ i, w.frozen? ⟨g, i, none⟩ = false := fun i => by simp [World.frozen?, show w.heap[g]? = _ from h]
  have hl : Looks (w.setCell ⟨g, 0, none⟩ (.int .i64 (p + 1))) g (p + 1) q b ∧ w.grownBy (w.setCell ⟨g, 0, none⟩ (.int .i64 (p + 1))) (some g) := by
    refine ⟨?_, ⟨rfl, rfl, rfl, by simp [World.setCell], fun k _ hk => Below.heap_setCell _ _ _ _ (fun e => hk (by rw [e]))⟩⟩
    have h' : w.heap[g]? = _ := h
    unfold Looks
    simp [World.setCell, Array.getElem?_modify, h']
  have HL := Lib.hid hl
  clear hl h
  cases h1 : decide (p + 1 ≤ 400) <;> cases h2 : decide (q ≤ 2000) <;> cases h3 : decide (d ≤ 60) <;> cases b
  all_goals
    have H1 := Lib.hid h1
    have H2 := Lib.hid h2
    have H3 := Lib.hid h3
    have p1 := h1
    have p2 := h2
    have p3 := h3
    simp only [decide_eq_true_eq, decide_eq_false_iff_not] at p1 p2 p3
    clear h1 h2 h3
    go_enter Tryz.func95, Tryz.ntmps95
    go_wp2_with fail
    refine (want_any g (p + 1) q _ _ _ HL.out.1).mono ?_
    rintro e' w' ⟨rfl, hk, hg⟩
    have x2' := looks_bad hk
    have HK := Lib.hid hk
    have HG := Lib.hid hg
    clear hk hg x0 x1 x2
    simp only [Bool.or_true, Bool.true_or, Bool.or_false, Bool.false_or, Bool.not_true, Bool.not_false] at x2'
    go_wp2_with fail
    go_ret
    exact ⟨rfl, by simpa using HK.out, grown_trans HL.out.2 HG.out⟩
theorem str_any (g : Nat) (p q : Int) (b : Bool) (s : ByteArray) (w : World) (h : Looks w g p q b) (hq : 0 ≤ q ∧ q ≤ 1000000000000000) (hs : s.size ≤ 140737488351232) (hT : ∀ w', w.grownBy w' (some g) → Lib.Utf8Tabs 0 1 w') :
    Calls Tryz.prog 97 #[.pointer (some ⟨g, 0, none⟩), .string s] w fun e w' => e = .returned (.tuple #[]) ∧ Looks w' g p (q + s.size) (b || !(decide (q + s.size ≤ 2000) && Lib.validD s.data.toList)) ∧ w.grownBy w' (some g) := by
  have x1 : w.cell? ⟨g, 1, none⟩ = some (.int .i64 q) := by simp [World.cell?, show w.heap[g]? = _ from h]
  have xf : ∀ i, w.frozen? ⟨g, i, none⟩ = false := fun i => by simp [World.frozen?, show w.heap[g]? = _ from h]
  have hl : Looks (w.setCell ⟨g, 1, none⟩ (.int .i64 (q + s.size))) g p (q + s.size) b ∧ w.grownBy (w.setCell ⟨g, 1, none⟩ (.int .i64 (q + s.size))) (some g) := by
    refine ⟨?_, ⟨rfl, rfl, rfl, by simp [World.setCell], fun k _ hk => Below.heap_setCell _ _ _ _ (fun e => hk (by rw [e]))⟩⟩
    have h' : w.heap[g]? = _ := h
    unfold Looks
    simp [World.setCell, Array.getElem?_modify, h']
  have HL := Lib.hid hl
  have HT := Lib.hid hT
  clear hl h hT
  by_cases h1 : q + s.size ≤ 2000
  · have H1 := Lib.hid h1
    go_enter Tryz.func97, Tryz.ntmps97
    go_wp2_with fail
    refine (validString_any s _ (by omega) (HT.out _ HL.out.2)).mono ?_
    rintro e' w' ⟨rfl, hb⟩
    have hl' : Looks w' g p (q + s.size) b := (hb.block _ (Array.getElem?_eq_some_iff.1 HL.out.1).1).trans HL.out.1
    have hg' : w.grownBy w' (some g) := grown_trans HL.out.2 ⟨hb.os, hb.tape, hb.output, hb.size, fun k hk _ => hb.block k hk⟩
    have HL' := Lib.hid hl'
    have HG' := Lib.hid hg'
    clear hl' hg' hb
    generalize hv : Lib.validD s.data.toList = v
    have HV := Lib.hid hv
    clear hv
    go_wp2_with fail
    refine (want_any g p (q + s.size) b _ w' HL'.out).mono ?_
    rintro e' w2 ⟨rfl, hk, hg⟩
    have HK := Lib.hid hk
    have HG := Lib.hid hg
    clear hk hg
    go_wp2_with fail
    go_end0
    exact ⟨rfl, by rw [decide_eq_true H1.out, HV.out, Bool.true_and]; exact HK.out, grown_trans HG'.out HG.out⟩
  · have H1 := Lib.hid h1
    go_enter Tryz.func97, Tryz.ntmps97
    go_wp2_with fail
    refine (want_any g p (q + s.size) b _ _ HL.out.1).mono ?_
    rintro e' w2 ⟨rfl, hk, hg⟩
    have HK := Lib.hid hk
    have HG := Lib.hid hg
    clear hk hg
    go_wp2_with fail
    go_end0
    exact ⟨rfl, by rw [decide_eq_false (show ¬ (q + s.size ≤ 2000) by have := H1.out; omega), Bool.false_and]; exact HK.out, grown_trans HL.out.2 HG.out⟩
end Go.Proofs.YtpamlgdcnmcedaaGreatDoor
