/- Maps keyed by strings: what findKey, lookup and mapUpdate come to. -/
import Derived.Test.YtpamlgdcnmcedaaGreatDoorG1
import Derived.Laws.StructEq
set_option linter.unusedVariables false
set_option linter.unusedSimpArgs false
set_option maxRecDepth 100000
namespace Go.Proofs.YtpamlgdcnmcedaaGreatDoor
open Go Go.RowKit
/-- The first entry of a key, with its place. -/
def lookS : List MapEntry → ByteArray → Nat → Option (Nat × Value)
  | [], _, _ => none
  | e :: es, s, i => match e.key with
    | .string s' => if s = s' then some (i, e.val) else lookS es s (i + 1)
    | _ => lookS es s (i + 1)
def AllS (es : List MapEntry) : Prop := ∀ e, e ∈ es → ∃ s, e.key = .string s
theorem bytes_eq (a b : ByteArray) : (a == b) = decide (a = b) := by
  rw [Bool.eq_iff_iff]
  simp only [decide_eq_true_eq]
  rw [beq_toListBytes, beq_iff_eq, ByteArray.toList_eq, ByteArray.toList_eq]
  constructor
  · intro h
    rcases a with ⟨⟨a⟩⟩; rcases b with ⟨⟨b⟩⟩
    simpa using h
  · rintro rfl; rfl
theorem findNow_S (s : ByteArray) : ∀ (es : List MapEntry) (i : Nat), AllS es → Instr.findNow .string (.string s) es i = some (lookS es s i)
  | [], i, _ => rfl
  | e :: es, i, h => by
    obtain ⟨s', hs⟩ := h e (List.mem_cons_self)
    unfold Instr.findNow lookS
    simp only [hs, Instr.sameNow]
    by_cases he : s = s'
    · simp [he, bytes_eq]
    · rw [if_neg he]
      have : (s == s') = false := by rw [bytes_eq]; simpa using he
      rw [this]
      exact findNow_S s es (i + 1) fun e' h' => h e' (List.mem_cons_of_mem _ h')
theorem run_findKey (s : ByteArray) (es : List MapEntry) (h : AllS es) (w : World) : (Instr.findKey 9 (.string s) es).run Tryz.prog w = .ok (lookS es s 0) w := by
  unfold Instr.findKey
  simp [run_underlying Tryz.underlying9, findNow_S s es 0 h]
theorem run_checkKey (b : Bool) (s : ByteArray) (w : World) : (Instr.checkKey b 10000 9 (.string s)).run Tryz.prog w = .ok () w := by kernel_rfl
theorem lookS_snd (s : ByteArray) : ∀ (es : List MapEntry) (i : Nat), AllS es → (lookS es s i).map (·.2) = getS es s
  | [], _, _ => rfl
  | e :: es, i, h => by
    obtain ⟨s', hs⟩ := h e List.mem_cons_self
    have ih := lookS_snd s es (i + 1) fun e' h' => h e' (List.mem_cons_of_mem _ h')
    simp only [lookS, getS, hs]
    by_cases he : s = s'
    · simp [he]
    · simp only [if_neg he]; exact ih
theorem lookS_none {s : ByteArray} : ∀ {es : List MapEntry} (i : Nat), (∀ e, e ∈ es → e.key ≠ .string s) → lookS es s i = none
  | [], _, _ => rfl
  | e :: es, i, h => by
    have h0 := h e List.mem_cons_self
    have hr := lookS_none (s := s) (es := es) (i + 1) fun e' h' => h e' (List.mem_cons_of_mem _ h')
    unfold lookS
    split
    · rename_i s' hs
      rw [if_neg (fun he => h0 (by rw [he, hs]))]
      exact hr
    · exact hr
def World.put (w : World) (b : Nat) (o : Obj) : World := { w with heap := w.heap.setIfInBounds b o }
theorem heap_put {w : World} {b : Nat} {o : Obj} (h : b < w.heap.size) : (World.put w b o).heap[b]? = some o := by
  simp [World.put, Array.getElem?_setIfInBounds, h]
theorem heap_put_other {w : World} {b k : Nat} {o : Obj} (h : k ≠ b) : (World.put w b o).heap[k]? = w.heap[k]? := by
  simp only [World.put, Array.getElem?_setIfInBounds]
  rw [if_neg (fun e => h e.symm)]
theorem below_put {B : Nat} {a w : World} (h : Below B a w) {b : Nat} (hb : B ≤ b) (o : Obj) : Below B a (World.put w b o) :=
  h.trans ⟨rfl, rfl, rfl, by simp [World.put], fun k hk => heap_put_other (by omega)⟩
/-- A new key. -/
theorem run_mapUpdate_new {w : World} {b : Nat} {es : Array MapEntry} {clock : Nat} (hb : w.heap[b]? = some (.map es clock)) (hall : AllS es.toList) {s : ByteArray} (hn : ∀ e, e ∈ es.toList → e.key ≠ .string s) (x : Value) :
    (Instr.mapUpdate 85 (.map (some b)) (.string s) x).run Tryz.prog w = .ok () (World.put w b (.map (es.push { key := .string s, val := x, born := clock }) (clock + 1))) := by
  unfold Instr.mapUpdate
  simp [run_underlying Tryz.underlying85, getObj, setObj, Sem.run, hb, run_checkKey, run_findKey s _ hall, lookS_none 0 hn, World.put]
theorem zero20 (w : World) : (zeroValue 20).run Tryz.prog w = .ok .nilIface w := by kernel_rfl
/-- 'm[k]'. -/
theorem run_lookup_S {w : World} {b : Nat} {es : Array MapEntry} {clock : Nat} (hb : w.heap[b]? = some (.map es clock)) (hall : AllS es.toList) (s : ByteArray) :
    (Instr.lookup 85 (.map (some b)) (.string s) false).run Tryz.prog w = .ok ((getS es.toList s).getD .nilIface) w := by
  have hl := lookS_snd s es.toList 0 hall
  unfold Instr.lookup
  simp [run_underlying Tryz.underlying85, getObj, Sem.run, hb, run_checkKey, run_findKey s _ hall]
  rw [← hl]
  cases lookS es.toList s 0 with
  | none => simp [zero20]
  | some p => obtain ⟨i, v⟩ := p; simp
end Go.Proofs.YtpamlgdcnmcedaaGreatDoor
