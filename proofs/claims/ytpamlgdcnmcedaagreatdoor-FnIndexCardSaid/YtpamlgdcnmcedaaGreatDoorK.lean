/- The keys of a map in memory, and sorted. -/
import Derived.Test.YtpamlgdcnmcedaaGreatDoorD
import Derived.Test.YtpamlgdcnmcedaaGreatDoorS
import Derived.Test.YtpamlgdcnmcedaaGreatDoorIt
set_option linter.unusedVariables false
set_option linter.unusedSimpArgs false
set_option maxRecDepth 100000
namespace Go.Proofs.YtpamlgdcnmcedaaGreatDoor
open Go Go.RowKit

/-- How a map's value is read: not at all. -/
def noElem : Value → Option (DataW Unit × List MemPlace) := fun _ => some (.lit (.bool true), [])
theorem keyOf_9 (s : ByteArray) (hs : s.size ≤ maxLen) : keyOf Tryz.prog 9 (.string s) = some (.string s.data.toList) := by
  have h9 : Tryz.prog.underlying 9 = some .string := Tryz.underlying9
  simp [keyOf, mapKey, h9]
  exact hs
theorem sorted_list (ks : List ByteArray) (hs : sortedS ks) : (ks.map (fun s => s.data.toList)).mergeSort leB = ks.map (fun s => s.data.toList) := by
  refine List.mergeSort_of_pairwise (List.pairwise_map.2 ?_)
  rw [List.pairwise_iff_getElem]
  intro i j hi hj hij
  have := sortedS_lt hs i ks[i] (List.getElem?_eq_getElem hi) (j - i - 1) ks[j] (by rw [show i + 1 + (j - i - 1) = j from by omega]; exact List.getElem?_eq_getElem hj)
  rw [bl_lt, decide_eq_true_eq, ByteArray.toList_eq, ByteArray.toList_eq] at this
  simp only [leB, decide_eq_true_eq]
  exact List.le_of_lt this
theorem sub_back {α : Type} [DecidableEq α] : ∀ (l l' : List α), l.Nodup → (∀ a, a ∈ l → a ∈ l') → l'.length ≤ l.length → ∀ a, a ∈ l' → a ∈ l
  | [], l', _, _, hl, a, ha => by
    have : l' = [] := List.eq_nil_of_length_eq_zero (by simpa using hl)
    rw [this] at ha
    exact ha
  | x :: t, l', hn, hs, hl, a, ha => by
    rw [List.nodup_cons] at hn
    by_cases hax : a = x
    · rw [hax]; exact List.mem_cons_self
    · have hx : x ∈ l' := hs x List.mem_cons_self
      refine List.mem_cons_of_mem _ (sub_back t (l'.erase x) hn.2 (fun b hb => ?_) ?_ a ((List.mem_erase_of_ne hax).2 ha))
      · exact (List.mem_erase_of_ne (fun e => hn.1 (by rw [← e]; exact hb))).2 (hs b (List.mem_cons_of_mem _ hb))
      · rw [List.length_erase_of_mem hx]
        simp at hl
        omega
theorem perm_of_sub {α : Type} [DecidableEq α] {l l' : List α} (hn : l.Nodup) (hn' : l'.Nodup) (hs : ∀ a, a ∈ l → a ∈ l') (hl : l.length = l'.length) : l.Perm l' :=
  (List.perm_ext_iff_of_nodup hn hn').2 fun a => ⟨hs a, sub_back l l' hn hs (by omega) a⟩

theorem map_keys {w : World} {b : Nat} {es : Array MapEntry} {clock : Nat} {ks : List ByteArray} (hb : w.heap[b]? = some (.map es clock)) (hn : es.size = ks.length) (hnd : ks.Nodup)
    (he : ∀ e, e ∈ es.toList → ∃ s, e.key = .string s ∧ s ∈ ks) (hst : MapKept.Stamped es clock) (hz : ∀ s, s ∈ ks → s.size ≤ maxLen) (hmax : ks.length ≤ maxLen) (hs : sortedS ks) :
    ∃ D0 : DataW Unit, w.ownsMap Tryz.prog 9 noElem b ks.length D0 ∧ Maps.size D0 = ks.length ∧ ∀ ss : List (List UInt8), ss.Perm (strKeys D0) → ss.length = ks.length ∧ (ss.mergeSort leB).map encStr = ks.map .string := by
  have hrd : ∀ e, e ∈ es.toList → ∃ s, s ∈ ks ∧ e.key = .string s ∧ WideElems.rd Tryz.prog 9 noElem e = some (.string s.data.toList, .lit (.bool true)) := fun e hee => by
    obtain ⟨s, hk, hm⟩ := he e hee
    exact ⟨s, hm, hk, by unfold WideElems.rd; rw [hk, keyOf_9 s (hz s hm)]; rfl⟩
  refine ⟨_, ⟨es, clock, hb, ⟨by omega, hst, fun e hee => ?_⟩, by omega, rfl⟩, ?_, fun ss hp => ?_⟩
  · obtain ⟨s, _, _, h⟩ := hrd e hee
    exact ⟨_, h⟩
  · rw [Maps.size_eq, length_sorted]; simp [hn]
  · -- the keys of the entries are those of ks
    have hperm : (es.toList.map (fun e => match e.key with | .string s => s | _ => ⟨#[]⟩)).Perm ks := by
      have hks : (es.toList.map (·.key)).Nodup := hst.2.2
      refine perm_of_sub ?_ hnd (fun a ha => ?_) (by simp [hn])
      · rw [List.Nodup, List.pairwise_map] at hks ⊢
        refine hks.imp_of_mem fun {x y} hx hy hne e => hne ?_
        obtain ⟨s, h1, _⟩ := he x hx
        obtain ⟨s', h2, _⟩ := he y hy
        simp only [h1, h2] at e ⊢
        rw [e]
      · obtain ⟨e, hee, rfl⟩ := List.mem_map.1 ha
        obtain ⟨s, h1, h2⟩ := he e hee
        simp only [h1]; exact h2
    have h1 : (strKeys (H := Unit) (.map ((es.toList.map (WideElems.rg Tryz.prog 9 noElem)).foldr DataW.insert []))).Perm (ks.map fun s => s.data.toList) := by
      show (((es.toList.map (WideElems.rg Tryz.prog 9 noElem)).foldr DataW.insert []).map fun p => strOf p.1).Perm _
      refine ((WideShapes.sorted_perm _).map _).trans ?_
      rw [List.map_map]
      refine List.Perm.trans (.of_eq ?_) (hperm.map fun s => s.data.toList)
      rw [List.map_map]
      refine List.map_congr_left fun e hee => ?_
      obtain ⟨s, _, hk, hr⟩ := hrd e hee
      simp only [Function.comp, WideElems.rg, hr, hk, Option.getD_some, strOf]
    have h2 := hp.trans h1
    refine ⟨by rw [h2.length_eq, List.length_map], ?_⟩
    rw [show (ss.mergeSort leB) = _ from mergeSort_of_perm h2, sorted_list ks hs, List.map_map]
    refine List.map_congr_left fun s _ => ?_
    simp [encStr]
end Go.Proofs.YtpamlgdcnmcedaaGreatDoor
