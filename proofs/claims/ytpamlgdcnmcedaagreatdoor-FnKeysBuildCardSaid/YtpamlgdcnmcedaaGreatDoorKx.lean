/- laws.container, laws.listedC. sort.Strings; gojq.keys. impl.Index at a key; impl.Length of an empty container; impl.SetPath of one key. laws.FnKeysBuild: the walk. -/
import Derived.Test.YtpamlgdcnmcedaaGreatDoorUt
import Derived.Test.YtpamlgdcnmcedaaGreatDoorH2a
import Derived.Test.YtpamlgdcnmcedaaGreatDoorK
import Derived.Sort.OwnSorted
import Derived.Deep.OwnRows
set_option linter.unusedVariables false
set_option linter.unusedSimpArgs false
set_option maxRecDepth 100000
namespace Go.Proofs.YtpamlgdcnmcedaaGreatDoor
open Go Go.RowKit
theorem container_any (v : V) (ok : Nat → Prop) (cs : List Value) (w : World) (hv : Vr w ok v cs) : Calls Tryz.prog 32 #[.agg cs.toArray] w fun e w' => e = .returned (.bool (v.kind == 5 || v.kind == 6)) ∧ Below w.heap.size w w' := by
  obtain ⟨k, h, t, l, ks, vs, A1, c1, A2, c2, A3, c3, f, g, i1, i2, i3, i4, i5, i6, i7, i8, i9, i10, i11, i12, i13, i14, i15⟩ := hv
  clear i1 i2 i3 i4 i5 i6 i7 i8 i9 i10 i11 i12 i13 i14 i15
  go_enter Tryz.func32, Tryz.ntmps32
  go_wp2_with fail
  all_goals
    go_ret
    exact ⟨by first | rfl | (simp [V.kind]; done) | (simp [V.kind]; omega), (Below.refl _ _).alloc (Nat.le_refl _) _⟩
theorem listedC_arr (a1 : Int) (s : ByteArray) (S3 S4 S5 : Option Addr) (n3 m3 n4 m4 n5 m5 : Nat) (w : World) :
    Calls Tryz.prog 33 #[.agg #[.int .i64 5, .int .i64 a1, .string s, .slice S3 n3 m3, .slice S4 n4 m4, .slice S5 n5 m5, .int .i64 0]] w fun e w' => e = .returned (.tuple #[.slice S3 n3 m3, .bool true]) ∧ Below w.heap.size w w' := by
  obtain ⟨W1, hW1⟩ : ∃ W1, W1 = w.alloc (.cells #[.int .i64 5, .int .i64 a1, .string s, .slice S3 n3 m3, .slice S4 n4 m4, .slice S5 n5 m5, .int .i64 0] 34) := ⟨_, rfl⟩
  have hb1 : Below w.heap.size w W1 := by rw [hW1]; exact (Below.refl _ _).alloc (Nat.le_refl _) _
  have hg : W1.heap[w.heap.size]? = some (.cells #[.int .i64 5, .int .i64 a1, .string s, .slice S3 n3 m3, .slice S4 n4 m4, .slice S5 n5 m5, .int .i64 0] 34) := by rw [hW1]; exact heap_alloc_new w _
  have hS : W1.drew.cell? ⟨w.heap.size, 0, none⟩ = some (.int .i64 5) ∧ W1.drew.cell? ⟨w.heap.size, 1, none⟩ = some (.int .i64 a1) ∧ W1.drew.cell? ⟨w.heap.size, 2, none⟩ = some (.string s) ∧ W1.drew.cell? ⟨w.heap.size, 3, none⟩ = some (.slice S3 n3 m3) ∧ W1.drew.cell? ⟨w.heap.size, 4, none⟩ = some (.slice S4 n4 m4) ∧ W1.drew.cell? ⟨w.heap.size, 5, none⟩ = some (.slice S5 n5 m5) ∧ W1.drew.cell? ⟨w.heap.size, 6, none⟩ = some (.int .i64 0) := by
    have hg : W1.drew.heap[w.heap.size]? = some (.cells #[.int .i64 5, .int .i64 a1, .string s, .slice S3 n3 m3, .slice S4 n4 m4, .slice S5 n5 m5, .int .i64 0] 34) := hg
    refine ⟨?_, ?_, ?_, ?_, ?_, ?_, ?_⟩ <;> simp [World.cell?, hg]
  have HW1 := Lib.hid hW1
  have HB1 := Lib.hid hb1
  have HS := Lib.hid hS
  clear hW1 hb1 hg hS
  go_enter Tryz.func33, Tryz.ntmps33
  go_upto_region 1 with fail
  rw [← HW1.out]
  refine wp_region_held_drew (S := fun W => W.cell? ⟨w.heap.size, 0, none⟩ = some (.int .i64 5) ∧ W.cell? ⟨w.heap.size, 1, none⟩ = some (.int .i64 a1) ∧ W.cell? ⟨w.heap.size, 2, none⟩ = some (.string s) ∧ W.cell? ⟨w.heap.size, 3, none⟩ = some (.slice S3 n3 m3) ∧ W.cell? ⟨w.heap.size, 4, none⟩ = some (.slice S4 n4 m4) ∧ W.cell? ⟨w.heap.size, 5, none⟩ = some (.slice S5 n5 m5) ∧ W.cell? ⟨w.heap.size, 6, none⟩ = some (.int .i64 0)) (by kernel_rfl) HS.out (fun _ => ?_)
  refine wpAnyH_take (i := 0) (v := .pointer (some ⟨w.heap.size, 0, none⟩)) rfl (by kernel_rfl) (by kernel_rfl) (by kernel_rfl) (fun _ _ _ h => h) (Or.inl ⟨by rfl, ?_⟩) HS.out ?_
  · intro W hSw
    obtain ⟨x0, x1, x2, x3, x4, x5, x6⟩ := hSw
    go_simp
  simp only [List.getElem_toArray, List.getElem_cons_zero, List.getElem_cons_succ, Act.put, List.setIfInBounds_toArray, List.set_cons_zero, List.set_cons_succ]
  refine wpAnyH_take (i := 1) (v := .pointer (some ⟨w.heap.size, 3, none⟩)) rfl (by kernel_rfl) (by kernel_rfl) (by kernel_rfl) (fun _ _ _ h => h) (Or.inl ⟨by rfl, ?_⟩) HS.out ?_
  · intro W hSw
    obtain ⟨x0, x1, x2, x3, x4, x5, x6⟩ := hSw
    go_simp
  simp only [List.getElem_toArray, List.getElem_cons_zero, List.getElem_cons_succ, Act.put, List.setIfInBounds_toArray, List.set_cons_zero, List.set_cons_succ]
  refine wpAnyH_take (i := 2) (v := .slice S3 n3 m3) rfl (by kernel_rfl) (by kernel_rfl) (by kernel_rfl) (fun _ _ _ h => h) (Or.inl ⟨by rfl, ?_⟩) HS.out ?_
  · intro W hSw
    obtain ⟨x0, x1, x2, x3, x4, x5, x6⟩ := hSw
    go_simp
  simp only [List.getElem_toArray, List.getElem_cons_zero, List.getElem_cons_succ, Act.put, List.setIfInBounds_toArray, List.set_cons_zero, List.set_cons_succ]
  refine wpAnyH_take (i := 3) (v := .pointer (some ⟨w.heap.size, 6, none⟩)) rfl (by kernel_rfl) (by kernel_rfl) (by kernel_rfl) (fun _ _ _ h => h) (Or.inl ⟨by rfl, ?_⟩) HS.out ?_
  · intro W hSw
    obtain ⟨x0, x1, x2, x3, x4, x5, x6⟩ := hSw
    go_simp
  simp only [List.getElem_toArray, List.getElem_cons_zero, List.getElem_cons_succ, Act.put, List.setIfInBounds_toArray, List.set_cons_zero, List.set_cons_succ]
  refine wpAnyH_take (i := 4) (v := .int .i64 0) rfl (by kernel_rfl) (by kernel_rfl) (by kernel_rfl) (fun _ _ _ h => h) (Or.inl ⟨by rfl, ?_⟩) HS.out ?_
  · intro W hSw
    obtain ⟨x0, x1, x2, x3, x4, x5, x6⟩ := hSw
    go_simp
  simp only [List.getElem_toArray, List.getElem_cons_zero, List.getElem_cons_succ, Act.put, List.setIfInBounds_toArray, List.set_cons_zero, List.set_cons_succ]
  refine wpAnyH_take (i := 5) (v := .bool true) rfl (by kernel_rfl) (by kernel_rfl) (by kernel_rfl) (fun _ _ _ h => h) (Or.inl ⟨by rfl, ?_⟩) HS.out ?_
  · intro W hSw
    obtain ⟨x0, x1, x2, x3, x4, x5, x6⟩ := hSw
    go_simp
  simp only [List.getElem_toArray, List.getElem_cons_zero, List.getElem_cons_succ, Act.put, List.setIfInBounds_toArray, List.set_cons_zero, List.set_cons_succ]
  refine wpAnyH_take (i := 6) (v := .bool true) rfl (by kernel_rfl) (by kernel_rfl) (by kernel_rfl) (fun _ _ _ h => h) (Or.inl ⟨by rfl, ?_⟩) HS.out ?_
  · intro W hSw
    obtain ⟨x0, x1, x2, x3, x4, x5, x6⟩ := hSw
    go_simp
  simp only [List.getElem_toArray, List.getElem_cons_zero, List.getElem_cons_succ, Act.put, List.setIfInBounds_toArray, List.set_cons_zero, List.set_cons_succ]
  refine wpAnyH_take (i := 7) (v := .pointer (some ⟨w.heap.size, 0, none⟩)) rfl (by kernel_rfl) (by kernel_rfl) (by kernel_rfl) (fun _ _ _ h => h) (Or.inl ⟨by rfl, ?_⟩) HS.out ?_
  · intro W hSw
    obtain ⟨x0, x1, x2, x3, x4, x5, x6⟩ := hSw
    go_simp
  simp only [List.getElem_toArray, List.getElem_cons_zero, List.getElem_cons_succ, Act.put, List.setIfInBounds_toArray, List.set_cons_zero, List.set_cons_succ]
  refine wpAnyH_take (i := 8) (v := .pointer (some ⟨w.heap.size, 0, none⟩)) rfl (by kernel_rfl) (by kernel_rfl) (by kernel_rfl) (fun _ _ _ h => h) (Or.inl ⟨by rfl, ?_⟩) HS.out ?_
  · intro W hSw
    obtain ⟨x0, x1, x2, x3, x4, x5, x6⟩ := hSw
    go_simp
  simp only [List.getElem_toArray, List.getElem_cons_zero, List.getElem_cons_succ, Act.put, List.setIfInBounds_toArray, List.set_cons_zero, List.set_cons_succ]
  refine wpAnyH_take (i := 9) (v := .int .i64 5) rfl (by kernel_rfl) (by kernel_rfl) (by kernel_rfl) (fun _ _ _ h => h) (Or.inl ⟨by rfl, ?_⟩) HS.out ?_
  · intro W hSw
    obtain ⟨x0, x1, x2, x3, x4, x5, x6⟩ := hSw
    go_simp
  simp only [List.getElem_toArray, List.getElem_cons_zero, List.getElem_cons_succ, Act.put, List.setIfInBounds_toArray, List.set_cons_zero, List.set_cons_succ]
  refine wpAnyH_take (i := 10) (v := .bool true) rfl (by kernel_rfl) (by kernel_rfl) (by kernel_rfl) (fun _ _ _ h => h) (Or.inl ⟨by rfl, ?_⟩) HS.out ?_
  · intro W hSw
    obtain ⟨x0, x1, x2, x3, x4, x5, x6⟩ := hSw
    go_simp
  simp only [List.getElem_toArray, List.getElem_cons_zero, List.getElem_cons_succ, Act.put, List.setIfInBounds_toArray, List.set_cons_zero, List.set_cons_succ]
  refine wpAnyH_take (i := 11) (v := .bool true) rfl (by kernel_rfl) (by kernel_rfl) (by kernel_rfl) (fun _ _ _ h => h) (Or.inl ⟨by rfl, ?_⟩) HS.out ?_
  · intro W hSw
    obtain ⟨x0, x1, x2, x3, x4, x5, x6⟩ := hSw
    go_simp
  simp only [List.getElem_toArray, List.getElem_cons_zero, List.getElem_cons_succ, Act.put, List.setIfInBounds_toArray, List.set_cons_zero, List.set_cons_succ]
  refine wpAnyH_take (i := 12) (v := .slice S3 n3 m3) rfl (by kernel_rfl) (by kernel_rfl) (by kernel_rfl) (fun _ _ _ h => h) (Or.inl ⟨by rfl, ?_⟩) HS.out ?_
  · intro W hSw
    obtain ⟨x0, x1, x2, x3, x4, x5, x6⟩ := hSw
    go_simp
  simp only [List.getElem_toArray, List.getElem_cons_zero, List.getElem_cons_succ, Act.put, List.setIfInBounds_toArray, List.set_cons_zero, List.set_cons_succ]
  refine wpAnyH_take (i := 13) (v := .bool true) rfl (by kernel_rfl) (by kernel_rfl) (by kernel_rfl) (fun _ _ _ h => h) (Or.inl ⟨by rfl, ?_⟩) HS.out ?_
  · intro W hSw
    obtain ⟨x0, x1, x2, x3, x4, x5, x6⟩ := hSw
    go_simp
  simp only [List.getElem_toArray, List.getElem_cons_zero, List.getElem_cons_succ, Act.put, List.setIfInBounds_toArray, List.set_cons_zero, List.set_cons_succ]
  refine wpAnyH_done (by kernel_rfl) ?_ _
  go_wp2_with fail
  refine bodyPost_ret (v := .tuple #[.slice S3 n3 m3, .bool true]) (by simp [results, Tryz.results33, go_sem]) rfl ?_
  exact ⟨rfl, HB1.out.drew⟩
end Go.Proofs.YtpamlgdcnmcedaaGreatDoor

set_option linter.unusedVariables false
set_option linter.unusedSimpArgs false
set_option maxRecDepth 100000
namespace Go.Proofs.YtpamlgdcnmcedaaGreatDoor
open Go Go.RowKit Go.Sort
theorem sortStrings_any (ss : List (List UInt8)) (m : Nat) (hm : ss.length = m) (g cap : Nat) (cur : Array Value) (w : World) (hb : w.heap[g]? = some (.cells cur 9 (0, 0))) (ht : cur.toList.take ss.length = ss.map encStr) (hsz : ss.length < 4611686018427387904) :
    Calls Tryz.prog 213 #[.slice (some ⟨g, 0, none⟩) m cap] w fun e w' => e = .returned (.tuple #[]) ∧ w.grownBy w' (some g) ∧ w'.heap[g]? = some (.cells (putCells encStr 0 (ss.mergeSort leB).toArray cur) 9 (0, 0)) := by
  have H := Lib.hid (AnyM.slices_Sort_string sort219 g 0 cap ss w (holds_of_block hb ht) (heap_lt hb) hsz)
  have HB := Lib.hid hb
  rw [hm] at H
  clear hb ht hsz hm
  go_enter Tryz.func213, Tryz.ntmps213
  go_wp2_with fail
  refine H.out.mono ?_
  rintro e' w' ⟨rfl, n, os, hw⟩
  have HW := Lib.hid hw
  clear hw
  go_wp2_with fail
  go_end0
  rw [HW.out]
  exact ⟨rfl, grownBy_sorted _, heap_sorted _ HB.out⟩
theorem nodup_len {α : Type} [DecidableEq α] : ∀ (l l' : List α), l.Nodup → (∀ a, a ∈ l → a ∈ l') → l.length ≤ l'.length
  | [], _, _, _ => Nat.zero_le _
  | x :: t, l', hn, hs => by
    rw [List.nodup_cons] at hn
    have hx : x ∈ l' := hs x List.mem_cons_self
    have h := nodup_len t (l'.erase x) hn.2 fun b hb => (List.mem_erase_of_ne (fun e => hn.1 (by rw [← e]; exact hb))).2 (hs b (List.mem_cons_of_mem _ hb))
    rw [List.length_erase_of_mem hx] at h
    have : 0 < l'.length := List.length_pos_of_mem hx
    simp
    omega
theorem Rng.setCell {b r g i : Nat} {es : Array MapEntry} {clock : Nat} {seen : Array Nat} {w : World} (h : Rng b r es clock seen w) (u : Value) (hb : b ≠ g) (hr : r ≠ g) : Rng b r es clock seen (w.setCell ⟨g, i, none⟩ u) := by
  obtain ⟨c0, h1, h2⟩ := h.hr
  exact ⟨(Below.heap_setCell _ _ _ _ (by show b ≠ g; exact hb)).trans h.hb, ⟨c0, (Below.heap_setCell _ _ _ _ (by show r ≠ g; exact hr)).trans h1, h2⟩, h.ne⟩
/-- The keys gathered. -/
structure KG (w : World) (g n : Nat) (es : List MapEntry) (seen : Array Nat) (ts : List ByteArray) (wr : World) : Prop where
  below : Below w.heap.size w wr
  row : ∃ arr : Array Value, wr.heap[g]? = some (.cells arr 9 (0, 0)) ∧ arr.size = n ∧ arr.toList.take ts.length = ts.map .string
  nodup : ts.Nodup
  keys : ∀ t, t ∈ ts → ∃ e, e ∈ es ∧ e.key = .string t ∧ seen.contains e.born = true
  all : ∀ e, e ∈ es → seen.contains e.born = true → ∃ t, t ∈ ts ∧ e.key = .string t
theorem KG.new {w : World} {g n : Nat} {es : List MapEntry} {clock : Nat} {seen : Array Nat} {ts : List ByteArray} {wr : World} (h : KG w g n es seen ts wr) (hn : (es.map (·.key)).Nodup) {e : MapEntry} (he : e ∈ es) (hes : seen.contains e.born = false) {t : ByteArray} (hk : e.key = .string t) : t ∉ ts := fun ht => by
  obtain ⟨e', h1, h2, h3⟩ := h.keys t ht
  have := keys_nodup hn he h1 (by rw [hk, h2])
  subst this
  rw [hes] at h3
  cases h3
theorem KG.room {w : World} {g n : Nat} {es : List MapEntry} {seen : Array Nat} {ts : List ByteArray} {wr : World} (h : KG w g n es seen ts wr) (hn : (es.map (·.key)).Nodup) (hsz : es.length = n) {e : MapEntry} (he : e ∈ es) (hes : seen.contains e.born = false) {t : ByteArray} (hk : e.key = .string t) : ts.length < n := by
  have hnew := h.new (clock := 0) hn he hes hk
  have h1 := nodup_len (t :: ts) (es.map fun e => match e.key with | .string s => s | _ => ⟨#[]⟩) (List.nodup_cons.2 ⟨hnew, h.nodup⟩) fun a ha => by
    rcases List.mem_cons.1 ha with rfl | ha
    · exact List.mem_map.2 ⟨e, he, by simp only [hk]⟩
    · obtain ⟨e', h1, h2, _⟩ := h.keys a ha
      exact List.mem_map.2 ⟨e', h1, by simp only [h2]⟩
  simp at h1
  omega
theorem KG.step {w : World} {g n r : Nat} {es : List MapEntry} {seen : Array Nat} {ts : List ByteArray} {wr w2 : World} (h : KG w g n es seen ts wr) (hg : wr.grownBy w2 (some r)) (hgr : g ≠ r) (hg0 : w.heap.size ≤ g) (hr0 : w.heap.size ≤ r) (hn : (es.map (·.key)).Nodup) (hb : (es.map (·.born)).Nodup) {e : MapEntry} (he : e ∈ es) (hes : seen.contains e.born = false) {t : ByteArray} (hk : e.key = .string t) (hlt : ts.length < n) :
    KG w g n es (seen.push e.born) (ts ++ [t]) (w2.setCell ⟨g, ts.length, none⟩ (.string t)) := by
  obtain ⟨arr, h1, h2, h3⟩ := h.row
  have h1' : w2.heap[g]? = some (.cells arr 9 (0, 0)) := (hg.block g (heap_lt h1) (fun e => hgr (by injection e))).trans h1
  refine ⟨(h.below.grown hg h.below.size (fun k hk => by injection hk with hk; omega)).setCell hg0 _, ⟨_, heap_setCell_row h1' _, by simp [h2], ?_⟩, ?_, fun a ha => ?_, fun e1 he1 hs1 => ?_⟩
  · rw [List.length_append, List.length_singleton, Array.toList_setIfInBounds, List.map_append, ← h3]
    apply List.ext_getElem?
    intro q
    by_cases hq : q < ts.length
    · rw [List.getElem?_take_of_lt (by omega), List.getElem?_set_ne (by omega), List.getElem?_append_left (by simp; omega), List.getElem?_take_of_lt hq]
    · by_cases hq2 : q = ts.length
      · subst hq2
        rw [List.getElem?_take_of_lt (by omega), List.getElem?_set_self (by simp; omega), List.getElem?_append_right (by simp; omega), List.length_take]
        simp [Nat.min_eq_left (show ts.length ≤ arr.size by omega)]
      · rw [List.getElem?_eq_none (by simp; omega), List.getElem?_eq_none (by simp; omega)]
  · rw [List.nodup_append]
    refine ⟨h.nodup, by simp, fun a ha b hb e1 => ?_⟩
    simp at hb
    subst e1
    exact h.new (clock := 0) hn he hes hk (hb ▸ ha)
  · rcases List.mem_append.1 ha with ha | ha
    · obtain ⟨e1, a1, a2, a3⟩ := h.keys a ha
      exact ⟨e1, a1, a2, by rw [contains_push, a3]; rfl⟩
    · simp at ha
      subst ha
      exact ⟨e, he, hk, by rw [contains_push]; simp⟩
  · rw [contains_push] at hs1
    by_cases hs : seen.contains e1.born = true
    · obtain ⟨t1, a1, a2⟩ := h.all e1 he1 hs
      exact ⟨t1, List.mem_append_left _ a1, a2⟩
    · have hbb : e1.born = e.born := by
        simp only [Bool.or_eq_true, beq_iff_eq] at hs1
        exact hs1.resolve_left hs
      have := born_inj hb he1 he hbb
      subst this
      exact ⟨t, by simp, hk⟩
theorem KG.start (w w1 : World) (g n : Nat) (es : List MapEntry) (hb : Below w.heap.size w w1) (hg : w1.heap[g]? = some (.cells (madeCells #[.string ⟨#[]⟩] n) 9 (0, 0))) : KG w g n es #[] [] w1 :=
  ⟨hb, ⟨_, hg, size_madeCells _ _, by simp⟩, List.nodup_nil, fun t h => by simp at h, fun e _ h => by simp at h⟩
/-- All keys gathered: they are those of the object. -/
theorem KG.done {w : World} {g n : Nat} {es : List MapEntry} {seen : Array Nat} {ts ks : List ByteArray} {wr : World} (h : KG w g n es seen ts wr) (hs : ∀ e, e ∈ es → seen.contains e.born = true) (hn : (es.map (·.key)).Nodup) (hsz : es.length = ks.length) (hk : ∀ e, e ∈ es → ∃ s, e.key = .string s ∧ s ∈ ks) (hks : sortedS ks) :
    ts.length = ks.length ∧ (ts.map fun s => s.data.toList).mergeSort leB = ks.map fun s => s.data.toList := by
  have hsub : ∀ t, t ∈ ts → t ∈ ks := fun t ht => by
    obtain ⟨e, h1, h2, _⟩ := h.keys t ht
    obtain ⟨s, h3, h4⟩ := hk e h1
    rw [h2] at h3
    injection h3 with h3
    exact h3 ▸ h4
  have hle := nodup_len ts ks h.nodup hsub
  have hge : es.length ≤ ts.length := by
    have := nodup_len (es.map fun e => match e.key with | .string s => s | _ => ⟨#[]⟩) ts (by
      rw [List.Nodup, List.pairwise_map] at hn ⊢
      refine hn.imp_of_mem fun {x y} hx hy hne e => hne ?_
      obtain ⟨s, h1, _⟩ := hk x hx
      obtain ⟨s', h2, _⟩ := hk y hy
      simp only [h1, h2] at e ⊢
      rw [e]) fun a ha => by
      obtain ⟨e, he, rfl⟩ := List.mem_map.1 ha
      obtain ⟨t, h1, h2⟩ := h.all e he (hs e he)
      simp only [h2]
      exact h1
    simpa using this
  have hlen : ts.length = ks.length := by omega
  refine ⟨hlen, ?_⟩
  have hp : (ts.map fun s => s.data.toList).Perm (ks.map fun s => s.data.toList) := (perm_of_sub h.nodup (sortedS_nodup hks) hsub hlen).map _
  rw [mergeSort_of_perm hp, sorted_list ks hks]
def KeysRow (ks : List ByteArray) (n : Nat) (w : World) (e : Ending) (w' : World) : Prop := ∃ A', e = .returned (.slice A' n n) ∧ RowAt w' (fun b => w.heap.size ≤ b) 1 A' n (strCell ks) ∧ Below w.heap.size w w'
theorem mapKeys_any (ks : List ByteArray) (n b : Nat) (es : Array MapEntry) (clock : Nat) (w : World) (hks : ks.length = n) (hb : w.heap[b]? = some (.map es clock)) (hn : es.size = n) (hk : ∀ e, e ∈ es.toList → ∃ s, e.key = .string s ∧ s ∈ ks) (hst : MapKept.Stamped es clock) (hs : sortedS ks) (hmax : n ≤ 1000000) :
    Calls Tryz.prog 172 #[.map (some b)] w (KeysRow ks n w) := by
  have hlen : ∀ W : World, W.heap[b]? = some (.map es clock) → (Builtin.len_ #[85] 3 #[.map (some b)]).run Tryz.prog W = .ok (.int .i64 n) W := fun W hW => hn ▸ run_len_map _ _ _ _ _ _ rfl hW
  have hlen0 := hlen w hb
  have hmk := run_make_row' (P := Tryz.prog) 24 9 (.string ⟨#[]⟩) 16 Tryz.underlying24 info9 rfl .i64 .i64 n (by omega) (by omega) w
  obtain ⟨w1, hw1⟩ : ∃ w1, w1 = w.alloc (.cells (madeCells #[.string ⟨#[]⟩] n) 9) := ⟨_, rfl⟩
  have hb1 : Below w.heap.size w w1 := by rw [hw1]; exact (Below.refl _ _).alloc (Nat.le_refl _) _
  have hg1 : w1.heap[w.heap.size]? = some (.cells (madeCells #[.string ⟨#[]⟩] n) 9 (0, 0)) := by rw [hw1]; exact heap_alloc_new w _
  have hsz1 : w1.heap.size = w.heap.size + 1 := by rw [hw1]; simp
  have hbl := heap_lt hb
  obtain ⟨hrange, hrng⟩ := Rng.start ((hb1.block b hbl).trans hb)
  have hkg := KG.start w _ w.heap.size n es.toList (hb1.alloc hb1.size (.mapIter (some b) clock #[] clock)) ((Below.heap_alloc _ _ _ (heap_lt hg1)).trans hg1)
  rw [hsz1] at hrange hrng
  have hesl : es.toList.length = n := by simp [hn]
  have HW1 := Lib.hid hw1
  have HST := Lib.hid hst
  have HRNG := Lib.hid hrng
  have HKG := Lib.hid hkg
  have HN := Lib.hid (And.intro hks (And.intro hesl (And.intro hk hs)))
  rw [← hw1] at hmk
  clear hw1 hb1 hg1 hrng hkg hks hb hn hk hst hs hlen hesl hsz1
  go_enter Tryz.func172, Tryz.ntmps172
  go_wp2_with fail
  go_loopw [4] (fun i wr => ∃ (seen : Array Nat) (ts : List ByteArray), i = .int .i64 ts.length ∧ Rng b (w.heap.size + 1) es clock seen wr ∧ KG w w.heap.size n es.toList seen ts wr) (fun _ wr => wr.rangeLeft b (w.heap.size + 1))
  case atStart => exact ⟨#[], [], rfl, HRNG.out, HKG.out⟩
  case round =>
    obtain ⟨seen, ts, rfl, hrg, hkg⟩ := hrel
    have HL := Lib.hid hrg.left_eq
    have HM := Lib.hid hkg
    rcases hrg.next HST.out 0 with ⟨hsn, hrun⟩ | ⟨e, w2, he, hes, hlt, hrun, hent, hrg2, hg2, hsz2⟩
    · obtain ⟨hks, hesl, hkk, hso⟩ := HN.out
      obtain ⟨arr, ha1, ha2, ha3⟩ := hkg.row
      obtain ⟨hl1, hl2⟩ := hkg.done hsn HST.out.2.2 (by rw [hesl, hks]) hkk hso
      have hmt : (ts.map fun s => s.data.toList).length = n := by rw [List.length_map, hl1, hks]
      have HSRT := Lib.hid (sortStrings_any (ts.map fun s => s.data.toList) n hmt w.heap.size n arr wr ha1 (by
        rw [List.length_map, ha3, List.map_map]
        refine List.map_congr_left fun t _ => ?_
        simp [encStr]) (by rw [hmt]; omega))
      rw [hl2] at HSRT
      have HA2 := Lib.hid ha2
      have HLT := Lib.hid (heap_lt ha1)
      clear hks hesl hkk hso ha1 ha2 ha3 hl1 hl2 hmt hsn hrg hkg
      go_wp2_with fail
      refine HSRT.out.mono ?_
      rintro e' w' ⟨rfl, hg', hh'⟩
      have HG := Lib.hid hg'
      have HH := Lib.hid hh'
      clear hg' hh'
      go_wp2_with fail
      go_ret
      refine ⟨_, rfl, fun hn0 => ⟨_, rfl, Nat.le_refl _, fun i j u hi hu => ?_⟩, HM.out.below.grown HG.out HM.out.below.size (fun k hk => by injection hk with hk; omega)⟩
      have hn' : (ks.map fun s => s.data.toList).length = n := by rw [List.length_map]; exact HN.out.1
      have htk := take_putCells arr (ks.map fun s => s.data.toList) (by rw [hn', HA2.out]; exact Nat.le_refl _)
      rw [hn'] at htk
      match j, hu with
      | 0, hu =>
        simp only [strCell, List.getElem?_cons_zero, Option.some.injEq] at hu
        subst hu
        have e : (⟨w.heap.size, 0, none⟩ : Addr).add (i * 1 + 0) = ⟨w.heap.size, i, none⟩ := by
          unfold Addr.add
          split
          · rename_i h0; have : i = 0 := by omega
            subst this; rfl
          · simp
        rw [e]
        have hks := HN.out.1
        have h1 : (ks.map fun s => s.data.toList).map encStr = ks.map .string := by
          rw [List.map_map]
          refine List.map_congr_left fun t _ => ?_
          simp [encStr]
        rw [h1] at htk
        have h2 : ((putCells encStr 0 (ks.map fun s => s.data.toList).toArray arr).toList.take n)[i]? = some (.string (ks.getD i ⟨#[]⟩)) := by
          rw [htk, List.getElem?_map, List.getD_eq_getElem?_getD, List.getElem?_eq_getElem (by omega)]
          rfl
        rw [List.getElem?_take_of_lt hi, Array.getElem?_toList] at h2
        simp only [World.cell?, HH.out]
        simpa using h2
      | j + 1, hu => simp [strCell] at hu
    · obtain ⟨hks, hesl, hkk, hso⟩ := HN.out
      obtain ⟨t, hk, _⟩ := hkk e he
      rw [hk] at hrun hent
      have hroom := hkg.room HST.out.2.2 hesl he hes hk
      obtain ⟨arr, ha1, ha2, ha3⟩ := hkg.row
      have hgr : w.heap.size ≠ w.heap.size + 1 := by omega
      have h1' : w2.heap[w.heap.size]? = some (.cells arr 9 (0, 0)) := (hg2.block _ (heap_lt ha1) (fun e => hgr (by injection e))).trans ha1
      obtain ⟨hcell0, hfro⟩ := cell_of_row (i := ts.length) h1' (by omega)
      obtain ⟨z, hcell⟩ : ∃ z, w2.cell? ⟨w.heap.size, ts.length, none⟩ = some z := ⟨_, hcell0⟩
      clear hcell0
      have HST2 := Lib.hid (hkg.step hg2 hgr (Nat.le_refl _) (Nat.le_succ _) HST.out.2.2 HST.out.2.1 he hes hk hroom)
      have HR2 := Lib.hid (hrg2.setCell (g := w.heap.size) (i := ts.length) (.string t) (by omega) (by omega))
      have HLT := Lib.hid hlt
      have hlen2 : (ts ++ [t]).length = ts.length + 1 := by simp
      have HLEN := Lib.hid hlen2
      clear hks hesl hkk hso ha1 ha2 ha3 hkg hrg hlt hrg2 he hes hk hg2 hsz2 h1' hlen2
      generalize ts.length = p at *
      go_wp2_with fail
      go_roundw
      case rel => exact ⟨_, _, by rw [HLEN.out]; go_num, HR2.out, HST2.out⟩
      · rw [HL.out, HR2.out.left_eq]; exact HLT.out
/-- A []any of the call's own, its first k cells written. -/
structure FillAt (w : World) (g n k : Nat) (val : Nat → Value) (wr : World) : Prop where
  below : w.grownBy wr (some g)
  row : ∃ arr : Array Value, wr.heap[g]? = some (.cells arr 20 (0, 0)) ∧ arr.size = n ∧ ∀ i, i < k → arr[i]? = some (val i)
theorem FillAt.cell {w wr : World} {g n k : Nat} {val : Nat → Value} (h : FillAt w g n k val wr) (hk : k < n) : ∃ z, wr.cell? ⟨g, k, none⟩ = some z ∧ wr.frozen? ⟨g, k, none⟩ = false := by
  obtain ⟨arr, h1, h2, _⟩ := h.row
  exact ⟨_, cell_of_row h1 (by omega)⟩
theorem FillAt.step {w wr : World} {g n k : Nat} {val : Nat → Value} (h : FillAt w g n k val wr) (hk : k < n) : FillAt w g n (k + 1) val (wr.setCell ⟨g, k, none⟩ (val k)) := by
  obtain ⟨arr, h1, h2, h3⟩ := h.row
  refine ⟨⟨h.below.os, h.below.tape, h.below.output, by simp [World.setCell]; exact h.below.size, fun q hq hne => (Below.heap_setCell _ _ _ _ (fun e => hne (by rw [e]))).trans (h.below.block q hq hne)⟩, _, heap_setCell_row h1 _, by simp [h2], fun i hi => ?_⟩
  by_cases e : i = k
  · subst e
    rw [Array.getElem?_setIfInBounds, if_pos rfl, if_pos (by omega)]
  · rw [Array.getElem?_setIfInBounds, if_neg (fun h => e h.symm)]
    exact h3 i (by omega)
theorem FillAt.start {w : World} {g n : Nat} (val : Nat → Value) (hg : w.heap[g]? = some (.cells (madeCells #[.nilIface] n) 20 (0, 0))) : FillAt w g n 0 val w :=
  ⟨⟨rfl, rfl, rfl, Nat.le_refl _, fun _ _ _ => rfl⟩, _, hg, size_madeCells _ _, fun i h => by omega⟩
/-- The keys of an array or an object. -/
def keysJ : J → Option (List J)
  | .arr l => some ((List.range l.length).map fun (i : Nat) => J.int (i : Int))
  | .obj ks _ => some (ks.map .str)
  | _ => none
def KeysPost (l : List J) (w : World) (e : Ending) (w' : World) : Prop := ∃ x, e = .returned x ∧ Below w.heap.size w w' ∧ Jr w' (fun _ => True) (.arr l) x
theorem funcKeys_arr (l : List J) (x : Value) (ok : Nat → Prop) (w : World) (hl : l.length ≤ 1000000) (h : Jr w ok (.arr l) x) : Calls Tryz.prog 119 #[x] w (KeysPost ((List.range l.length).map fun (i : Nat) => J.int (i : Int)) w) := by
  obtain _ | _ | _ | _ | _ | ⟨_, A, c, f, hc, r, e⟩ := h
  obtain ⟨n, hn⟩ : ∃ n, n = l.length := ⟨_, rfl⟩
  rw [← hn] at hl hc r ⊢
  have hmk := run_make_any w n n (Nat.le_refl _) (by omega)
  obtain ⟨w1, hw1⟩ : ∃ w1, w1 = w.alloc (.cells (madeCells #[.nilIface] n) 20) := ⟨_, rfl⟩
  have hb1 : Below w.heap.size w w1 := by rw [hw1]; exact (Below.refl _ _).alloc (Nat.le_refl _) _
  have hf := FillAt.start (g := w.heap.size) (fun i => .iface 3 (.int .i64 (i : Int))) (show w1.heap[w.heap.size]? = some (.cells (madeCells #[.nilIface] n) 20 (0, 0)) by rw [hw1]; exact heap_alloc_new w _)
  rw [← hw1] at hmk
  have HB1 := Lib.hid hb1
  have HF := Lib.hid hf
  have HW1 := Lib.hid hw1
  clear hn r e hb1 hf hw1
  go_enter Tryz.func119, Tryz.ntmps119
  go_wp2_with fail
  go_loopw [24] (fun i wr => ∃ k : Nat, k ≤ n ∧ i = .int .i64 k ∧ FillAt w1 w.heap.size n k (fun i => .iface 3 (.int .i64 (i : Int))) wr) (fun i _ => n - (intOf i).toNat)
  case atStart => exact ⟨0, Nat.zero_le _, rfl, HF.out⟩
  case round =>
    obtain ⟨k, hk, rfl, hfl⟩ := hrel
    by_cases hlt : k < n
    · obtain ⟨z, hz, hfr⟩ := hfl.cell hlt
      have HS := Lib.hid (hfl.step hlt)
      clear hfl
      go_wp2_with fail
      refine ⟨⟨k + 1, by omega, by simp, HS.out⟩, ?_⟩
      simp [intOf]
      omega
    · have hkn : k = n := by omega
      subst hkn
      have HFL := Lib.hid hfl
      clear hfl hlt
      go_wp2_with fail
      go_ret
      obtain ⟨arr, h1, h2, h3⟩ := HFL.out.row
      refine ⟨_, rfl, HB1.out.grown HFL.out.below HB1.out.size (fun q hq => by injection hq with hq; omega), jr_arr_mk (by simp) trivial h1 (Nat.le_refl _) (by omega) fun i j hj => ?_⟩
      have hi : i < k := by have := (List.getElem?_eq_some_iff.1 hj).1; simpa using this
      rw [List.getElem?_map, List.getElem?_range hi] at hj
      cases hj
      exact ⟨_, h3 i hi, .int _⟩
theorem funcKeys_obj (ks : List ByteArray) (vs : List J) (x : Value) (ok : Nat → Prop) (w : World) (hl : ks.length ≤ 1000000) (hs : sortedS ks) (h : Jr w ok (.obj ks vs) x) : Calls Tryz.prog 119 #[x] w (KeysPost (ks.map .str) w) := by
  obtain _ | _ | _ | _ | _ | _ | ⟨_, _, b, es, clock, f, ho, hb, hn, hv, hnd, he, hg, hst, e⟩ := h
  obtain ⟨n, hks⟩ : ∃ n, ks.length = n := ⟨_, rfl⟩
  rw [hks] at hn hl
  have hlen : (Builtin.len_ #[85] 3 #[.map (some b)]).run Tryz.prog w = .ok (.int .i64 n) w := hn ▸ run_len_map _ _ _ _ _ _ rfl hb
  have hmk := run_make_any w n n (Nat.le_refl _) (by omega)
  obtain ⟨w1, hw1⟩ : ∃ w1, w1 = w.alloc (.cells (madeCells #[.nilIface] n) 20) := ⟨_, rfl⟩
  have hb1 : Below w.heap.size w w1 := by rw [hw1]; exact (Below.refl _ _).alloc (Nat.le_refl _) _
  have hg1 : w1.heap[w.heap.size]? = some (.cells (madeCells #[.nilIface] n) 20 (0, 0)) := by rw [hw1]; exact heap_alloc_new w _
  rw [← hw1] at hmk
  have HK := Lib.hid (mapKeys_any ks n b es clock w1 hks ((hb1.block b (heap_lt hb)).trans hb) hn he hst hs hl)
  have HB1 := Lib.hid hb1
  have HG1 := Lib.hid hg1
  have HKS := Lib.hid hks
  clear hks hn hs ho hb hv hnd he hg hst e hb1 hg1 hw1
  go_enter Tryz.func119, Tryz.ntmps119
  go_wp2_with fail
  refine HK.out.mono ?_
  rintro e' w2 ⟨A', rfl, hrow, hb2⟩
  have hg2 := (hb2.block _ (heap_lt HG1.out)).trans HG1.out
  have HF := Lib.hid (FillAt.start (g := w.heap.size) (fun i => .iface 9 (.string (ks.getD i ⟨#[]⟩))) hg2)
  have HB2 := Lib.hid (below_trans HB1.out hb2)
  have HROW := Lib.hid hrow
  have hlt1 := heap_lt HG1.out
  clear hrow hb2 hg2
  go_wp2_with fail
  go_loopw [44] (fun i wr => ∃ k : Nat, k ≤ n ∧ i = .int .i64 k ∧ FillAt w2 w.heap.size n k (fun i => .iface 9 (.string (ks.getD i ⟨#[]⟩))) wr) (fun i _ => n - (intOf i).toNat)
  case atStart => exact ⟨0, Nat.zero_le _, rfl, HF.out⟩
  case round =>
    obtain ⟨k, hk, rfl, hfl⟩ := hrel
    by_cases hlt : k < n
    · obtain ⟨z, hz, hfr⟩ := hfl.cell hlt
      have HS := Lib.hid (hfl.step hlt)
      obtain ⟨ad, rfl, hao, hc⟩ := HROW.out (by omega)
      have hc0 := hc k 0 _ hlt rfl
      have hbk := World.block_lt_of_cell? _ _ hc0
      have hc1 : wr.cell? (ad.add k) = some (.string (ks.getD k ⟨#[]⟩)) := by
        simp only [Nat.mul_one, Nat.add_zero] at hc0 hbk
        rw [← hc0]
        refine cell_of_block (hfl.below.block _ hbk (fun e => ?_))
        injection e with e
        rw [block_add] at e
        omega
      clear hfl hao hc hc0 hbk
      go_wp2_with fail
      refine ⟨⟨k + 1, by omega, by simp, HS.out⟩, ?_⟩
      simp [intOf]
      omega
    · have hkn : k = n := by omega
      subst hkn
      have HFL := Lib.hid hfl
      clear hfl hlt
      go_wp2_with fail
      go_ret
      obtain ⟨arr, h1, h2, h3⟩ := HFL.out.row
      refine ⟨_, rfl, HB2.out.grown HFL.out.below HB2.out.size (fun q hq => by injection hq with hq; omega), jr_arr_mk (by simpa using HKS.out) trivial h1 (Nat.le_refl _) (by omega) fun i j hj => ?_⟩
      have hi : i < k := by have := (List.getElem?_eq_some_iff.1 hj).1; rw [List.length_map, HKS.out] at this; exact this
      rw [List.getElem?_map, List.getElem?_eq_getElem (by rw [HKS.out]; exact hi)] at hj
      cases hj
      refine ⟨_, h3 i hi, ?_⟩
      have e : ks.getD i ⟨#[]⟩ = ks[i]'(by rw [HKS.out]; exact hi) := by simp [List.getD_eq_getElem?_getD, HKS.out, hi]
      rw [e]
      exact .str _
theorem funcKeys_any (v : J) (l : List J) (hk : keysJ v = some l) (hv : JN v) (x : Value) (ok : Nat → Prop) (w : World) (h : Jr w ok v x) : Calls Tryz.prog 119 #[x] w (KeysPost l w) := by
  cases v with
  | arr a =>
    simp only [keysJ, Option.some.injEq] at hk
    rw [← hk]
    exact funcKeys_arr a x ok w (jn_len hv) h
  | obj ks vs =>
    simp only [keysJ, Option.some.injEq] at hk
    rw [← hk]
    obtain ⟨g1, g2, g3, _, _⟩ := jn_obj_elim hv
    exact funcKeys_obj ks vs x ok w g1 g3 h
  | _ => simp [keysJ] at hk
theorem zzKeys_any (v : J) (l : List J) (hk : keysJ v = some l) (hv : JN v) (x : Value) (ok : Nat → Prop) (w : World) (h : Jr w ok v x) : Calls Tryz.prog 68 #[x] w (KeysPost l w) := by
  have H := Lib.hid (funcKeys_any v l hk hv x ok w h)
  clear hk hv h
  go_enter Tryz.func68, Tryz.ntmps68
  go_wp2_with fail
  refine H.out.mono ?_
  rintro e' w' ⟨u, rfl, hb, hr⟩
  have HR := Lib.hid hr
  clear hr
  go_wp2_with fail
  go_ret
  exact ⟨_, rfl, hb, HR.out⟩
set_option maxHeartbeats 1000000 in
/-- impl.Keys: what gojq gives of the values, as a result. -/
theorem door_Keys (v1 : V) (ok : Nat → Prop) (cs1 : List Value) (w : World) (hv1 : Vr w ok v1 cs1) (wf1 : WF v1) (pa1 : Sm v1)
    (S : Value → World → Prop) (T : V → Int → Prop)
    (HZ : ∀ (x1 : Value) (W : World), Below w.heap.size w W → Jr W (fun _ => True) v1.j x1 → Calls Tryz.prog 68 #[x1] W fun e W' => ∃ x, e = .returned x ∧ Below W.heap.size W W' ∧ S x W')
    (HR : ∀ (x : Value) (W : World), S x W → Calls Tryz.prog 48 #[x] W (ResPost T W)) :
    Calls Tryz.prog 34 #[.agg cs1.toArray] w (ResPost T w) := by
  have HV1 := Lib.hid hv1
  obtain ⟨k1, h1, t1, l1, ks1, vs1, P1, p1, Q1, q1, R1, r1, f1, g1, i1, i2, i3, i4, i5, i6, i7, i8, i9, i10, i11, i12, i13, i14, i15⟩ := hv1
  clear i1 i2 i3 i4 i5 i6 i7 i8 i9 i10 i11 i12 i13 i14 i15
  obtain ⟨W0, hW0⟩ : ∃ W0, W0 = (w.alloc (.cells #[.int .i64 k1, .int .i64 h1, .string t1, .slice P1 l1.length p1, .slice Q1 ks1.length q1, .slice R1 vs1.length r1] 26)).alloc (.cells #[.int .i64 0, .int .i64 0, .string ⟨#[]⟩, .slice none 0 0, .slice none 0 0, .slice none 0 0, .int .i64 0] 34) := ⟨_, rfl⟩
  have hB : Below w.heap.size w W0 := by rw [hW0]; exact (((Below.refl _ _).alloc (Nat.le_refl _) _).alloc (by (try simp); (try omega)) _)
  have hS0 : W0.heap.size = w.heap.size + 2 := by rw [hW0]; simp
  have hR0 : W0.heap[w.heap.size + 1]? = some (.cells #[.int .i64 0, .int .i64 0, .string ⟨#[]⟩, .slice none 0 0, .slice none 0 0, .slice none 0 0, .int .i64 0] 34) := by
    rw [hW0]
    have := heap_alloc_new (w.alloc (.cells #[.int .i64 k1, .int .i64 h1, .string t1, .slice P1 l1.length p1, .slice Q1 ks1.length q1, .slice R1 vs1.length r1] 26)) (.cells #[.int .i64 0, .int .i64 0, .string ⟨#[]⟩, .slice none 0 0, .slice none 0 0, .slice none 0 0, .int .i64 0] 34)
    rw [show (w.alloc (.cells #[.int .i64 k1, .int .i64 h1, .string t1, .slice P1 l1.length p1, .slice Q1 ks1.length q1, .slice R1 vs1.length r1] 26)).heap.size = w.heap.size + 1 from by simp] at this
    exact this
  have HW0 := Lib.hid hW0
  have HT1 := Lib.hid (toGo_any _ ok _ W0 wf1 pa1 (HV1.out.keep hB))
  clear hW0
  go_enter Tryz.func34, Tryz.ntmps34
  go_wp2_with fail
  rw [← HW0.out]
  refine HT1.out.mono ?_
  rintro e' w1 ⟨x1, rfl, hx1, hb1⟩
  have HX1 := Lib.hid hx1
  have HB1 := Lib.hid (below_trans hB hb1)
  have HC1 := Lib.hid hb1
  clear hx1 hb1
  have HJ1 := Lib.hid (show Jr w1 (fun _ => True) _ x1 from HX1.out.mono fun _ _ => trivial)
  have hsz : w.heap.size + 2 ≤ w1.heap.size := by have := HC1.out.size; omega
  go_wp2_with fail
  refine (HZ x1 w1 HB1.out HJ1.out).mono ?_
  rintro e' w8 ⟨x8, rfl, hb8, hS8⟩
  have HS8 := Lib.hid hS8
  have HB8 := Lib.hid (below_trans HB1.out hb8)
  have HC8 := Lib.hid (below_trans HC1.out hb8)
  have hsz8 : w.heap.size + 2 ≤ w8.heap.size := by have := hb8.size; omega
  clear hS8 hb8
  go_wp2_with fail
  refine (HR x8 w8 HS8.out).mono ?_
  rintro e' w9 h9
  obtain ⟨v9, a0, a1, s, S3, S4, S5, n3, m3, n4, m4, n5, m5, c, rfl, hv9, hT9, hb9⟩ := resPost_shape h9
  have hr9 := (hb9.block _ (by omega)).trans ((HC8.out.block _ (by omega)).trans hR0)
  have y0 : w9.cell? ⟨w.heap.size + 1, 0, none⟩ = some (.int .i64 0) := by simp [World.cell?, hr9]
  have y1 : w9.cell? ⟨w.heap.size + 1, 1, none⟩ = some (.int .i64 0) := by simp [World.cell?, hr9]
  have y2 : w9.cell? ⟨w.heap.size + 1, 2, none⟩ = some (.string ⟨#[]⟩) := by simp [World.cell?, hr9]
  have y3 : w9.cell? ⟨w.heap.size + 1, 3, none⟩ = some (.slice none 0 0) := by simp [World.cell?, hr9]
  have y4 : w9.cell? ⟨w.heap.size + 1, 4, none⟩ = some (.slice none 0 0) := by simp [World.cell?, hr9]
  have y5 : w9.cell? ⟨w.heap.size + 1, 5, none⟩ = some (.slice none 0 0) := by simp [World.cell?, hr9]
  have y6 : w9.cell? ⟨w.heap.size + 1, 6, none⟩ = some (.int .i64 0) := by simp [World.cell?, hr9]
  have yf : ∀ i, w9.frozen? ⟨w.heap.size + 1, i, none⟩ = false := fun i => by simp [World.frozen?, hr9]
  have HB9 := Lib.hid (below_trans HB8.out hb9)
  have hset : ∀ (W : World) (i : Nat) (u : Value) (cs : List Value), Vr W (fun b => w.heap.size + 1 < b) v9 cs → Vr (W.setCell ⟨w.heap.size + 1, i, none⟩ u) (fun b => w.heap.size + 1 < b) v9 cs := fun W i u cs h =>
    h.move fun b hb => Below.heap_setCell _ _ _ _ (by show b ≠ w.heap.size + 1; omega)
  have HSET := Lib.hid hset
  have HV9 := Lib.hid (show Vr w9 (fun b => w.heap.size + 1 < b) v9 _ from hv9.mono fun b hb => by omega)
  have HT9 := Lib.hid hT9
  clear hset hv9 hT9 hb9 hr9 h9 hR0
  go_wp2_with fail
  refine bodyPost_ret (v := .agg #[.int .i64 a0, .int .i64 a1, .string s, .slice S3 n3 m3, .slice S4 n4 m4, .slice S5 n5 m5, .int .i64 c]) (by simp [results, Tryz.results34, go_sem, y0, y1, y2, y3, y4, y5, y6]) rfl ?_
  refine ⟨v9, [.int .i64 a0, .int .i64 a1, .string s, .slice S3 n3 m3, .slice S4 n4 m4, .slice S5 n5 m5], c, rfl, ?_, HT9.out, ?_⟩
  · exact (HSET.out _ _ _ _ (HSET.out _ _ _ _ (HSET.out _ _ _ _ (HSET.out _ _ _ _ (HSET.out _ _ _ _ (HSET.out _ _ _ _ (HSET.out _ _ _ _ HV9.out))))))).mono fun b hb => by omega
  · have hle : w.heap.size ≤ w.heap.size + 1 := by omega
    exact (((((((HB9.out.setCell hle _).setCell hle _).setCell hle _).setCell hle _).setCell hle _).setCell hle _).setCell hle _)
theorem jn_str {s : ByteArray} (hs : s.size ≤ 140737488351232) : JN (.str s) :=
  ⟨.mk 4 0 s [] [] [] (by decide) (.inr rfl) (.inl rfl) (.inr rfl) (.inr rfl) rfl (by decide) (.inl rfl) (fun i a b ha => by simp at ha) (fun v hv => by simp at hv) (fun v hv => by simp at hv), sm_plain _ _ _, .str s hs, by simp [J.v, V.j]⟩
theorem keys_jn {v : J} {l : List J} (hk : keysJ v = some l) (hv : JN v) : JN (.arr l) := by
  cases v with
  | arr a =>
    simp only [keysJ, Option.some.injEq] at hk
    have := jn_len hv
    rw [← hk]
    refine jn_arr (fun j hj => ?_) (by simpa using this)
    obtain ⟨i, hi, rfl⟩ := List.mem_map.1 hj
    have hi' : i < a.length := by simpa using hi
    exact jn_int _ (by omega)
  | obj ks vs =>
    simp only [keysJ, Option.some.injEq] at hk
    obtain ⟨g1, g2, g3, g4, _⟩ := jn_obj_elim hv
    rw [← hk]
    refine jn_arr (fun j hj => ?_) (by simpa using g1)
    obtain ⟨t, ht, rfl⟩ := List.mem_map.1 hj
    exact jn_str (g4 t ht)
  | _ => simp [keysJ] at hk
theorem implKeys (v : V) (l : List J) (hk : keysJ v.j = some l) (hjn : JN v.j) (ok : Nat → Prop) (cs : List Value) (w : World) (hv : Vr w ok v cs) (wf : WF v) (sm : Sm v) : Calls Tryz.prog 34 #[.agg cs.toArray] w (ResPost (fun u c => u = (J.arr l).v ∧ c = 0) w) := by
  refine door_Keys v ok cs w hv wf sm (fun x W => Jr W (fun _ => True) (.arr l) x) _ (fun x1 W _ h1 => ?_) (fun x W hx => ?_)
  · refine (zzKeys_any v.j l hk hjn x1 _ W h1).mono ?_
    rintro e' w' ⟨x, rfl, hb, h⟩
    exact ⟨x, rfl, hb, h⟩
  · exact (result_any _ (fun _ => True) _ W (keys_jn hk hjn).2.2.1 hx).mono fun e w' h => resPost_ok h
/-! ### What is built key by key. -/
/-- What stands when k keys have been set. -/
def bldJ : J → Nat → J
  | _, 0 => .null
  | .arr l, k + 1 => .arr (l.take (k + 1))
  | .obj ks vs, k + 1 => .obj (ks.take (k + 1)) (vs.take (k + 1))
  | _, _ => .null
theorem insK_last : ∀ (ks : List ByteArray) (s : ByteArray), sortedS (ks ++ [s]) → insK ks s = ks ++ [s]
  | [], s, _ => by simp [insK]
  | k :: ks, s, h => by
    have h2 := (sortedS_cons.1 h).2
    have hlt : bl k s = true := sortedS_lt h 0 k rfl ks.length s (by simp [Nat.add_comm])
    have hne : s ≠ k := fun e => by
      subst e
      have := sortedS_nodup h
      simp at this
    have hnl : ¬ bl s k = true := fun h' => by
      rw [bl_lt, decide_eq_true_eq] at h' hlt
      exact absurd (List.lt_trans h' hlt) (List.lt_irrefl _)
    rw [insK, if_neg hne, if_neg hnl, insK_last ks s h2, List.cons_append]
theorem insV_last : ∀ (ks : List ByteArray) (vs : List J) (s : ByteArray) (u : J), sortedS (ks ++ [s]) → ks.length = vs.length → insV ks vs s u = vs ++ [u]
  | [], [], s, u, _, _ => by simp [insV]
  | [], _ :: _, _, _, _, h => by simp at h
  | _ :: _, [], _, _, _, h => by simp at h
  | k :: ks, v :: vs, s, u, h, hl => by
    have h2 := (sortedS_cons.1 h).2
    have hlt : bl k s = true := sortedS_lt h 0 k rfl ks.length s (by simp [Nat.add_comm])
    have hne : s ≠ k := fun e => by
      subst e
      have := sortedS_nodup h
      simp at this
    have hnl : ¬ bl s k = true := fun h' => by
      rw [bl_lt, decide_eq_true_eq] at h' hlt
      exact absurd (List.lt_trans h' hlt) (List.lt_irrefl _)
    rw [insV, if_neg hne, if_neg hnl, insV_last ks vs s u h2 (by simpa using hl), List.cons_append]
theorem look_at' : ∀ (ks : List ByteArray) (vs : List J) (i : Nat) (t : ByteArray) (j : J), ks.Nodup → ks[i]? = some t → vs[i]? = some j → lookO ks vs t = some j
  | [], _, i, t, j, _, h, _ => by simp at h
  | _ :: _, [], i, t, j, _, _, h => by simp at h
  | k :: ks, v :: vs, 0, t, j, _, h, hv => by
    simp at h hv
    rw [lookO, if_pos h.symm, hv]
  | k :: ks, v :: vs, i + 1, t, j, hn, h, hv => by
    rw [List.nodup_cons] at hn
    have h' : ks[i]? = some t := by simpa using h
    have hv' : vs[i]? = some j := by simpa using hv
    rw [lookO, if_neg (fun e => hn.1 (by rw [← e]; exact List.mem_of_getElem? h'))]
    exact look_at' ks vs i t j hn.2 h' hv'
theorem setL_next (l : List J) (k : Nat) (u : J) (hk : k < l.length) (hu : l[k]? = some u) : setL (l.take k) k u = l.take (k + 1) := by
  unfold setL
  have h1 : (l.take k).length = k := by rw [List.length_take]; omega
  rw [h1, show k + 1 - k = 1 from by omega, List.take_add_one, hu]
  apply List.ext_getElem?
  intro i
  rw [List.getElem?_set]
  by_cases e : k = i
  · subst e
    rw [if_pos rfl, if_pos (by simp; omega), List.getElem?_append_right (by omega), h1]
    simp
  · rw [if_neg e]
    by_cases hi : i < k
    · rw [List.getElem?_append_left (by omega), List.getElem?_append_left (by omega)]
    · rw [List.getElem?_append_right (by omega), List.getElem?_append_right (by omega), h1]
      rw [List.getElem?_eq_none (by simp; omega), List.getElem?_eq_none (by simp; omega)]
/-- One key more. -/
theorem bld_step {v : J} {l : List J} (hk : keysJ v = some l) (hv : JN v) (k : Nat) (kj : J) (hkj : l[k]? = some kj) : ∃ u, atK v kj = some u ∧ JN u ∧ setJ [kj] (bldJ v k) u = some (bldJ v (k + 1)) := by
  cases v with
  | arr a =>
    simp only [keysJ, Option.some.injEq] at hk
    have hlt : k < a.length := by
      rw [← hk] at hkj
      have := (List.getElem?_eq_some_iff.1 hkj).1
      simpa using this
    have hu : a[k]? = some a[k] := List.getElem?_eq_getElem hlt
    rw [← hk, List.getElem?_map, List.getElem?_range hlt] at hkj
    cases hkj
    refine ⟨a[k], ?_, jn_arr_elim hv _ (List.getElem_mem hlt), ?_⟩
    · simp only [atK, atI, idxJ_natU, List.getD_eq_getElem?_getD, hu, Option.getD_some]
    · cases k with
      | zero =>
        have := setL_next a 0 a[0] hlt hu
        rw [List.take_zero] at this
        simp [bldJ, setJ, this]
      | succ k =>
        have := setL_next a (k + 1) a[k + 1] hlt hu
        simp only [bldJ, setJ, Int.toNat_natCast, this, Option.map_some]
  | obj ks vs =>
    simp only [keysJ, Option.some.injEq] at hk
    obtain ⟨g1, g2, g3, g4, g5⟩ := jn_obj_elim hv
    have hlt : k < ks.length := by
      rw [← hk] at hkj
      have := (List.getElem?_eq_some_iff.1 hkj).1
      simpa using this
    have hs : ks[k]? = some ks[k] := List.getElem?_eq_getElem hlt
    have hu : vs[k]? = some (vs[k]'(by omega)) := List.getElem?_eq_getElem (by omega)
    rw [← hk, List.getElem?_map, hs] at hkj
    cases hkj
    have hlook := look_at' ks vs k _ _ (sortedS_nodup g3) hs hu
    refine ⟨vs[k]'(by omega), by simp only [atK, atS, hlook, Option.getD_some], g5 _ (List.getElem_mem _), ?_⟩
    have hks : ks.take (k + 1) = ks.take k ++ [ks[k]] := by rw [List.take_add_one, hs]; rfl
    have hvs : vs.take (k + 1) = vs.take k ++ [vs[k]'(by omega)] := by rw [List.take_add_one, hu]; rfl
    have hsort : sortedS (ks.take k ++ [ks[k]]) := by
      rw [← hks]
      intro i a b ha hb
      refine g3 i a b ?_ ?_
      · rw [List.getElem?_take] at ha; split at ha <;> first | exact ha | cases ha
      · rw [List.getElem?_take] at hb; split at hb <;> first | exact hb | cases hb
    have hk1 := insK_last _ _ hsort
    have hv1 := insV_last (ks.take k) (vs.take k) ks[k] (vs[k]'(by omega)) hsort (by rw [List.length_take, List.length_take]; omega)
    cases k with
    | zero =>
      rw [List.take_zero] at hks hvs
      simp only [List.nil_append] at hks hvs
      simp [bldJ, setJ, hks, hvs]
    | succ k =>
      simp only [bldJ, setJ, hk1, hv1, Option.map_some, hks, hvs]
  | _ => simp [keysJ] at hk
theorem bld_all {v : J} {l : List J} (hk : keysJ v = some l) (hv : JN v) (hl : l ≠ []) : bldJ v l.length = v := by
  cases v with
  | arr a =>
    simp only [keysJ, Option.some.injEq] at hk
    have hlen : l.length = a.length := by rw [← hk]; simp
    have hpos := List.length_pos_iff.2 hl
    obtain ⟨m, hm⟩ : ∃ m, l.length = m + 1 := ⟨l.length - 1, by omega⟩
    rw [hm, bldJ, List.take_of_length_le (by omega)]
  | obj ks vs =>
    simp only [keysJ, Option.some.injEq] at hk
    obtain ⟨_, g2, _⟩ := jn_obj_elim hv
    have hlen : l.length = ks.length := by rw [← hk]; simp
    have hpos := List.length_pos_iff.2 hl
    obtain ⟨m, hm⟩ : ∃ m, l.length = m + 1 := ⟨l.length - 1, by omega⟩
    rw [hm, bldJ, List.take_of_length_le (by omega), List.take_of_length_le (by omega)]
  | _ => simp [keysJ] at hk
end Go.Proofs.YtpamlgdcnmcedaaGreatDoor

set_option linter.unusedVariables false
set_option linter.unusedSimpArgs false
set_option maxRecDepth 100000
namespace Go.Proofs.YtpamlgdcnmcedaaGreatDoor
open Go Go.RowKit
theorem zzIndex_step {x y : Value} {w : World} {R : Value → World → Prop} (h : Calls Tryz.prog 114 #[.nilIface, x, y] w fun e w' => ∃ u, e = .returned u ∧ Below w.heap.size w w' ∧ R u w') : Calls Tryz.prog 63 #[x, y] w fun e w' => ∃ u, e = .returned u ∧ Below w.heap.size w w' ∧ R u w' := by
  have H := Lib.hid h
  clear h
  go_enter Tryz.func63, Tryz.ntmps63
  go_wp2_with fail
  refine H.out.mono ?_
  rintro e' w' ⟨u, rfl, hb, hr⟩
  have HR := Lib.hid hr
  clear hr
  go_wp2_with fail
  go_ret
  exact ⟨_, rfl, hb, HR.out⟩
theorem implIndexAt (v k : V) (u : J) (hk : StepOK k.j) (hN : JN v.j) (ha : atK v.j k.j = some u) (ok : Nat → Prop) (cs1 cs2 : List Value) (w : World) (hv : Vr w ok v cs1) (hkv : Vr w ok k cs2)
    (wf1 : WF v) (wf2 : WF k) (sm1 : Sm v) (sm2 : Sm k) : Calls Tryz.prog 23 #[.agg cs1.toArray, .agg cs2.toArray] w (ResPost (fun v c => v = u.v ∧ c = 0) w) := by
  have hu : JN u := by
    rcases hk with ⟨s, he, hs⟩ | ⟨i, he, hi⟩
    · rw [he] at ha
      generalize v.j = vj at hN ha
      cases vj with
      | null => simp [atK, atS] at ha; rw [← ha]; exact jn_null
      | obj ks vs =>
        simp only [atK, atS, Option.some.injEq] at ha
        rw [← ha]
        exact jn_look (jn_obj_elim hN).2.2.2.2 s
      | _ => simp [atK, atS] at ha
    · rw [he] at ha
      generalize v.j = vj at hN ha
      cases vj with
      | null => simp [atK, atI] at ha; rw [← ha]; exact jn_null
      | arr l =>
        simp only [atK, atI, Option.some.injEq] at ha
        rw [← ha, idxJ_natU]
        exact jn_getD (jn_arr_elim hN) i
      | _ => simp [atK, atI] at ha
  refine door_Index v k ok cs1 cs2 w hv hkv wf1 wf2 sm1 sm2 (fun x W => Jr W (fun _ => True) u x) _ (fun x1 x2 W _ h1 h2 => ?_) (fun x W hx => ?_)
  · exact zzIndex_step (step_any v.j k.j u (fun _ => True) x1 x2 W hk hN ha h1 h2).2.2
  · exact (result_any _ (fun _ => True) _ W hu.2.2.1 hx).mono fun e w' h => resPost_ok h
theorem length_obj (b : Nat) (es : Array MapEntry) (clock : Nat) (n : Nat) (w : World) (hb : w.heap[b]? = some (.map es clock)) (hn : es.size = n) : Calls Tryz.prog 116 #[.iface 85 (.map (some b))] w fun e w' => e = .returned (.iface 3 (.int .i64 n)) ∧ w' = w := by
  have hlen : (Builtin.len_ #[85] 3 #[.map (some b)]).run Tryz.prog w = .ok (.int .i64 n) w := hn ▸ run_len_map _ _ _ _ _ _ rfl hb
  clear hb hn
  go_enter Tryz.func116, Tryz.ntmps116
  go_wp2_with fail
  go_ret
  exact ⟨rfl, rfl⟩
theorem zzLength_of {x y : Value} {w : World} (h : Calls Tryz.prog 116 #[x] w fun e w' => e = .returned y ∧ w' = w) : Calls Tryz.prog 65 #[x] w fun e w' => e = .returned y ∧ w' = w := by
  have H := Lib.hid h
  clear h
  go_enter Tryz.func65, Tryz.ntmps65
  go_wp2_with fail
  refine H.out.mono ?_
  rintro e' w' ⟨rfl, rfl⟩
  go_wp2_with fail
  go_ret
  exact ⟨rfl, rfl⟩
/-- impl.Length of a container without keys. -/
theorem implLength_nil (v : V) (hk : keysJ v.j = some []) (hN : JN v.j) (ok : Nat → Prop) (cs : List Value) (w : World) (hv : Vr w ok v cs) (wf : WF v) (sm : Sm v) :
    Calls Tryz.prog 28 #[.agg cs.toArray] w (ResPost (fun v c => v = V.mk 3 0 ⟨#[]⟩ [] [] [] ∧ c = 0) w) :=
  door_Length v ok cs w hv wf sm (fun x _ => x = .iface 3 (.int .i64 0)) _ (fun x W _ hx => by
    generalize v.j = vj at hk hx hN
    cases vj with
    | arr l =>
      have hl : l.length = 0 := by simpa [keysJ] using hk
      obtain _ | _ | _ | _ | _ | ⟨_, A, c, f, hc, r, e⟩ := hx
      rw [hl]
      refine (zzLength_of (length_arr A 0 c W)).mono ?_
      rintro e' w' ⟨rfl, rfl⟩
      exact ⟨_, rfl, Below.refl _ _, rfl⟩
    | obj ks vs =>
      have hl : ks.length = 0 := by simpa [keysJ] using hk
      obtain _ | _ | _ | _ | _ | _ | ⟨_, _, b, es, clock, f, ho, hb, hn, _, _, _, _, _, _⟩ := hx
      refine (zzLength_of (length_obj b es clock 0 W hb (by omega))).mono ?_
      rintro e' w' ⟨rfl, rfl⟩
      exact ⟨_, rfl, Below.refl _ _, rfl⟩
    | _ => simp [keysJ] at hk) (fun x W hx => by
    subst hx
    refine (result_any (.int 0) (fun _ => True) _ W (.int _ (by omega)) (.int _)).mono fun e w' h => resPost_mono (resPost_ok h) fun v c h => ?_
    rw [h.1, h.2]
    exact ⟨rfl, rfl⟩)
/-- impl.SetPath at one key of a value that comes back as it went. -/
theorem implSetKey (v n k : V) (r : J) (hu : JN v.j) (hL : Ln 1001 v.j) (hn : JN n.j) (hLn : Ln 1001 n.j) (hk : StepOK k.j) (hs : setJ [k.j] v.j n.j = some r) (ok : Nat → Prop) (cs1 cs2 cs3 : List Value) (w : World) (hv : Vr w ok v cs1) (hp : Vr w ok (mkL [k]) cs2) (hnv : Vr w ok n cs3)
    (w1 : WF v) (w2 : WF (mkL [k])) (w3 : WF n) (s1 : Sm v) (s2 : Sm (mkL [k])) (s3 : Sm n) : Calls Tryz.prog 30 #[.agg cs1.toArray, .agg cs2.toArray, .agg cs3.toArray] w (ResPost (fun x c => x = r.v ∧ c = 0) w) := by
  have hsteps : ∀ q, q ∈ V.js [k] → StepOK q := fun q hq => by
    rw [V.js_map] at hq
    simp at hq
    rw [hq]
    exact hk
  have hjs : V.js [k] = [k.j] := by rw [V.js_map]; rfl
  refine door_SetPath v (mkL [k]) n ok cs1 cs2 cs3 w hv hp hnv w1 w2 w3 s1 s2 s3 (fun x W => Jr W (fun _ => True) r x) _ (fun x1 x2 x3 W _ h1 h2 h3 => ?_) (fun x W hx => ?_)
  · have hj : (mkL [k]).j = .arr (V.js [k]) := by simp [mkL, V.j]
    rw [hj] at h2
    refine (zzSetPath_any v.j (V.js [k]) n.j _ _ x1 x2 x3 W hsteps hu h1 h2.jr h3.jr).mono ?_
    rintro e' w' ⟨x, rfl, hb, h⟩
    refine ⟨x, rfl, hb, ?_⟩
    rw [hjs, hs] at h
    rcases h with ⟨h, _⟩ | ⟨j, h, hj⟩
    · cases h
    · cases h
      exact hj
  · have hjr := (set_ok 1001 (by omega) [k.j] v.j n.j r (hjs ▸ hsteps) hu hL hn hLn hs).1
    exact (result_any _ (fun _ => True) _ W hjr.2.2.1 hx).mono fun e w' h => resPost_ok h
end Go.Proofs.YtpamlgdcnmcedaaGreatDoor

set_option linter.unusedVariables false
set_option linter.unusedSimpArgs false
set_option maxRecDepth 100000
namespace Go.Proofs.YtpamlgdcnmcedaaGreatDoor
open Go Go.RowKit
/-- A result that a law keeps, its value's blocks behind the world W. -/
def ResB (W : World) (v : V) (pv : Value) (wx : World) : Prop :=
  ∃ (g : Nat) (b0 b1 : Int) (sb : ByteArray) (T3 T4 T5 : Option Addr) (u3 v3 u4 v4 u5 v5 : Nat), pv = .pointer (some ⟨g, 0, none⟩) ∧ Below W.heap.size W wx ∧ W.heap.size ≤ g ∧
    wx.heap[g]? = some (.cells #[.int .i64 b0, .int .i64 b1, .string sb, .slice T3 u3 v3, .slice T4 u4 v4, .slice T5 u5 v5, .int .i64 0] 34 (0, 0)) ∧
    Vr wx (fun b => W.heap.size ≤ b) v [.int .i64 b0, .int .i64 b1, .string sb, .slice T3 u3 v3, .slice T4 u4 v4, .slice T5 u5 v5]
theorem resB_below {W wx : World} {v : V} {pv : Value} (h : ResB W v pv wx) : Below W.heap.size W wx := by
  obtain ⟨_, _, _, _, _, _, _, _, _, _, _, _, _, _, h, _⟩ := h
  exact h
set_option maxHeartbeats 4000000 in
theorem resB_set {W w : World} {M g : Nat} {v : V} {b0 b1 : Int} {sb : ByteArray} {T3 T4 T5 : Option Addr} {u3 v3 u4 v4 u5 v5 : Nat} {z0 z1 z2 z3 z4 z5 z6 : Value} (hb : Below W.heap.size W w) (hg0 : W.heap.size ≤ g) (hgM : g < M)
    (hg : w.heap[g]? = some (.cells #[z0, z1, z2, z3, z4, z5, z6] 34 (0, 0))) (hv : Vr w (fun b => M ≤ b) v [.int .i64 b0, .int .i64 b1, .string sb, .slice T3 u3 v3, .slice T4 u4 v4, .slice T5 u5 v5]) :
    ResB W v (.pointer (some ⟨g, 0, none⟩)) (((((((w.setCell ⟨g, 0, none⟩ (.int .i64 b0)).setCell ⟨g, 1, none⟩ (.int .i64 b1)).setCell ⟨g, 2, none⟩ (.string sb)).setCell ⟨g, 3, none⟩ (.slice T3 u3 v3)).setCell ⟨g, 4, none⟩ (.slice T4 u4 v4)).setCell ⟨g, 5, none⟩ (.slice T5 u5 v5)).setCell ⟨g, 6, none⟩ (.int .i64 0)) := by
  have hs : ∀ (W' : World) (i : Nat) (u : Value), Vr W' (fun b => M ≤ b) v [.int .i64 b0, .int .i64 b1, .string sb, .slice T3 u3 v3, .slice T4 u4 v4, .slice T5 u5 v5] → Vr (W'.setCell ⟨g, i, none⟩ u) (fun b => M ≤ b) v [.int .i64 b0, .int .i64 b1, .string sb, .slice T3 u3 v3, .slice T4 u4 v4, .slice T5 u5 v5] := fun W' i u h =>
    h.move fun b hb => Below.heap_setCell _ _ _ _ (by show b ≠ g; omega)
  refine ⟨g, b0, b1, sb, T3, T4, T5, u3, v3, u4, v4, u5, v5, rfl, ?_, hg0, ?_, ?_⟩
  · have q : ∀ (W' : World) (i : Nat) (u : Value), Below W.heap.size W W' → Below W.heap.size W (W'.setCell ⟨g, i, none⟩ u) := fun W' i u h => h.setCell hg0 u
    apply q; apply q; apply q; apply q; apply q; apply q; apply q
    exact hb
  · have k0 := heap_setCell_row (i := 0) hg (.int .i64 b0)
    have k1 := heap_setCell_row (i := 1) k0 (.int .i64 b1)
    have k2 := heap_setCell_row (i := 2) k1 (.string sb)
    have k3 := heap_setCell_row (i := 3) k2 (.slice T3 u3 v3)
    have k4 := heap_setCell_row (i := 4) k3 (.slice T4 u4 v4)
    have k5 := heap_setCell_row (i := 5) k4 (.slice T5 u5 v5)
    have k6 := heap_setCell_row (i := 6) k5 (.int .i64 0)
    exact k6
  · refine Vr.mono (ok := fun b => M ≤ b) (fun b hb => Nat.le_trans (Nat.le_trans hg0 (Nat.le_of_lt hgM)) hb) ?_
    apply hs; apply hs; apply hs; apply hs; apply hs; apply hs; apply hs
    exact hv
theorem resB_alloc {W w : World} {M : Nat} {v : V} {b0 b1 : Int} {sb : ByteArray} {T3 T4 T5 : Option Addr} {u3 v3 u4 v4 u5 v5 : Nat} (hb : Below W.heap.size W w) (hM : W.heap.size ≤ M)
    (hv : Vr w (fun b => M ≤ b) v [.int .i64 b0, .int .i64 b1, .string sb, .slice T3 u3 v3, .slice T4 u4 v4, .slice T5 u5 v5]) :
    ResB W v (.pointer (some ⟨w.heap.size, 0, none⟩)) (w.alloc (.cells #[.int .i64 b0, .int .i64 b1, .string sb, .slice T3 u3 v3, .slice T4 u4 v4, .slice T5 u5 v5, .int .i64 0] 34)) :=
  ⟨w.heap.size, b0, b1, sb, T3, T4, T5, u3, v3, u4, v4, u5, v5, rfl, hb.alloc hb.size _, hb.size, heap_alloc_new w _, (hv.mono fun b hb' => Nat.le_trans hM hb').keep ((Below.refl _ _).alloc (Nat.le_refl _) _)⟩
/-- The variable of the law: what has been built. -/
def XAt (w7 : World) (v : V) (wr : World) : Prop := ∃ (b0 b1 : Int) (sb : ByteArray) (T3 T4 T5 : Option Addr) (u3 v3 u4 v4 u5 v5 : Nat), Below w7.heap.size w7 wr ∧
  wr.heap[w7.heap.size]? = some (.cells #[.int .i64 b0, .int .i64 b1, .string sb, .slice T3 u3 v3, .slice T4 u4 v4, .slice T5 u5 v5] 26 (0, 0)) ∧
  Vr wr (fun b => w7.heap.size < b) v [.int .i64 b0, .int .i64 b1, .string sb, .slice T3 u3 v3, .slice T4 u4 v4, .slice T5 u5 v5]
set_option maxHeartbeats 4000000 in
theorem xAt_set {w7 w : World} {M : Nat} {v : V} {b0 b1 : Int} {sb : ByteArray} {T3 T4 T5 : Option Addr} {u3 v3 u4 v4 u5 v5 : Nat} {z0 z1 z2 z3 z4 z5 : Value} (hb : Below w7.heap.size w7 w) (hM : w7.heap.size < M)
    (hx : w.heap[w7.heap.size]? = some (.cells #[z0, z1, z2, z3, z4, z5] 26 (0, 0))) (hv : Vr w (fun b => M ≤ b) v [.int .i64 b0, .int .i64 b1, .string sb, .slice T3 u3 v3, .slice T4 u4 v4, .slice T5 u5 v5]) :
    XAt w7 v ((((((w.setCell ⟨w7.heap.size, 0, none⟩ (.int .i64 b0)).setCell ⟨w7.heap.size, 1, none⟩ (.int .i64 b1)).setCell ⟨w7.heap.size, 2, none⟩ (.string sb)).setCell ⟨w7.heap.size, 3, none⟩ (.slice T3 u3 v3)).setCell ⟨w7.heap.size, 4, none⟩ (.slice T4 u4 v4)).setCell ⟨w7.heap.size, 5, none⟩ (.slice T5 u5 v5)) := by
  have hs : ∀ (W' : World) (i : Nat) (u : Value), Vr W' (fun b => M ≤ b) v [.int .i64 b0, .int .i64 b1, .string sb, .slice T3 u3 v3, .slice T4 u4 v4, .slice T5 u5 v5] → Vr (W'.setCell ⟨w7.heap.size, i, none⟩ u) (fun b => M ≤ b) v [.int .i64 b0, .int .i64 b1, .string sb, .slice T3 u3 v3, .slice T4 u4 v4, .slice T5 u5 v5] := fun W' i u h =>
    h.move fun b hb => Below.heap_setCell _ _ _ _ (by show b ≠ w7.heap.size; omega)
  refine ⟨b0, b1, sb, T3, T4, T5, u3, v3, u4, v4, u5, v5, ?_, ?_, ?_⟩
  · have q : ∀ (W' : World) (i : Nat) (u : Value), Below w7.heap.size w7 W' → Below w7.heap.size w7 (W'.setCell ⟨w7.heap.size, i, none⟩ u) := fun W' i u h => h.setCell (Nat.le_refl _) u
    apply q; apply q; apply q; apply q; apply q; apply q
    exact hb
  · have k0 := heap_setCell_row (i := 0) hx (.int .i64 b0)
    have k1 := heap_setCell_row (i := 1) k0 (.int .i64 b1)
    have k2 := heap_setCell_row (i := 2) k1 (.string sb)
    have k3 := heap_setCell_row (i := 3) k2 (.slice T3 u3 v3)
    have k4 := heap_setCell_row (i := 4) k3 (.slice T4 u4 v4)
    have k5 := heap_setCell_row (i := 5) k4 (.slice T5 u5 v5)
    exact k5
  · refine Vr.mono (ok := fun b => M ≤ b) (fun b hb => Nat.lt_of_lt_of_le hM hb) ?_
    apply hs; apply hs; apply hs; apply hs; apply hs; apply hs
    exact hv
theorem vs_at {l : List J} {k : Nat} {j : J} (h : l[k]? = some j) : (J.vs l)[k]? = some j.v := by rw [J.vs_map, List.getElem?_map, h]; rfl
theorem keys_step {v : J} {l : List J} (hk : keysJ v = some l) (hv : JN v) (hL : Ln 1000 v) : ∀ k, k ∈ l → StepOK k := by
  intro k hm
  cases v with
  | arr a =>
    simp only [keysJ, Option.some.injEq] at hk
    obtain _ | _ | _ | _ | _ | ⟨_, l1, l3⟩ := hL
    rw [← hk] at hm
    obtain ⟨i, hi, rfl⟩ := List.mem_map.1 hm
    have hi' : i < a.length := by simpa using hi
    exact .inr ⟨i, rfl, by omega⟩
  | obj ks vs =>
    simp only [keysJ, Option.some.injEq] at hk
    rw [← hk] at hm
    obtain ⟨t, ht, rfl⟩ := List.mem_map.1 hm
    exact .inl ⟨t, rfl, (jn_obj_elim hv).2.2.2.1 t ht⟩
  | _ => simp [keysJ] at hk
theorem sortedS_take {ks : List ByteArray} (h : sortedS ks) (n : Nat) : sortedS (ks.take n) := by
  intro i a b ha hb
  refine h i a b ?_ ?_
  · rw [List.getElem?_take] at ha; split at ha <;> first | exact ha | cases ha
  · rw [List.getElem?_take] at hb; split at hb <;> first | exact hb | cases hb
theorem bld_jn {v : J} (hv : JN v) (k : Nat) : JN (bldJ v k) := by
  cases k with
  | zero => cases v <;> exact jn_null
  | succ k =>
    cases v with
    | arr a => exact jn_arr (fun j hj => jn_arr_elim hv j (List.mem_of_mem_take hj)) (by have := jn_len hv; rw [List.length_take]; omega)
    | obj ks vs =>
      obtain ⟨g1, g2, g3, g4, g5⟩ := jn_obj_elim hv
      exact jn_obj (by rw [List.length_take]; omega) (by rw [List.length_take, List.length_take]; omega) (sortedS_take g3 _) (fun t ht => g4 t (List.mem_of_mem_take ht)) (fun j hj => g5 j (List.mem_of_mem_take hj))
    | _ => exact jn_null
theorem bld_ln {v : J} {b : Nat} (hv : Ln b v) (k : Nat) : Ln b (bldJ v k) := by
  cases k with
  | zero => cases v <;> exact .null
  | succ k =>
    cases v with
    | arr a =>
      obtain _ | _ | _ | _ | _ | ⟨_, l1, l3⟩ := hv
      exact .arr _ (by rw [List.length_take]; omega) fun j hj => l3 j (List.mem_of_mem_take hj)
    | obj ks vs =>
      obtain _ | _ | _ | _ | _ | _ | ⟨_, _, l1, l2, l3⟩ := hv
      exact .obj _ _ (by rw [List.length_take]; omega) (by rw [List.length_take, List.length_take]; omega) fun j hj => l3 j (List.mem_of_mem_take hj)
    | _ => exact .null
theorem at_ln {v k u : J} {b : Nat} (hv : Ln b v) (hk : StepOK k) (h : atK v k = some u) : Ln b u := by
  rcases hk with ⟨s, rfl, _⟩ | ⟨i, rfl, _⟩
  · cases v with
    | null => simp [atK, atS] at h; rw [← h]; exact .null
    | obj ks vs =>
      obtain _ | _ | _ | _ | _ | _ | ⟨_, _, l1, l2, l3⟩ := hv
      simp only [atK, atS, Option.some.injEq] at h
      rw [← h]
      exact ln_look l3 s
    | _ => simp [atK, atS] at h
  · cases v with
    | null => simp [atK, atI] at h; rw [← h]; exact .null
    | arr l =>
      obtain _ | _ | _ | _ | _ | ⟨_, l1, l3⟩ := hv
      simp only [atK, atI, Option.some.injEq] at h
      rw [← h, idxJ_natU]
      exact ln_getD l3 i
    | _ => simp [atK, atI] at h
set_option maxHeartbeats 8000000 in
theorem keysBuild_law (v1 : V) (ok : Nat → Prop) (cs1 : List Value) (w : World) (hv1 : Vr w ok v1 cs1) (hT : Lib.Utf8Tabs 0 1 w) :
    Calls Tryz.prog 9 #[.agg cs1.toArray] w (LawP w) := by
  have HV1 := Lib.hid hv1
  have HT := Lib.hid hT
  obtain ⟨k1, h1, t1, l1, ks1, vs1, P1, p1, Q1, q1, R1, r1, f1, g1, i1, i2, i3, i4, i5, i6, i7, i8, i9, i10, i11, i12, i13, i14, i15⟩ := hv1
  clear i1 i2 i3 i4 i5 i6 i7 i8 i9 i10 i11 i12 i13 i14 i15 hT
  obtain ⟨W0, hW0⟩ : ∃ W0, W0 = w.alloc (.cells #[.int .i64 k1, .int .i64 h1, .string t1, .slice P1 l1.length p1, .slice Q1 ks1.length q1, .slice R1 vs1.length r1] 26) := ⟨_, rfl⟩
  have hBW0 : Below w.heap.size w W0 := by rw [hW0]; exact (Below.refl _ _).alloc (Nat.le_refl _) _
  have hSW0 : W0.heap.size = w.heap.size + 1 := by rw [hW0]; simp
  have hD0 : W0.heap[w.heap.size]? = some (.cells #[.int .i64 k1, .int .i64 h1, .string t1, .slice P1 l1.length p1, .slice Q1 ks1.length q1, .slice R1 vs1.length r1] 26) := by rw [hW0]; exact heap_alloc_new w _
  have hfar : ∀ W, Below W0.heap.size W0 W → W.cell? ⟨w.heap.size, 0, none⟩ = some (.int .i64 k1) ∧ W.cell? ⟨w.heap.size, 1, none⟩ = some (.int .i64 h1) ∧ W.cell? ⟨w.heap.size, 2, none⟩ = some (.string t1) ∧ W.cell? ⟨w.heap.size, 3, none⟩ = some (.slice P1 l1.length p1) ∧ W.cell? ⟨w.heap.size, 4, none⟩ = some (.slice Q1 ks1.length q1) ∧ W.cell? ⟨w.heap.size, 5, none⟩ = some (.slice R1 vs1.length r1) := fun W hb => by
    have q1 := (hb.block _ (by omega)).trans hD0
    refine ⟨?_, ?_, ?_, ?_, ?_, ?_⟩ <;> simp [World.cell?, q1]
  have HK0 := Lib.hid hfar
  have HW0 := Lib.hid hW0
  have HBW0 := Lib.hid hBW0
  have HSW0 := Lib.hid hSW0
  clear hfar hW0 hBW0 hSW0 hD0
  go_enter Tryz.func9, Tryz.ntmps9
  go_wp2_with fail
  rw [← HW0.out]
  refine (zzFits1_any (V.mk k1 h1 t1 l1 ks1 vs1) ok _ W0 (HV1.out.keep HBW0.out)).mono ?_
  rintro e' w3 ⟨⟨r, rfl⟩, hb3⟩
  have HB3 := Lib.hid hb3
  clear hb3
  obtain ⟨z0, z1, z2, z3, z4, z5⟩ := HK0.out w3 HB3.out
  cases r
  · go_wp2_with fail
    go_ret
    exact ⟨rfl, below_trans HBW0.out HB3.out⟩
  go_wp2_with fail
  refine (fits_any [(V.mk k1 h1 t1 l1 ks1 vs1)] 1 rfl (fun _ => True) _ 1 _ _ (row_one (heap_alloc_new w3 _)) (fun i v hv => by
    match i, hv with
    | 0, hv => simp at hv; subst hv; exact (HV1.out.mono fun _ _ => trivial).keep (below_trans HBW0.out (HB3.out.alloc HB3.out.size _))
    | i + 1, hv => simp at hv) (by decide) (Utf8Tabs_below HT.out (below_trans HBW0.out (HB3.out.alloc HB3.out.size _)))).mono ?_
  rintro e' w4 ⟨hb4, r, rfl, hf⟩
  have HB4 := Lib.hid (below_trans (HB3.out.alloc HB3.out.size (.cells #[.int .i64 k1, .int .i64 h1, .string t1, .slice P1 l1.length p1, .slice Q1 ks1.length q1, .slice R1 vs1.length r1] 26)) hb4)
  have HF := Lib.hid hf
  clear hb4 hf z0 z1 z2 z3 z4 z5
  obtain ⟨z0, z1, z2, z3, z4, z5⟩ := HK0.out w4 HB4.out
  cases r
  · go_wp2_with fail
    go_ret
    exact ⟨rfl, below_trans HBW0.out HB4.out⟩
  have WV := Lib.hid (HF.out rfl (V.mk k1 h1 t1 l1 ks1 vs1) (by simp))
  go_wp2_with fail
  refine (container_any (V.mk k1 h1 t1 l1 ks1 vs1) ok _ w4 (HV1.out.keep (below_trans HBW0.out HB4.out))).mono ?_
  rintro e' w5 ⟨rfl, hb5⟩
  have HB5 := Lib.hid (below_trans HB4.out hb5)
  clear hb5 z0 z1 z2 z3 z4 z5
  obtain ⟨z0, z1, z2, z3, z4, z5⟩ := HK0.out w5 HB5.out
  obtain ⟨bc, hbc⟩ : ∃ bc, bc = (V.kind (V.mk k1 h1 t1 l1 ks1 vs1) == 5 || V.kind (V.mk k1 h1 t1 l1 ks1 vs1) == 6) := ⟨_, rfl⟩
  rw [← hbc]
  have HBC := Lib.hid hbc
  clear hbc
  cases bc
  · go_wp2_with fail
    go_ret
    exact ⟨rfl, below_trans HBW0.out HB5.out⟩
  obtain ⟨kl, hkl⟩ : ∃ kl, keysJ (V.j (V.mk k1 h1 t1 l1 ks1 vs1)) = some kl := by
    have h := HBC.out
    simp only [V.kind, Bool.true_eq, Bool.or_eq_true, beq_iff_eq] at h
    rcases h with h | h
    · subst h; exact ⟨_, by simp [V.j, keysJ]; rfl⟩
    · subst h; exact ⟨_, by simp [V.j, keysJ]; rfl⟩
  have hjn := jn_of HV1.out WV.out.1 (by have := WV.out.2; omega)
  have HKL := Lib.hid hkl
  have HJN := Lib.hid hjn
  have HJL := Lib.hid (keys_jn hkl hjn)
  clear hkl hjn
  go_wp2_with fail
  refine (implKeys (V.mk k1 h1 t1 l1 ks1 vs1) kl HKL.out HJN.out ok _ w5 (HV1.out.keep (below_trans HBW0.out HB5.out)) WV.out.1 (sm_of (by have := WV.out.2; omega))).mono ?_
  rintro e' w6 h6
  obtain ⟨v6, a0, a1, s, S3, S4, S5, n3, m3, n4, m4, n5, m5, cc, rfl, hv6, ⟨rfl, rfl⟩, hb6⟩ := resPost_shape h6
  obtain ⟨tl, htl⟩ : ∃ tl, tl = J.vs kl := ⟨_, rfl⟩
  rw [J.v, ← htl] at hv6
  have hshape : a0 = 5 ∧ n3 = tl.length := by
    cases hv6
    exact ⟨rfl, rfl⟩
  obtain ⟨rfl, hn3⟩ := hshape
  have HV6 := Lib.hid (hv6.mono (ok' := fun _ => True) fun _ _ => trivial)
  have HB6 := Lib.hid (below_trans HB5.out hb6)
  have HTL := Lib.hid htl
  have HN3 := Lib.hid hn3
  clear h6 hv6 hb6 htl hn3 z0 z1 z2 z3 z4 z5
  go_wp2_with fail
  refine (listedC_arr a1 s S3 S4 S5 n3 m3 n4 m4 n5 m5 w6).mono ?_
  rintro e' w7 ⟨rfl, hb7⟩
  have HB7 := Lib.hid (below_trans HB6.out hb7)
  have HV7 := Lib.hid (HV6.out.keep hb7)
  clear hb7
  obtain ⟨W1, hW1⟩ : ∃ W1, W1 = w7.alloc (.cells #[.int .i64 0, .int .i64 0, .string ⟨#[]⟩, .slice none 0 0, .slice none 0 0, .slice none 0 0] 26) := ⟨_, rfl⟩
  have hB71 : Below w7.heap.size w7 W1 := by rw [hW1]; exact (Below.refl _ _).alloc (Nat.le_refl _) _
  have hX1 : W1.heap[w7.heap.size]? = some (.cells #[.int .i64 0, .int .i64 0, .string ⟨#[]⟩, .slice none 0 0, .slice none 0 0, .slice none 0 0] 26 (0, 0)) := by rw [hW1]; exact heap_alloc_new w7 _
  have HW1 := Lib.hid hW1
  have HB71 := Lib.hid hB71
  have HX1 := Lib.hid hX1
  clear hW1 hB71 hX1
  by_cases hn0 : n3 = 0
  · subst hn0
    have hkn : kl = [] := by
      have := HN3.out
      rw [HTL.out, J.vs_map, List.length_map] at this
      exact List.eq_nil_of_length_eq_zero this.symm
    have HKN := Lib.hid hkn
    clear hkn
    obtain ⟨z0, z1, z2, z3, z4, z5⟩ := HK0.out W1 (below_trans HB7.out HB71.out)
    go_upto_region 7 with fail
    rw [← HW1.out]
    go_wp2_with fail
    refine (implLength_nil (V.mk k1 h1 t1 l1 ks1 vs1) (by rw [HKL.out, HKN.out]) HJN.out ok _ W1 (HV1.out.keep (below_trans HBW0.out (below_trans HB7.out HB71.out))) WV.out.1 (sm_of (by have := WV.out.2; omega))).mono ?_
    rintro e' w8 h8
    obtain ⟨v8, d0, d1, sd, X3, X4, X5, a3, e3, a4, e4, a5, e5, cd, rfl, hv8, ⟨rfl, rfl⟩, hb8⟩ := resPost_shape h8
    have HB8 := Lib.hid (below_trans (below_trans HB7.out HB71.out) hb8)
    have HV8 := Lib.hid (hv8.mono (ok' := fun _ => True) fun _ _ => trivial)
    clear h8 hv8 hb8 z0 z1 z2 z3 z4 z5
    go_wp2_with fail
    refine (lawNumber_any 0 (by omega) _).mono ?_
    rintro e' w9 ⟨rfl, hb9⟩
    have HB9 := Lib.hid (below_trans HB8.out hb9)
    have HV9 := Lib.hid (HV8.out.keep hb9)
    clear hb9
    go_wp2_with fail
    have hj0 := jn_int 0 (by omega)
    refine (given_any (V.mk 3 0 ⟨#[]⟩ [] [] []) (V.mk 3 0 ⟨#[]⟩ [] [] []) (fun _ => True) _ _ _ _ _ _ _ _ _ _ _ _ [.int .i64 3, .int .i64 0, .string ⟨#[]⟩, .slice none 0 0, .slice none 0 0, .slice none 0 0] _ HV9.out (vr_plain' 3 0 (by decide) (by decide)) hj0.1 hj0.1 (cmpV_self _)).mono ?_
    rintro e' w10 ⟨rfl, hb10⟩
    have HB10 := Lib.hid (below_trans HB9.out hb10)
    clear hb10 hj0
    go_wp2_with fail
    go_ret
    exact ⟨rfl, below_trans HBW0.out HB10.out⟩
  · have hn0I : ¬ (n3 : Int) = 0 := by omega
    have hbq : ((n3 : Int) == 0) = false := by simpa using hn0I
    have hkn : kl.length = n3 := by
      have := HN3.out
      rw [HTL.out, J.vs_map, List.length_map] at this
      exact this.symm
    have hx0 : XAt w7 (bldJ (V.j (V.mk k1 h1 t1 l1 ks1 vs1)) 0).v W1 := by
      refine ⟨0, 0, ⟨#[]⟩, none, none, none, 0, 0, 0, 0, 0, 0, HB71.out, HX1.out, ?_⟩
      have hb0 : bldJ (V.j (V.mk k1 h1 t1 l1 ks1 vs1)) 0 = .null := by cases V.j (V.mk k1 h1 t1 l1 ks1 vs1) <;> rfl
      rw [hb0]
      exact vr_plain' 0 0 (by decide) (by decide)
    have hl6 : n3 ≤ 1000000 := by
      have := jn_len HJL.out
      omega
    have HX0 := Lib.hid hx0
    have HL1 := Lib.hid ((ln_v _ 400 (V.mk k1 h1 t1 l1 ks1 vs1) (Nat.lt_succ_self _) WV.out.1 WV.out.2).mono (show 400 ≤ 1000 by omega))
    have HKN := Lib.hid hkn
    clear hx0 hkn
    go_upto_region 7 with fail
    rw [← HW1.out]
    go_wp2_with fail
    go_loopw [40] (fun i wr => ∃ k : Nat, k ≤ n3 ∧ i = .int .i64 k ∧ XAt w7 (bldJ (V.j (V.mk k1 h1 t1 l1 ks1 vs1)) k).v wr) (fun i _ => n3 - (intOf i).toNat)
    case atStart => exact ⟨0, Nat.zero_le _, rfl, HX0.out⟩
    case round =>
      obtain ⟨k, hk, rfl, b0, b1, sb, T3, T4, T5, u3, v3, u4, v4, u5, v5, hbr, hX, hVX⟩ := hrel
      by_cases hlt : k < n3
      · have hkl : k < kl.length := by have := HKN.out; omega
        obtain ⟨u, hat, hju, hset⟩ := bld_step HKL.out HJN.out k kl[k] (List.getElem?_eq_getElem hkl)
        obtain ⟨kj, hkj⟩ : ∃ kj, kj = kl[k] := ⟨_, rfl⟩
        rw [← hkj] at hat hset
        have hjk : JN kj := hkj ▸ jn_arr_elim HJL.out _ (List.getElem_mem hkl)
        obtain ⟨ad, fx, hA1, hcx, hVK⟩ : ∃ (ad : Addr) (fx : List Value), S3 = some ad ∧ (∀ j u, fx[j]? = some u → w7.cell? (ad.add (k * 6 + j)) = some u) ∧ Vr w7 (fun _ => True) kj.v fx := by
          have hV7 := HV7.out
          have htk : tl[k]? = some kj.v := by rw [HTL.out, hkj]; exact vs_at (List.getElem?_eq_getElem hkl)
          obtain ⟨_, _, _, _, _, _, _, _, _, _, _, _, fe, _, _, _, _, _, _, _, _, _, _, _, r1', e1', _, _, _⟩ := hV7
          obtain ⟨ad, hA, _, hcc⟩ := r1' (by have := HN3.out; omega)
          exact ⟨ad, fe k, hA, fun j u hu => hcc k j u (by have := HN3.out; omega) hu, e1' k _ htk⟩
        subst hA1
        obtain ⟨c0, c1, cs, C3, C4, C5, x3, y3, x4, y4, x5, y5, hfx⟩ : ∃ (c0 c1 : Int) (cs : ByteArray) (C3 C4 C5 : Option Addr) (x3 y3 x4 y4 x5 y5 : Nat), fx = [.int .i64 c0, .int .i64 c1, .string cs, .slice C3 x3 y3, .slice C4 x4 y4, .slice C5 x5 y5] := by
          generalize kj.v = kv at hVK
          cases hVK
          exact ⟨_, _, _, _, _, _, _, _, _, _, _, _, rfl⟩
        subst hfx
        have hcr := fun j u hu => cell_kept hbr (hcx j u hu)
        obtain ⟨s0, s1, s2, s3, s4, s5⟩ := cells6 hcr
        have HVK := Lib.hid hVK
        have HVX := Lib.hid hVX
        have HXB := Lib.hid hX
        have HBR := Lib.hid hbr
        have HAT := Lib.hid hat
        have HJU := Lib.hid hju
        have HSET := Lib.hid hset
        have HJK := Lib.hid hjk
        have HSTEP := Lib.hid (hkj ▸ keys_step HKL.out HJN.out HL1.out _ (List.getElem_mem hkl) : StepOK kj)
        have i0 : (0 : Int) ≤ (k : Int) := Int.natCast_nonneg _
        have i1 : (k : Int) < (n3 : Int) := by omega
        clear hcx hcr hVK hVX hX hbr hat hju hset hjk hkj hkl
        obtain ⟨W2, hW2⟩ : ∃ W2, W2 = wr.alloc (.cells #[.int .i64 c0, .int .i64 c1, .string cs, .slice C3 x3 y3, .slice C4 x4 y4, .slice C5 x5 y5] 26) := ⟨_, rfl⟩
        have hb2 : Below wr.heap.size wr W2 := by rw [hW2]; exact (Below.refl _ _).alloc (Nat.le_refl _) _
        have hK2 : W2.heap[wr.heap.size]? = some (.cells #[.int .i64 c0, .int .i64 c1, .string cs, .slice C3 x3 y3, .slice C4 x4 y4, .slice C5 x5 y5] 26 (0, 0)) := by rw [hW2]; exact heap_alloc_new wr _
        have HW2 := Lib.hid hW2
        have HB2 := Lib.hid hb2
        have HK2 := Lib.hid hK2
        clear hW2 hb2 hK2
        obtain ⟨z0, z1, z2, z3, z4, z5⟩ := HK0.out W2 (below_trans HB7.out (below_trans HBR.out HB2.out))
        have kc : ∀ W : World, Below W2.heap.size W2 W → W.cell? ⟨wr.heap.size, 0, none⟩ = some (.int .i64 c0) ∧ W.cell? ⟨wr.heap.size, 1, none⟩ = some (.int .i64 c1) ∧ W.cell? ⟨wr.heap.size, 2, none⟩ = some (.string cs) ∧ W.cell? ⟨wr.heap.size, 3, none⟩ = some (.slice C3 x3 y3) ∧ W.cell? ⟨wr.heap.size, 4, none⟩ = some (.slice C4 x4 y4) ∧ W.cell? ⟨wr.heap.size, 5, none⟩ = some (.slice C5 x5 y5) := fun W hb => by
          have q1 := (hb.block _ (heap_lt HK2.out)).trans HK2.out
          refine ⟨?_, ?_, ?_, ?_, ?_, ?_⟩ <;> simp [World.cell?, q1]
        have HKC := Lib.hid kc
        clear kc
        obtain ⟨e0, e1, e2, e3, e4, e5⟩ := HKC.out W2 (Below.refl _ _)
        go_upto_region 12 with fail
        rw [← HW2.out]
        go_wp2_with fail
        refine (implIndexAt (V.mk k1 h1 t1 l1 ks1 vs1) kj.v u (by rw [HJK.out.2.2.2]; exact HSTEP.out) HJN.out (by rw [HJK.out.2.2.2]; exact HAT.out) (fun _ => True) [.int .i64 k1, .int .i64 h1, .string t1, .slice P1 l1.length p1, .slice Q1 ks1.length q1, .slice R1 vs1.length r1] [.int .i64 c0, .int .i64 c1, .string cs, .slice C3 x3 y3, .slice C4 x4 y4, .slice C5 x5 y5] W2 ((HV1.out.mono fun _ _ => trivial).keep (below_trans HBW0.out (below_trans HB7.out (below_trans HBR.out HB2.out)))) (HVK.out.keep (below_trans HBR.out HB2.out)) WV.out.1 HJK.out.1 (sm_of (by have := WV.out.2; omega)) HJK.out.2.1).mono ?_
        rintro e' w8 h8
        obtain ⟨v8, d0, d1, sd, D3, D4, D5, a3, b3, a4, b4, a5, b5, cd, rfl, hv8, ⟨rfl, rfl⟩, hb8⟩ := resPost_shape h8
        obtain ⟨W4, hW4⟩ : ∃ W4, W4 = w8.alloc (.cells #[.int .i64 d0, .int .i64 d1, .string sd, .slice D3 a3 b3, .slice D4 a4 b4, .slice D5 a5 b5, .int .i64 0] 34) := ⟨_, rfl⟩
        have hb4 : Below w8.heap.size w8 W4 := by rw [hW4]; exact (Below.refl _ _).alloc (Nat.le_refl _) _
        have hY4 : W4.heap[w8.heap.size]? = some (.cells #[.int .i64 d0, .int .i64 d1, .string sd, .slice D3 a3 b3, .slice D4 a4 b4, .slice D5 a5 b5, .int .i64 0] 34 (0, 0)) := by rw [hW4]; exact heap_alloc_new w8 _
        have HW4 := Lib.hid hW4
        have HY4 := Lib.hid hY4
        have HB24 := Lib.hid (below_trans hb8 hb4)
        have HVY := Lib.hid ((hv8.mono (ok' := fun _ => True) fun _ _ => trivial).keep hb4)
        have hltx : w7.heap.size < wr.heap.size := heap_lt HXB.out
        have hltk : wr.heap.size < W2.heap.size := heap_lt HK2.out
        have hlty : W2.heap.size ≤ w8.heap.size := hb8.size
        have hlt4 : w8.heap.size < W4.heap.size := heap_lt hY4
        clear hW4 hY4 h8 hv8 hb8 hb4 z0 z1 z2 z3 z4 z5 e0 e1 e2 e3 e4 e5 s0 s1 s2 s3 s4 s5
        go_upto_region 13 with fail
        rw [← HW4.out]
        have HKB := Lib.hid (show ∀ W : World, Below W4.heap.size W4 W → W.cell? ⟨w7.heap.size, 0, none⟩ = some (.int .i64 b0) ∧ W.cell? ⟨w7.heap.size, 1, none⟩ = some (.int .i64 b1) ∧ W.cell? ⟨w7.heap.size, 2, none⟩ = some (.string sb) ∧ W.cell? ⟨w7.heap.size, 3, none⟩ = some (.slice T3 u3 v3) ∧ W.cell? ⟨w7.heap.size, 4, none⟩ = some (.slice T4 u4 v4) ∧ W.cell? ⟨w7.heap.size, 5, none⟩ = some (.slice T5 u5 v5) ∧ W.cell? ⟨wr.heap.size, 0, none⟩ = some (.int .i64 c0) ∧ W.cell? ⟨wr.heap.size, 1, none⟩ = some (.int .i64 c1) ∧ W.cell? ⟨wr.heap.size, 2, none⟩ = some (.string cs) ∧ W.cell? ⟨wr.heap.size, 3, none⟩ = some (.slice C3 x3 y3) ∧ W.cell? ⟨wr.heap.size, 4, none⟩ = some (.slice C4 x4 y4) ∧ W.cell? ⟨wr.heap.size, 5, none⟩ = some (.slice C5 x5 y5) ∧ W.cell? ⟨w8.heap.size, 0, none⟩ = some (.int .i64 d0) ∧ W.cell? ⟨w8.heap.size, 1, none⟩ = some (.int .i64 d1) ∧ W.cell? ⟨w8.heap.size, 2, none⟩ = some (.string sd) ∧ W.cell? ⟨w8.heap.size, 3, none⟩ = some (.slice D3 a3 b3) ∧ W.cell? ⟨w8.heap.size, 4, none⟩ = some (.slice D4 a4 b4) ∧ W.cell? ⟨w8.heap.size, 5, none⟩ = some (.slice D5 a5 b5) ∧ W.cell? ⟨w8.heap.size, 6, none⟩ = some (.int .i64 0) from fun W hb => by
          have q1 := ((below_trans HB2.out (below_trans HB24.out hb)).block _ (heap_lt HXB.out)).trans HXB.out
          have q2 := (hb.block _ hlt4).trans HY4.out
          obtain ⟨e0, e1, e2, e3, e4, e5⟩ := HKC.out W (below_trans HB24.out hb)
          refine ⟨?_, ?_, ?_, ?_, ?_, ?_, e0, e1, e2, e3, e4, e5, ?_, ?_, ?_, ?_, ?_, ?_, ?_⟩ <;> simp [World.cell?, q1, q2])
        have hjb := bld_jn HJN.out k
        have hlb := (bld_ln HL1.out k).mono (show 1000 ≤ 1001 by omega)
        have hlu := (at_ln HL1.out HSTEP.out HAT.out).mono (show 1000 ≤ 1001 by omega)
        have hja : JN (.arr [kj]) := jn_arr (fun j hj => by simp at hj; rw [hj]; exact HJK.out) (by simp)
        have HSK := Lib.hid (fun (W : World) (sb' : Nat) (hb : Below W4.heap.size W4 W) (hs : W.heap[sb']? = some (.cells #[.int .i64 c0, .int .i64 c1, .string cs, .slice C3 x3 y3, .slice C4 x4 y4, .slice C5 x5 y5] 26 (0, 0))) => implSetKey (bldJ (V.j (V.mk k1 h1 t1 l1 ks1 vs1)) k).v u.v kj.v (bldJ (V.j (V.mk k1 h1 t1 l1 ks1 vs1)) (k + 1)) (by rw [hjb.2.2.2]; exact hjb) (by rw [hjb.2.2.2]; exact hlb) (by rw [HJU.out.2.2.2]; exact HJU.out) (by rw [HJU.out.2.2.2]; exact hlu) (by rw [HJK.out.2.2.2]; exact HSTEP.out) (by rw [HJK.out.2.2.2, hjb.2.2.2, HJU.out.2.2.2]; exact HSET.out) (fun _ => True) [.int .i64 b0, .int .i64 b1, .string sb, .slice T3 u3 v3, .slice T4 u4 v4, .slice T5 u5 v5] [.int .i64 5, .int .i64 0, .string ⟨#[]⟩, .slice (some ⟨sb', 0, none⟩) 1 1, .slice none 0 0, .slice none 0 0] [.int .i64 d0, .int .i64 d1, .string sd, .slice D3 a3 b3, .slice D4 a4 b4, .slice D5 a5 b5] W ((HVX.out.mono fun _ _ => trivial).keep (below_trans HB2.out (below_trans HB24.out hb))) (vr_mkL (Nat.le_refl 1) (by simp) (row_one hs) (fun i v hv => by
          match i, hv with
          | 0, hv => simp at hv; subst hv; exact HVK.out.keep (below_trans HBR.out (below_trans HB2.out (below_trans HB24.out hb)))
          | i + 1, hv => simp at hv)) (HVY.out.keep hb) hjb.1 hja.1 HJU.out.1 hjb.2.1 hja.2.1 HJU.out.2.1)
        clear hjb hlb hlu hja
        have HB0 := Lib.hid ((Below.refl W4.heap.size W4).drew)
        have HS := Lib.hid (HKB.out W4.drew HB0.out)
        go_cut [9] from 41 to 64 (fun pv wx => ResB W4 (bldJ (V.j (V.mk k1 h1 t1 l1 ks1 vs1)) (k + 1)).v pv wx)
        case first =>
          refine wp_region_held_drew (S := fun W => W.cell? ⟨w7.heap.size, 0, none⟩ = some (.int .i64 b0) ∧ W.cell? ⟨w7.heap.size, 1, none⟩ = some (.int .i64 b1) ∧ W.cell? ⟨w7.heap.size, 2, none⟩ = some (.string sb) ∧ W.cell? ⟨w7.heap.size, 3, none⟩ = some (.slice T3 u3 v3) ∧ W.cell? ⟨w7.heap.size, 4, none⟩ = some (.slice T4 u4 v4) ∧ W.cell? ⟨w7.heap.size, 5, none⟩ = some (.slice T5 u5 v5) ∧ W.cell? ⟨wr.heap.size, 0, none⟩ = some (.int .i64 c0) ∧ W.cell? ⟨wr.heap.size, 1, none⟩ = some (.int .i64 c1) ∧ W.cell? ⟨wr.heap.size, 2, none⟩ = some (.string cs) ∧ W.cell? ⟨wr.heap.size, 3, none⟩ = some (.slice C3 x3 y3) ∧ W.cell? ⟨wr.heap.size, 4, none⟩ = some (.slice C4 x4 y4) ∧ W.cell? ⟨wr.heap.size, 5, none⟩ = some (.slice C5 x5 y5) ∧ W.cell? ⟨w8.heap.size, 0, none⟩ = some (.int .i64 d0) ∧ W.cell? ⟨w8.heap.size, 1, none⟩ = some (.int .i64 d1) ∧ W.cell? ⟨w8.heap.size, 2, none⟩ = some (.string sd) ∧ W.cell? ⟨w8.heap.size, 3, none⟩ = some (.slice D3 a3 b3) ∧ W.cell? ⟨w8.heap.size, 4, none⟩ = some (.slice D4 a4 b4) ∧ W.cell? ⟨w8.heap.size, 5, none⟩ = some (.slice D5 a5 b5) ∧ W.cell? ⟨w8.heap.size, 6, none⟩ = some (.int .i64 0)) (by kernel_rfl) HS.out (fun _ => ?_)
          refine wpAnyH_take (i := 0) (v := .agg #[.int .i64 b0, .int .i64 b1, .string sb, .slice T3 u3 v3, .slice T4 u4 v4, .slice T5 u5 v5]) rfl (by kernel_rfl) (by kernel_rfl) (by kernel_rfl) (fun _ _ _ h => h) (Or.inl ⟨by rfl, ?_⟩) HS.out ?_
          · intro W hSw
            obtain ⟨p0, p1, p2, p3, p4, p5, q0, q1, q2, q3, q4, q5, y0, y1, y2, y3, y4, y5, y6⟩ := hSw
            go_simp
          simp only [List.getElem_toArray, List.getElem_cons_zero, List.getElem_cons_succ, Act.put, List.setIfInBounds_toArray, List.set_cons_zero, List.set_cons_succ]
          refine wpAnyH_take (i := 1) (v := .agg #[.int .i64 c0, .int .i64 c1, .string cs, .slice C3 x3 y3, .slice C4 x4 y4, .slice C5 x5 y5]) rfl (by kernel_rfl) (by kernel_rfl) (by kernel_rfl) (fun _ _ _ h => h) (Or.inl ⟨by rfl, ?_⟩) HS.out ?_
          · intro W hSw
            obtain ⟨p0, p1, p2, p3, p4, p5, q0, q1, q2, q3, q4, q5, y0, y1, y2, y3, y4, y5, y6⟩ := hSw
            go_simp
          simp only [List.getElem_toArray, List.getElem_cons_zero, List.getElem_cons_succ, Act.put, List.setIfInBounds_toArray, List.set_cons_zero, List.set_cons_succ]
          refine wpAnyH_take (i := 4) (v := .pointer (some ⟨w8.heap.size, 0, none⟩)) rfl (by kernel_rfl) (by kernel_rfl) (by kernel_rfl) (fun _ _ _ h => h) (Or.inl ⟨by rfl, ?_⟩) HS.out ?_
          · intro W hSw
            obtain ⟨p0, p1, p2, p3, p4, p5, q0, q1, q2, q3, q4, q5, y0, y1, y2, y3, y4, y5, y6⟩ := hSw
            go_simp
          simp only [List.getElem_toArray, List.getElem_cons_zero, List.getElem_cons_succ, Act.put, List.setIfInBounds_toArray, List.set_cons_zero, List.set_cons_succ]
          refine wpAnyH_take (i := 5) (v := .agg #[.int .i64 d0, .int .i64 d1, .string sd, .slice D3 a3 b3, .slice D4 a4 b4, .slice D5 a5 b5]) rfl (by kernel_rfl) (by kernel_rfl) (by kernel_rfl) (fun _ _ _ h => h) (Or.inl ⟨by rfl, ?_⟩) HS.out ?_
          · intro W hSw
            obtain ⟨p0, p1, p2, p3, p4, p5, q0, q1, q2, q3, q4, q5, y0, y1, y2, y3, y4, y5, y6⟩ := hSw
            go_simp
          simp only [List.getElem_toArray, List.getElem_cons_zero, List.getElem_cons_succ, Act.put, List.setIfInBounds_toArray, List.set_cons_zero, List.set_cons_succ]
          refine wpAnyH_ready (rs := [2, 7]) (by kernel_rfl) (by simp) ?_
          refine AllReadyH.cons rfl (fun K hK => ?_) (AllReadyH.cons rfl (fun K hK => ?_) AllReadyH.nil)
          · go_simp
            have hb1 := Below.alloc HB0.out (Below.size HB0.out) (.cells #[.int .i64 c0, .int .i64 c1, .string cs, .slice C3 x3 y3, .slice C4 x4 y4, .slice C5 x5 y5] 26)
            have hs1 := heap_alloc_new W4.drew (.cells #[.int .i64 c0, .int .i64 c1, .string cs, .slice C3 x3 y3, .slice C4 x4 y4, .slice C5 x5 y5] 26)
            refine hK.out _ _ (HKB.out _ hb1) (fun _ => ?_)
            clear hK K
            refine wpAnyH_ready (rs := [3, 7]) (by kernel_rfl) (by simp) ?_
            refine AllReadyH.cons rfl (fun K hK => ?_) (AllReadyH.cons rfl (fun K hK => ?_) AllReadyH.nil)
            · go_simp
              refine (lawArray_any _ 1 1 _).mono ?_
              rintro e' wa2 ⟨rfl, hc2⟩
              have hb2 := below_trans hb1 hc2
              have hs2 := (hc2.block _ (heap_lt hs1)).trans hs1
              refine hK.out _ _ (HKB.out _ hb2) (fun _ => ?_)
              clear hK K
              refine wpAnyH_ready (rs := [6, 7]) (by kernel_rfl) (by simp) ?_
              refine AllReadyH.cons rfl (fun K hK => ?_) (AllReadyH.cons rfl (fun K hK => ?_) AllReadyH.nil)
              · go_simp
                refine (HSK.out _ _ hb2 hs2).mono ?_
                rintro e' wb3 h''
                obtain ⟨v9, f0, f1, sf, F3, F4, F5, m3', k3', m4', k4', m5', k5', ce, rfl, hv9, ⟨rfl, rfl⟩, hc3⟩ := resPost_shape h''
                have hb3 := below_trans hb2 hc3
                have hM3 := Below.size hb2
                have HFIX := Lib.hid (resB_alloc (W := W4) hb3 hM3 hv9)
                refine hK.out _ _ (HKB.out _ hb3) (fun _ => ?_)
                clear hK K hv9
                refine wpAnyH_ready (rs := [7]) (by kernel_rfl) (by simp) ?_
                refine AllReadyH.cons rfl (fun K hK => ?_) AllReadyH.nil
                · go_simp
                  have hb4 := Below.alloc hb3 (Below.size hb3) (.cells #[.int .i64 0, .int .i64 0, .string ⟨#[]⟩, .slice none 0 0, .slice none 0 0, .slice none 0 0, .int .i64 0] 34)
                  have hr4 := heap_alloc_new wb3 (.cells #[.int .i64 0, .int .i64 0, .string ⟨#[]⟩, .slice none 0 0, .slice none 0 0, .slice none 0 0, .int .i64 0] 34)
                  refine hK.out _ _ (HKB.out _ hb4) (fun _ => ?_)
                  clear hK K
                  refine wpAnyH_ready (rs := [8]) (by kernel_rfl) (by simp) ?_
                  refine AllReadyH.cons rfl (fun K hK => ?_) AllReadyH.nil
                  · obtain ⟨x0, x1, x2, x3, x4, x5, x6, xf⟩ := cells7 hr4
                    go_simp
                    first
                      | refine hK.out _ _ (HKB.out _ (resB_below HFIN.out)) (fun _ => ?_)
                      | refine hK.out _ _ (HKB.out _ (resB_below HFIX.out)) (fun _ => ?_)
                    clear hK K x0 x1 x2 x3 x4 x5 x6 xf
                    refine wpAnyH_done (by kernel_rfl) ?_ _
                    go_wp2_with fail
                    go_meet
                    first | exact HFIN.out | exact HFIX.out
              · go_simp
                have hb6 := Below.alloc hb2 (Below.size hb2) (.cells #[.int .i64 0, .int .i64 0, .string ⟨#[]⟩, .slice none 0 0, .slice none 0 0, .slice none 0 0, .int .i64 0] 34)
                have hr6 := heap_alloc_new wa2 (.cells #[.int .i64 0, .int .i64 0, .string ⟨#[]⟩, .slice none 0 0, .slice none 0 0, .slice none 0 0, .int .i64 0] 34)
                have HG := Lib.hid (Below.size hb2)
                have hs6 := (Below.heap_alloc _ (.cells #[.int .i64 0, .int .i64 0, .string ⟨#[]⟩, .slice none 0 0, .slice none 0 0, .slice none 0 0, .int .i64 0] 34) _ (heap_lt hs2)).trans hs2
                refine hK.out _ _ (HKB.out _ hb6) (fun _ => ?_)
                clear hK K
                refine wpAnyH_ready (rs := [6]) (by kernel_rfl) (by simp) ?_
                refine AllReadyH.cons rfl (fun K hK => ?_) AllReadyH.nil
                · go_simp
                  refine (HSK.out _ _ hb6 hs6).mono ?_
                  rintro e' wb7 h''
                  obtain ⟨v9, f0, f1, sf, F3, F4, F5, m3', k3', m4', k4', m5', k5', ce, rfl, hv9, ⟨rfl, rfl⟩, hc7⟩ := resPost_shape h''
                  have hb7 := below_trans hb6 hc7
                  have hM7 := Below.size hb6
                  have hr7 := (hc7.block _ (heap_lt hr6)).trans hr6
                  have HFIN := Lib.hid (resB_set (W := W4) hb7 HG.out (heap_lt hr6) hr7 hv9)
                  refine hK.out _ _ (HKB.out _ hb7) (fun _ => ?_)
                  clear hK K hv9
                  refine wpAnyH_ready (rs := [8]) (by kernel_rfl) (by simp) ?_
                  refine AllReadyH.cons rfl (fun K hK => ?_) AllReadyH.nil
                  · obtain ⟨x0, x1, x2, x3, x4, x5, x6, xf⟩ := cells7 hr7
                    go_simp
                    first
                      | refine hK.out _ _ (HKB.out _ (resB_below HFIN.out)) (fun _ => ?_)
                      | refine hK.out _ _ (HKB.out _ (resB_below HFIX.out)) (fun _ => ?_)
                    clear hK K x0 x1 x2 x3 x4 x5 x6 xf
                    refine wpAnyH_done (by kernel_rfl) ?_ _
                    go_wp2_with fail
                    go_meet
                    first | exact HFIN.out | exact HFIX.out
            · go_simp
              have hb9 := Below.alloc hb1 (Below.size hb1) (.cells #[.int .i64 0, .int .i64 0, .string ⟨#[]⟩, .slice none 0 0, .slice none 0 0, .slice none 0 0, .int .i64 0] 34)
              have hr9 := heap_alloc_new (W4.drew.alloc (.cells #[.int .i64 c0, .int .i64 c1, .string cs, .slice C3 x3 y3, .slice C4 x4 y4, .slice C5 x5 y5] 26)) (.cells #[.int .i64 0, .int .i64 0, .string ⟨#[]⟩, .slice none 0 0, .slice none 0 0, .slice none 0 0, .int .i64 0] 34)
              rw [show (W4.drew.alloc (.cells #[.int .i64 c0, .int .i64 c1, .string cs, .slice C3 x3 y3, .slice C4 x4 y4, .slice C5 x5 y5] 26)).heap.size = W4.heap.size + 1 from by simp] at hr9
              have HG := Lib.hid (show W4.heap.size ≤ W4.heap.size + 1 by omega)
              have hs9 := (Below.heap_alloc _ (.cells #[.int .i64 0, .int .i64 0, .string ⟨#[]⟩, .slice none 0 0, .slice none 0 0, .slice none 0 0, .int .i64 0] 34) _ (heap_lt hs1)).trans hs1
              refine hK.out _ _ (HKB.out _ hb9) (fun _ => ?_)
              clear hK K
              refine wpAnyH_ready (rs := [3]) (by kernel_rfl) (by simp) ?_
              refine AllReadyH.cons rfl (fun K hK => ?_) AllReadyH.nil
              · go_simp
                refine (lawArray_any _ 1 1 _).mono ?_
                rintro e' wa10 ⟨rfl, hc10⟩
                have hb10 := below_trans hb9 hc10
                have hs10 := (hc10.block _ (heap_lt hs9)).trans hs9
                have hr10 := (hc10.block _ (heap_lt hr9)).trans hr9
                refine hK.out _ _ (HKB.out _ hb10) (fun _ => ?_)
                clear hK K
                refine wpAnyH_ready (rs := [6]) (by kernel_rfl) (by simp) ?_
                refine AllReadyH.cons rfl (fun K hK => ?_) AllReadyH.nil
                · go_simp
                  refine (HSK.out _ _ hb10 hs10).mono ?_
                  rintro e' wb11 h''
                  obtain ⟨v9, f0, f1, sf, F3, F4, F5, m3', k3', m4', k4', m5', k5', ce, rfl, hv9, ⟨rfl, rfl⟩, hc11⟩ := resPost_shape h''
                  have hb11 := below_trans hb10 hc11
                  have hM11 := Below.size hb10
                  have hr11 := (hc11.block _ (heap_lt hr10)).trans hr10
                  have HFIN := Lib.hid (resB_set (W := W4) hb11 HG.out (heap_lt hr10) hr11 hv9)
                  refine hK.out _ _ (HKB.out _ hb11) (fun _ => ?_)
                  clear hK K hv9
                  refine wpAnyH_ready (rs := [8]) (by kernel_rfl) (by simp) ?_
                  refine AllReadyH.cons rfl (fun K hK => ?_) AllReadyH.nil
                  · obtain ⟨x0, x1, x2, x3, x4, x5, x6, xf⟩ := cells7 hr11
                    go_simp
                    first
                      | refine hK.out _ _ (HKB.out _ (resB_below HFIN.out)) (fun _ => ?_)
                      | refine hK.out _ _ (HKB.out _ (resB_below HFIX.out)) (fun _ => ?_)
                    clear hK K x0 x1 x2 x3 x4 x5 x6 xf
                    refine wpAnyH_done (by kernel_rfl) ?_ _
                    go_wp2_with fail
                    go_meet
                    first | exact HFIN.out | exact HFIX.out
          · go_simp
            have hb13 := Below.alloc HB0.out (Below.size HB0.out) (.cells #[.int .i64 0, .int .i64 0, .string ⟨#[]⟩, .slice none 0 0, .slice none 0 0, .slice none 0 0, .int .i64 0] 34)
            have hr13 := heap_alloc_new W4.drew (.cells #[.int .i64 0, .int .i64 0, .string ⟨#[]⟩, .slice none 0 0, .slice none 0 0, .slice none 0 0, .int .i64 0] 34)
            rw [show W4.drew.heap.size = W4.heap.size from rfl] at hr13
            have HG := Lib.hid (Below.size HB0.out)
            refine hK.out _ _ (HKB.out _ hb13) (fun _ => ?_)
            clear hK K
            refine wpAnyH_ready (rs := [2]) (by kernel_rfl) (by simp) ?_
            refine AllReadyH.cons rfl (fun K hK => ?_) AllReadyH.nil
            · go_simp
              have hb14 := Below.alloc hb13 (Below.size hb13) (.cells #[.int .i64 c0, .int .i64 c1, .string cs, .slice C3 x3 y3, .slice C4 x4 y4, .slice C5 x5 y5] 26)
              have hs14 := heap_alloc_new (W4.drew.alloc (.cells #[.int .i64 0, .int .i64 0, .string ⟨#[]⟩, .slice none 0 0, .slice none 0 0, .slice none 0 0, .int .i64 0] 34)) (.cells #[.int .i64 c0, .int .i64 c1, .string cs, .slice C3 x3 y3, .slice C4 x4 y4, .slice C5 x5 y5] 26)
              rw [show (W4.drew.alloc (.cells #[.int .i64 0, .int .i64 0, .string ⟨#[]⟩, .slice none 0 0, .slice none 0 0, .slice none 0 0, .int .i64 0] 34)).heap.size = W4.heap.size + 1 from by simp] at hs14
              have hr14 := (Below.heap_alloc _ (.cells #[.int .i64 c0, .int .i64 c1, .string cs, .slice C3 x3 y3, .slice C4 x4 y4, .slice C5 x5 y5] 26) _ (heap_lt hr13)).trans hr13
              refine hK.out _ _ (HKB.out _ hb14) (fun _ => ?_)
              clear hK K
              refine wpAnyH_ready (rs := [3]) (by kernel_rfl) (by simp) ?_
              refine AllReadyH.cons rfl (fun K hK => ?_) AllReadyH.nil
              · go_simp
                refine (lawArray_any _ 1 1 _).mono ?_
                rintro e' wa15 ⟨rfl, hc15⟩
                have hb15 := below_trans hb14 hc15
                have hs15 := (hc15.block _ (heap_lt hs14)).trans hs14
                have hr15 := (hc15.block _ (heap_lt hr14)).trans hr14
                refine hK.out _ _ (HKB.out _ hb15) (fun _ => ?_)
                clear hK K
                refine wpAnyH_ready (rs := [6]) (by kernel_rfl) (by simp) ?_
                refine AllReadyH.cons rfl (fun K hK => ?_) AllReadyH.nil
                · go_simp
                  refine (HSK.out _ _ hb15 hs15).mono ?_
                  rintro e' wb16 h''
                  obtain ⟨v9, f0, f1, sf, F3, F4, F5, m3', k3', m4', k4', m5', k5', ce, rfl, hv9, ⟨rfl, rfl⟩, hc16⟩ := resPost_shape h''
                  have hb16 := below_trans hb15 hc16
                  have hM16 := Below.size hb15
                  have hr16 := (hc16.block _ (heap_lt hr15)).trans hr15
                  have HFIN := Lib.hid (resB_set (W := W4) hb16 HG.out (heap_lt hr15) hr16 hv9)
                  refine hK.out _ _ (HKB.out _ hb16) (fun _ => ?_)
                  clear hK K hv9
                  refine wpAnyH_ready (rs := [8]) (by kernel_rfl) (by simp) ?_
                  refine AllReadyH.cons rfl (fun K hK => ?_) AllReadyH.nil
                  · obtain ⟨x0, x1, x2, x3, x4, x5, x6, xf⟩ := cells7 hr16
                    go_simp
                    first
                      | refine hK.out _ _ (HKB.out _ (resB_below HFIN.out)) (fun _ => ?_)
                      | refine hK.out _ _ (HKB.out _ (resB_below HFIX.out)) (fun _ => ?_)
                    clear hK K x0 x1 x2 x3 x4 x5 x6 xf
                    refine wpAnyH_done (by kernel_rfl) ?_ _
                    go_wp2_with fail
                    go_meet
                    first | exact HFIN.out | exact HFIX.out
        case rest =>
          obtain ⟨g, r0, r1, sr, G3, G4, G5, mm3, nn3, mm4, nn4, mm5, nn5, rfl, hbc, hg0, hgc, hvg⟩ := hcut
          have hbr2 := below_trans HB2.out (below_trans HB24.out hbc)
          have hXc := (hbr2.block _ (heap_lt HXB.out)).trans HXB.out
          have yE : wc.cell? ⟨w8.heap.size, 6, none⟩ = some (.int .i64 0) := by
            have q := (hbc.block _ hlt4).trans HY4.out
            simp [World.cell?, q]
          obtain ⟨x0, x1, x2, x3, x4, x5, x6, xf⟩ := cells7 hgc
          obtain ⟨o0, o1, o2, o3, o4, o5, of⟩ := cells6b hXc
          have HFIN := Lib.hid (xAt_set (below_trans HBR.out hbr2) (show w7.heap.size < W4.heap.size by omega) hXc hvg)
          clear hvg hXc hbr2 hgc
          go_wp2_with fail
          go_roundw
          case rel => exact ⟨k + 1, by omega, by go_num, HFIN.out⟩
          case measure => simp [intOf]; omega
      · have hkn : k = kl.length := by have := HKN.out; omega
        have hall : bldJ (V.j (V.mk k1 h1 t1 l1 ks1 vs1)) k = V.j (V.mk k1 h1 t1 l1 ks1 vs1) := by
          rw [hkn]
          exact bld_all HKL.out HJN.out (by rintro rfl; have := HKN.out; simp at this; omega)
        rw [hall, round WV.out.1] at hVX
        obtain ⟨z0, z1, z2, z3, z4, z5⟩ := HK0.out wr (below_trans HB7.out hbr)
        obtain ⟨o0, o1, o2, o3, o4, o5, of⟩ := cells6b hX
        have hge : n3 ≤ k := by omega
        have HSAME := Lib.hid (fun (W : World) (hb : Below wr.heap.size wr W) => (same_any (V.mk k1 h1 t1 l1 ks1 vs1) (V.mk k1 h1 t1 l1 ks1 vs1) (fun _ => True) [.int .i64 b0, .int .i64 b1, .string sb, .slice T3 u3 v3, .slice T4 u4 v4, .slice T5 u5 v5] [.int .i64 k1, .int .i64 h1, .string t1, .slice P1 l1.length p1, .slice Q1 ks1.length q1, .slice R1 vs1.length r1] W WV.out.1 WV.out.1 ((hVX.mono fun _ _ => trivial).keep hb) ((HV1.out.mono fun _ _ => trivial).keep (below_trans HBW0.out (below_trans HB7.out (below_trans hbr hb))))).mono (R' := fun e w' => e = .returned (.bool true) ∧ Below W.heap.size W w') fun e w' h => by
          rw [cmpV_self] at h
          exact ⟨h.1.trans rfl, h.2⟩)
        have HBR := Lib.hid hbr
        clear hVX hX hbr hall hkn hlt
        go_wp2_with fail
        refine (HSAME.out _ (Below.refl _ _)).mono ?_
        rintro e' w' ⟨rfl, hb'⟩
        go_wp2_with fail
        go_ret
        exact ⟨rfl, below_trans HBW0.out (below_trans HB7.out (below_trans HBR.out hb'))⟩
end Go.Proofs.YtpamlgdcnmcedaaGreatDoor
