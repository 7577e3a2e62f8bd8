/- append(xs, ys...), both slices of the call's own. A list of integers of the call's own: append of a row of integers. sort.Strings; gojq.keys. gojq.Compare's parts: cmp.Compare, the floats, the types. Plain: the order of places by their keys; the least and the greatest of a list. gojq.Compare: arrays, objects; all. gojq.funcMin, funcMax; impl.Min, impl.Max. spec.ranks, spec.Sorted. spec.array, spec.alone, spec.Call at min and max; laws.call. laws.call at min and max; laws.FnMin. -/
import Derived.Test.YtpamlgdcnmcedaaGreatDoorA
import Derived.Laws.OwnMore
import Derived.Test.YtpamlgdcnmcedaaGreatDoorProg
import Derived.Test.YtpamlgdcnmcedaaGreatDoorUt
import Derived.Test.YtpamlgdcnmcedaaGreatDoorH2a
import Derived.Test.YtpamlgdcnmcedaaGreatDoorK
import Derived.Sort.OwnSorted
import Derived.Deep.OwnRows
import Derived.Test.YtpamlgdcnmcedaaGreatDoorN1
import Derived.Test.YtpamlgdcnmcedaaGreatDoorC1
import Derived.Test.YtpamlgdcnmcedaaGreatDoorDw
import Derived.Test.YtpamlgdcnmcedaaGreatDoorP2
import Derived.Deep.RegionHeld3
import Derived.Deep.QuietTactic
import Derived.BigQuiet
import Derived.Test.YtpamlgdcnmcedaaGreatDoorH1
import Derived.Test.YtpamlgdcnmcedaaGreatDoorS1
import Derived.Test.YtpamlgdcnmcedaaGreatDoorQ3
import Derived.Test.YtpamlgdcnmcedaaGreatDoorS4
set_option linter.unusedVariables false
set_option linter.unusedSimpArgs false
namespace Go.Proofs.YtpamlgdcnmcedaaGreatDoor
open Go Go.RowKit
section
variable {α : Type} {d : Kn α} {e base base2 : Nat} {w w' : World} {ok ok2 : Nat → Prop} {v v2 : Value} {xs ys : List α}
/-- 'append(xs, ys...)', both of the call's own. -/
theorem Own.appendMany {P : Program} (t ty : Nat) (i : TypeInfo) (z : Value) (bytes : Nat) (ht : P.underlying t = some (.slice e)) (hi : P.info? e = some i) (hz : i.zero = some z)
    (hsize : i.size = d.sz) (hby : i.bytes = bytes) (hzs : z.cells.size = d.sz) (hsz : 0 < d.sz) (h : Own d e w base ok v xs) (k : Own d e w base2 ok2 v2 ys)
    (hok : ∀ b, ok2 b → ok b ∧ some b ≠ v.ownBlock)
    (h63 : xs.length + ys.length ≤ maxLen) (hbytes : (xs.length + ys.length) * bytes ≤ 140737488355328) (hbase : base ≤ w.heap.size) :
    ∃ v' w', (Builtin.append_ #[t, t] ty #[v, v2]).run P w = .ok v' w' ∧ Own d e w' base ok v' (xs ++ ys) ∧ w.grownBy w' v.ownBlock ∧ (v'.ownBlock = v.ownBlock ∨ v'.ownBlock = some w.heap.size) := by
  obtain ⟨css2, k1, k2, k3, k4⟩ := k
  have k3' := k3
  rcases k3.2 with ⟨rfl, hy0⟩ | ⟨g, cap, cur, rfl, _, _, hle, _⟩
  · have hy : ys = [] := List.eq_nil_of_length_eq_zero hy0
    subst hy
    have h' := h
    obtain ⟨css, h1, h2, h3, h4⟩ := h
    refine ⟨v, w, run_append_owned_none w base t ty e i d.sz ht hi v xs.length css.flatten h3, by rw [List.append_nil]; exact h', ⟨rfl, rfl, rfl, Nat.le_refl _, fun _ _ _ => rfl⟩, .inl rfl⟩
  · obtain ⟨css, h1, h2, h3, h4⟩ := h
    have hone : ∀ u ∈ css2.flatten, u.oneCell' = true := fun u hu => by
      obtain ⟨c, hc, hu⟩ := List.mem_flatten.1 hu
      obtain ⟨j, hj⟩ := List.getElem?_of_mem hc
      have hjl : j < ys.length := by rw [← k1]; exact (List.getElem?_eq_some_iff.1 hj).1
      exact d.one (k4 j _ c (List.getElem?_eq_getElem hjl) hj) u hu
    have hfl : css2.flatten.length = ys.length * d.sz := by rw [flatten_len css2 k2, k1]
    obtain ⟨v', w', hrun, hown, hg, _, hat⟩ := run_append_own_at w base t ty e i z d.sz bytes ht hi hz hsize hby hzs hsz v xs.length css.flatten h3 ⟨g, 0, none⟩ ys.length cap css2.flatten hfl (k3'.cells (g := g) rfl) hone h63 hbytes hbase
    refine ⟨v', w', hrun, ⟨css ++ css2, by simp [h1, k1], fun c' hc' => ?_, by simpa using hown, fun q y c' hy hc' => ?_⟩, hg, hat⟩
    · rcases List.mem_append.1 hc' with hc' | hc'
      · exact h2 c' hc'
      · exact k2 c' hc'
    · have key : d.R w (fun b => ok b ∧ some b ≠ v.ownBlock) y c' := by
        by_cases hq : q < xs.length
        · rw [List.getElem?_append_left hq] at hy
          rw [List.getElem?_append_left (by omega)] at hc'
          exact h4 q y c' hy hc'
        · rw [List.getElem?_append_right (by omega)] at hy
          rw [List.getElem?_append_right (by omega), h1] at hc'
          exact d.mono (fun b hb => hok b hb.1) (k4 _ y c' hy hc')
      refine d.mono (fun b hb => ⟨hb.1.1, ?_⟩) (d.move (fun b hb => hg.block b hb.2 hb.1.2) (d.bound key))
      rcases hat with e | e <;> rw [e]
      · exact hb.1.2
      · intro he; injection he with he; omega
theorem wpList_append_OwnMany {P : Program} (d : Kn α) (e base base2 : Nat) {ops : Array Oper} {rest : List Oper} {o : Oper} {a : Act} {Q : Exit → Act → World → Prop} (hgd : o.guard = none) (s x : Operand) (t : TypeId)
    (ho : o.op = .call { callee := .builtin .append, args := #[s, x], argTypes := #[t, t] })
    (i : TypeInfo) (z : Value) (bytes : Nat) (ht : P.underlying t = some (.slice e)) (hi : P.info? e = some i) (hz : i.zero = some z)
    (hsize : i.size = d.sz) (hby : i.bytes = bytes) (hzs : z.cells.size = d.sz) (hsz : 0 < d.sz) (v v2 : Value) (xs ys : List α) (hs : a.eval s = v) (hx : a.eval x = v2) (hown : Own d e w base ok v xs)
    (hown2 : Own d e w base2 ok2 v2 ys) (hok : ∀ b, ok2 b → ok b ∧ some b ≠ v.ownBlock)
    (h63 : xs.length + ys.length ≤ maxLen) (hbytes : (xs.length + ys.length) * bytes ≤ 140737488355328) (hbase : base ≤ w.heap.size)
    (h : ∀ v' w', Own d e w' base ok v' (xs ++ ys) → w.grownBy w' v.ownBlock → (v'.ownBlock = v.ownBlock ∨ v'.ownBlock = some w.heap.size) → wpList P ops Q rest (a.put o.dst v') w') : wpList P ops Q (o :: rest) a w :=
  wpList_plain hgd fun _ hK => by
    obtain ⟨v', w', hrun, h2, h3, h4⟩ := hown.appendMany (P := P) t o.type i z bytes ht hi hz hsize hby hzs hsz hown2 hok h63 hbytes hbase
    unfold Oper.wp execOp
    simp only [ho, resolve, invoke, builtin, Sem.run_bind, Sem.run_pure, Result.andThen_ok, List.map_toArray, List.map_cons, List.map_nil, hs, hx, hrun]
    exact hK _ _ (h v' w' h2 h3 h4)
end
end Go.Proofs.YtpamlgdcnmcedaaGreatDoor

set_option linter.unusedVariables false
set_option linter.unusedSimpArgs false
namespace Go.Proofs.YtpamlgdcnmcedaaGreatDoor
open Go Go.RowKit
def natCells (ys : List Nat) : List Value := ys.map fun (n : Nat) => Value.int .i64 (n : Int)
theorem natCells_len (ys : List Nat) : (natCells ys).length = ys.length := by simp [natCells]
theorem natCells_at {ys : List Nat} {j : Nat} {u : Value} (h : (natCells ys)[j]? = some u) : ∃ y, ys[j]? = some y ∧ u = .int .i64 (y : Int) := by
  unfold natCells at h
  rw [List.getElem?_map] at h
  cases hy : ys[j]? with
  | none => rw [hy] at h; cases h
  | some y => rw [hy] at h; cases h; exact ⟨y, rfl, rfl⟩
def OwnN (w : World) (base : Nat) (v : Value) (xs : List Nat) : Prop := w.ownsRow base 3 1 v xs.length (natCells xs)
section
variable {w w' : World} {base : Nat} {v : Value} {xs ys : List Nat}
theorem OwnN.nil (w : World) (base : Nat) : OwnN w base (.slice none 0 0) [] := ⟨by simp [natCells], .inl ⟨rfl, rfl⟩⟩
theorem OwnN.kept {row : Option Nat} (h : OwnN w base v xs) (hg : w.grownBy w' row) (hne : v.ownBlock = none ∨ v.ownBlock ≠ row) : OwnN w' base v xs := World.ownsRow.kept h hg hne
theorem OwnN.keep (h : OwnN w base v xs) (hb : Below w.heap.size w w') : OwnN w' base v xs :=
  h.kept (row := none) ⟨hb.os, hb.tape, hb.output, hb.size, fun k hk _ => hb.block k hk⟩ (by cases v.ownBlock <;> simp)
theorem OwnN.form (h : OwnN w base v xs) : ∃ A c, v = .slice A xs.length c ∧ xs.length ≤ c := by
  rcases h.2 with ⟨rfl, h0⟩ | ⟨g, cap, cur, rfl, _, _, hle, _⟩
  · exact ⟨none, 0, by rw [h0], by omega⟩
  · exact ⟨_, cap, rfl, hle⟩
theorem OwnN.lt (h : OwnN w base v xs) : ∀ k, v.ownBlock = some k → base ≤ k ∧ k < w.heap.size := World.ownsRow.lt h
/-- The cells of such a list. -/
theorem OwnN.cell {A : Option Addr} {n c : Nat} (h : OwnN w base (.slice A n c) xs) (j : Nat) (y : Nat) (hy : xs[j]? = some y) : ∃ g, A = some ⟨g, 0, none⟩ ∧ w.cell? ⟨g, j, none⟩ = some (.int .i64 (y : Int)) := by
  have hj := (List.getElem?_eq_some_iff.1 hy).1
  obtain ⟨g, cap, he, hb, hlt⟩ := World.ownsRow.form h (by omega)
  injection he with he
  subst he
  refine ⟨g, rfl, ?_⟩
  have hq : (natCells xs)[j]? = some (.int .i64 (y : Int)) := by unfold natCells; rw [List.getElem?_map, hy]; rfl
  have := World.ownsRow.cells h (g := g) rfl j _ hq
  rw [← this]
  simp only [Addr.add]
  split
  · rename_i e; subst e; rfl
  · simp
/-- 'append(xs, row...)'. -/
theorem OwnN.app {P : Program} (t ty : Nat) (i : TypeInfo) (z : Value) (ht : P.underlying t = some (.slice 3)) (hi : P.info? 3 = some i) (hz : i.zero = some z)
    (hsize : i.size = 1) (hby : i.bytes = 8) (hzs : z.cells.size = 1) (h : OwnN w base v xs) (a : Addr) (m c : Nat) (hm : ys.length = m) (hc : ∀ (j y : Nat), ys[j]? = some y → w.cell? (a.add j) = some (.int .i64 (y : Int)))
    (h63 : xs.length + m ≤ 1000000000) (hbase : base ≤ w.heap.size) :
    ∃ v' w', (Builtin.append_ #[t, t] ty #[v, .slice (some a) m c]).run P w = .ok v' w' ∧ OwnN w' base v' (xs ++ ys) ∧ w.grownBy w' v.ownBlock ∧ (v'.ownBlock = v.ownBlock ∨ v'.ownBlock = some w.heap.size) := by
  obtain ⟨v', w', hrun, hown, hg, _, hat⟩ := run_append_own_at w base t ty 3 i z 1 8 ht hi hz hsize hby hzs (by decide) v xs.length (natCells xs) h a m c (natCells ys) (by rw [natCells_len]; omega)
    (fun j u hu => by obtain ⟨y, hy, rfl⟩ := natCells_at hu; exact hc j y hy)
    (fun u hu => by
      unfold natCells at hu
      obtain ⟨y, _, rfl⟩ := List.mem_map.1 hu
      rfl) (Nat.le_trans h63 (by decide)) (by omega) hbase
  refine ⟨v', w', hrun, ?_, hg, hat⟩
  unfold OwnN
  rw [List.length_append, hm]
  unfold natCells at hown ⊢
  rw [List.map_append]
  exact hown
/-- 'append(xs, nil...)'. -/
theorem OwnN.app0 {P : Program} (t ty : Nat) (i : TypeInfo) (ht : P.underlying t = some (.slice 3)) (hi : P.info? 3 = some i) (h : OwnN w base v xs) :
    (Builtin.append_ #[t, t] ty #[v, .slice none 0 0]).run P w = .ok v w := run_append_owned_none w base t ty 3 i 1 ht hi v xs.length (natCells xs) h
/-- A row of integers to read from. -/
def SrcN (w : World) (v : Value) (ys : List Nat) : Prop :=
  (v = .slice none 0 0 ∧ ys = []) ∨ ∃ (a : Addr) (m c : Nat), v = .slice (some a) m c ∧ ys.length = m ∧ ∀ (j y : Nat), ys[j]? = some y → w.cell? (a.add j) = some (.int .i64 (y : Int))
theorem wpList_append_N {P : Program} (base : Nat) {ops : Array Oper} {rest : List Oper} {o : Oper} {a : Act} {Q : Exit → Act → World → Prop} (hgd : o.guard = none) (s x : Operand) (t : TypeId)
    (ho : o.op = .call { callee := .builtin .append, args := #[s, x], argTypes := #[t, t] })
    (i : TypeInfo) (z : Value) (ht : P.underlying t = some (.slice 3)) (hi : P.info? 3 = some i) (hz : i.zero = some z)
    (hsize : i.size = 1) (hby : i.bytes = 8) (hzs : z.cells.size = 1) (v v2 : Value) (hs : a.eval s = v) (hx : a.eval x = v2) (hown : OwnN w base v xs) (hsrc : SrcN w v2 ys)
    (h63 : xs.length + ys.length ≤ 1000000000) (hbase : base ≤ w.heap.size)
    (h : ∀ v' w', OwnN w' base v' (xs ++ ys) → w.grownBy w' v.ownBlock → wpList P ops Q rest (a.put o.dst v') w') : wpList P ops Q (o :: rest) a w :=
  wpList_plain hgd fun _ hK => by
    have key : ∃ v' w', (Builtin.append_ #[t, t] o.type #[v, v2]).run P w = .ok v' w' ∧ OwnN w' base v' (xs ++ ys) ∧ w.grownBy w' v.ownBlock := by
      rcases hsrc with ⟨rfl, rfl⟩ | ⟨a', m, c, rfl, hm, hc⟩
      · exact ⟨v, w, hown.app0 t o.type i ht hi, by rw [List.append_nil]; exact hown, ⟨rfl, rfl, rfl, Nat.le_refl _, fun _ _ _ => rfl⟩⟩
      · obtain ⟨v', w', h1, h2, h3, _⟩ := hown.app (P := P) t o.type i z ht hi hz hsize hby hzs a' m c hm hc (by omega) hbase
        exact ⟨v', w', h1, h2, h3⟩
    obtain ⟨v', w', hrun, h2, h3⟩ := key
    unfold Oper.wp execOp
    simp only [ho, resolve, invoke, builtin, Sem.run_bind, Sem.run_pure, Result.andThen_ok, List.map_toArray, List.map_cons, List.map_nil, hs, hx, hrun]
    exact hK _ _ (h v' w' h2 h3)
theorem OwnN.lit0 (w : World) (hb : base ≤ w.heap.size) : OwnN (w.alloc (.cells #[] 3)) base (.slice (some ⟨w.heap.size, 0, none⟩) 0 0) [] := World.ownsRow_lit w #[] 0 hb (by decide) rfl
/-- The first p of such a list; those from p on. -/
theorem OwnN.none_nil {n c : Nat} (h : OwnN w base (.slice none n c) xs) : n = 0 ∧ c = 0 ∧ xs = [] := by
  rcases h.2 with ⟨h1, h0⟩ | ⟨g, cap, cur, h1, _⟩
  · cases h1; exact ⟨rfl, rfl, List.eq_nil_of_length_eq_zero h0⟩
  · cases h1
theorem OwnN.addr {A : Option Addr} {n c : Nat} (h : OwnN w base (.slice A n c) xs) : (A = none ∧ n = 0 ∧ c = 0 ∧ xs = []) ∨ ∃ g, A = some ⟨g, 0, none⟩ ∧ base ≤ g ∧ ∀ (j y : Nat), xs[j]? = some y → w.cell? ⟨g, j, none⟩ = some (.int .i64 (y : Int)) := by
  rcases h.2 with ⟨h1, h0⟩ | ⟨g, cap, cur, h1, hg, _⟩
  · cases h1; exact .inl ⟨rfl, rfl, rfl, List.eq_nil_of_length_eq_zero h0⟩
  · cases h1
    refine .inr ⟨g, rfl, hg, fun j y hy => ?_⟩
    obtain ⟨g', e, hc⟩ := h.cell j y hy
    cases e
    exact hc
theorem add_zero (g j : Nat) : (⟨g, 0, none⟩ : Addr).add j = ⟨g, j, none⟩ := by
  simp only [Addr.add]
  split
  · rename_i e; subst e; rfl
  · simp
theorem info3 : (Tryz.prog.info? 3).map (fun i => (i.zero, i.size, i.bytes)) = some (some (.int .i64 0), 1, 8) := by kernel_rfl
end
end Go.Proofs.YtpamlgdcnmcedaaGreatDoor

set_option linter.unusedVariables false
set_option linter.unusedSimpArgs false
set_option maxRecDepth 100000
namespace Go.Proofs.YtpamlgdcnmcedaaGreatDoor
open Go Go.RowKit Go.Sort
theorem sortStrings_any (ss : List (List UInt8)) (m : Nat) (hm : ss.length = m) (g cap : Nat) (cur : Array Value) (w : World) (hb : w.heap[g]? = some (.cells cur 9 (0, 0))) (ht : cur.toList.take ss.length = ss.map encStr) (hsz : ss.length < 4611686018427387904) :
    Calls Tryz.prog 213 #[.slice (some ⟨g, 0, none⟩) m cap] w fun e w' => e = .returned (.tuple #[]) ∧ w.grownBy w' (some g) ∧ w'.heap[g]? = some (.cells (putCells encStr 0 (ss.mergeSort leB).toArray cur) 9 (0, 0)) := by
  have H := Lib.hid (AnyM.slices_Sort_string sort219 g 0 cap ss w (holds_of_block hb ht) (heap_lt hb) hsz)
  have HB := Lib.hid hb
  rw [hm] at H
  clear hb ht hsz hm
  go_enter Tryz.func213, Tryz.ntmps213
  go_wp2_with fail
  refine H.out.mono ?_
  rintro e' w' ⟨rfl, n, os, hw⟩
  have HW := Lib.hid hw
  clear hw
  go_wp2_with fail
  go_end0
  rw [HW.out]
  exact ⟨rfl, grownBy_sorted _, heap_sorted _ HB.out⟩
theorem nodup_len {α : Type} [DecidableEq α] : ∀ (l l' : List α), l.Nodup → (∀ a, a ∈ l → a ∈ l') → l.length ≤ l'.length
  | [], _, _, _ => Nat.zero_le _
  | x :: t, l', hn, hs => by
    rw [List.nodup_cons] at hn
    have hx : x ∈ l' := hs x List.mem_cons_self
    have h := nodup_len t (l'.erase x) hn.2 fun b hb => (List.mem_erase_of_ne (fun e => hn.1 (by rw [← e]; exact hb))).2 (hs b (List.mem_cons_of_mem _ hb))
    rw [List.length_erase_of_mem hx] at h
    have : 0 < l'.length := List.length_pos_of_mem hx
    simp
    omega
theorem Rng.setCell {b r g i : Nat} {es : Array MapEntry} {clock : Nat} {seen : Array Nat} {w : World} (h : Rng b r es clock seen w) (u : Value) (hb : b ≠ g) (hr : r ≠ g) : Rng b r es clock seen (w.setCell ⟨g, i, none⟩ u) := by
  obtain ⟨c0, h1, h2⟩ := h.hr
  exact ⟨(Below.heap_setCell _ _ _ _ (by show b ≠ g; exact hb)).trans h.hb, ⟨c0, (Below.heap_setCell _ _ _ _ (by show r ≠ g; exact hr)).trans h1, h2⟩, h.ne⟩
/-- The keys gathered. -/
structure KG (w : World) (g n : Nat) (es : List MapEntry) (seen : Array Nat) (ts : List ByteArray) (wr : World) : Prop where
  below : Below w.heap.size w wr
  row : ∃ arr : Array Value, wr.heap[g]? = some (.cells arr 9 (0, 0)) ∧ arr.size = n ∧ arr.toList.take ts.length = ts.map .string
  nodup : ts.Nodup
  keys : ∀ t, t ∈ ts → ∃ e, e ∈ es ∧ e.key = .string t ∧ seen.contains e.born = true
  all : ∀ e, e ∈ es → seen.contains e.born = true → ∃ t, t ∈ ts ∧ e.key = .string t
theorem KG.new {w : World} {g n : Nat} {es : List MapEntry} {clock : Nat} {seen : Array Nat} {ts : List ByteArray} {wr : World} (h : KG w g n es seen ts wr) (hn : (es.map (·.key)).Nodup) {e : MapEntry} (he : e ∈ es) (hes : seen.contains e.born = false) {t : ByteArray} (hk : e.key = .string t) : t ∉ ts := fun ht => by
  obtain ⟨e', h1, h2, h3⟩ := h.keys t ht
  have := keys_nodup hn he h1 (by rw [hk, h2])
  subst this
  rw [hes] at h3
  cases h3
theorem KG.room {w : World} {g n : Nat} {es : List MapEntry} {seen : Array Nat} {ts : List ByteArray} {wr : World} (h : KG w g n es seen ts wr) (hn : (es.map (·.key)).Nodup) (hsz : es.length = n) {e : MapEntry} (he : e ∈ es) (hes : seen.contains e.born = false) {t : ByteArray} (hk : e.key = .string t) : ts.length < n := by
  have hnew := h.new (clock := 0) hn he hes hk
  have h1 := nodup_len (t :: ts) (es.map fun e => match e.key with | .string s => s | _ => ⟨#[]⟩) (List.nodup_cons.2 ⟨hnew, h.nodup⟩) fun a ha => by
    rcases List.mem_cons.1 ha with rfl | ha
    · exact List.mem_map.2 ⟨e, he, by simp only [hk]⟩
    · obtain ⟨e', h1, h2, _⟩ := h.keys a ha
      exact List.mem_map.2 ⟨e', h1, by simp only [h2]⟩
  simp at h1
  omega
theorem KG.step {w : World} {g n r : Nat} {es : List MapEntry} {seen : Array Nat} {ts : List ByteArray} {wr w2 : World} (h : KG w g n es seen ts wr) (hg : wr.grownBy w2 (some r)) (hgr : g ≠ r) (hg0 : w.heap.size ≤ g) (hr0 : w.heap.size ≤ r) (hn : (es.map (·.key)).Nodup) (hb : (es.map (·.born)).Nodup) {e : MapEntry} (he : e ∈ es) (hes : seen.contains e.born = false) {t : ByteArray} (hk : e.key = .string t) (hlt : ts.length < n) :
    KG w g n es (seen.push e.born) (ts ++ [t]) (w2.setCell ⟨g, ts.length, none⟩ (.string t)) := by
  obtain ⟨arr, h1, h2, h3⟩ := h.row
  have h1' : w2.heap[g]? = some (.cells arr 9 (0, 0)) := (hg.block g (heap_lt h1) (fun e => hgr (by injection e))).trans h1
  refine ⟨(h.below.grown hg h.below.size (fun k hk => by injection hk with hk; omega)).setCell hg0 _, ⟨_, heap_setCell_row h1' _, by simp [h2], ?_⟩, ?_, fun a ha => ?_, fun e1 he1 hs1 => ?_⟩
  · rw [List.length_append, List.length_singleton, Array.toList_setIfInBounds, List.map_append, ← h3]
    apply List.ext_getElem?
    intro q
    by_cases hq : q < ts.length
    · rw [List.getElem?_take_of_lt (by omega), List.getElem?_set_ne (by omega), List.getElem?_append_left (by simp; omega), List.getElem?_take_of_lt hq]
    · by_cases hq2 : q = ts.length
      · subst hq2
        rw [List.getElem?_take_of_lt (by omega), List.getElem?_set_self (by simp; omega), List.getElem?_append_right (by simp; omega), List.length_take]
        simp [Nat.min_eq_left (show ts.length ≤ arr.size by omega)]
      · rw [List.getElem?_eq_none (by simp; omega), List.getElem?_eq_none (by simp; omega)]
  · rw [List.nodup_append]
    refine ⟨h.nodup, by simp, fun a ha b hb e1 => ?_⟩
    simp at hb
    subst e1
    exact h.new (clock := 0) hn he hes hk (hb ▸ ha)
  · rcases List.mem_append.1 ha with ha | ha
    · obtain ⟨e1, a1, a2, a3⟩ := h.keys a ha
      exact ⟨e1, a1, a2, by rw [contains_push, a3]; rfl⟩
    · simp at ha
      subst ha
      exact ⟨e, he, hk, by rw [contains_push]; simp⟩
  · rw [contains_push] at hs1
    by_cases hs : seen.contains e1.born = true
    · obtain ⟨t1, a1, a2⟩ := h.all e1 he1 hs
      exact ⟨t1, List.mem_append_left _ a1, a2⟩
    · have hbb : e1.born = e.born := by
        simp only [Bool.or_eq_true, beq_iff_eq] at hs1
        exact hs1.resolve_left hs
      have := born_inj hb he1 he hbb
      subst this
      exact ⟨t, by simp, hk⟩
theorem KG.start (w w1 : World) (g n : Nat) (es : List MapEntry) (hb : Below w.heap.size w w1) (hg : w1.heap[g]? = some (.cells (madeCells #[.string ⟨#[]⟩] n) 9 (0, 0))) : KG w g n es #[] [] w1 :=
  ⟨hb, ⟨_, hg, size_madeCells _ _, by simp⟩, List.nodup_nil, fun t h => by simp at h, fun e _ h => by simp at h⟩
/-- All keys gathered: they are those of the object. -/
theorem KG.done {w : World} {g n : Nat} {es : List MapEntry} {seen : Array Nat} {ts ks : List ByteArray} {wr : World} (h : KG w g n es seen ts wr) (hs : ∀ e, e ∈ es → seen.contains e.born = true) (hn : (es.map (·.key)).Nodup) (hsz : es.length = ks.length) (hk : ∀ e, e ∈ es → ∃ s, e.key = .string s ∧ s ∈ ks) (hks : sortedS ks) :
    ts.length = ks.length ∧ (ts.map fun s => s.data.toList).mergeSort leB = ks.map fun s => s.data.toList := by
  have hsub : ∀ t, t ∈ ts → t ∈ ks := fun t ht => by
    obtain ⟨e, h1, h2, _⟩ := h.keys t ht
    obtain ⟨s, h3, h4⟩ := hk e h1
    rw [h2] at h3
    injection h3 with h3
    exact h3 ▸ h4
  have hle := nodup_len ts ks h.nodup hsub
  have hge : es.length ≤ ts.length := by
    have := nodup_len (es.map fun e => match e.key with | .string s => s | _ => ⟨#[]⟩) ts (by
      rw [List.Nodup, List.pairwise_map] at hn ⊢
      refine hn.imp_of_mem fun {x y} hx hy hne e => hne ?_
      obtain ⟨s, h1, _⟩ := hk x hx
      obtain ⟨s', h2, _⟩ := hk y hy
      simp only [h1, h2] at e ⊢
      rw [e]) fun a ha => by
      obtain ⟨e, he, rfl⟩ := List.mem_map.1 ha
      obtain ⟨t, h1, h2⟩ := h.all e he (hs e he)
      simp only [h2]
      exact h1
    simpa using this
  have hlen : ts.length = ks.length := by omega
  refine ⟨hlen, ?_⟩
  have hp : (ts.map fun s => s.data.toList).Perm (ks.map fun s => s.data.toList) := (perm_of_sub h.nodup (sortedS_nodup hks) hsub hlen).map _
  rw [mergeSort_of_perm hp, sorted_list ks hks]
def KeysRow (ks : List ByteArray) (n : Nat) (w : World) (e : Ending) (w' : World) : Prop := ∃ A', e = .returned (.slice A' n n) ∧ RowAt w' (fun b => w.heap.size ≤ b) 1 A' n (strCell ks) ∧ Below w.heap.size w w'
theorem mapKeys_any (ks : List ByteArray) (n b : Nat) (es : Array MapEntry) (clock : Nat) (w : World) (hks : ks.length = n) (hb : w.heap[b]? = some (.map es clock)) (hn : es.size = n) (hk : ∀ e, e ∈ es.toList → ∃ s, e.key = .string s ∧ s ∈ ks) (hst : MapKept.Stamped es clock) (hs : sortedS ks) (hmax : n ≤ 1000000) :
    Calls Tryz.prog 172 #[.map (some b)] w (KeysRow ks n w) := by
  have hlen : ∀ W : World, W.heap[b]? = some (.map es clock) → (Builtin.len_ #[85] 3 #[.map (some b)]).run Tryz.prog W = .ok (.int .i64 n) W := fun W hW => hn ▸ run_len_map _ _ _ _ _ _ rfl hW
  have hlen0 := hlen w hb
  have hmk := run_make_row' (P := Tryz.prog) 24 9 (.string ⟨#[]⟩) 16 Tryz.underlying24 info9 rfl .i64 .i64 n (by omega) (by omega) w
  obtain ⟨w1, hw1⟩ : ∃ w1, w1 = w.alloc (.cells (madeCells #[.string ⟨#[]⟩] n) 9) := ⟨_, rfl⟩
  have hb1 : Below w.heap.size w w1 := by rw [hw1]; exact (Below.refl _ _).alloc (Nat.le_refl _) _
  have hg1 : w1.heap[w.heap.size]? = some (.cells (madeCells #[.string ⟨#[]⟩] n) 9 (0, 0)) := by rw [hw1]; exact heap_alloc_new w _
  have hsz1 : w1.heap.size = w.heap.size + 1 := by rw [hw1]; simp
  have hbl := heap_lt hb
  obtain ⟨hrange, hrng⟩ := Rng.start ((hb1.block b hbl).trans hb)
  have hkg := KG.start w _ w.heap.size n es.toList (hb1.alloc hb1.size (.mapIter (some b) clock #[] clock)) ((Below.heap_alloc _ _ _ (heap_lt hg1)).trans hg1)
  rw [hsz1] at hrange hrng
  have hesl : es.toList.length = n := by simp [hn]
  have HW1 := Lib.hid hw1
  have HST := Lib.hid hst
  have HRNG := Lib.hid hrng
  have HKG := Lib.hid hkg
  have HN := Lib.hid (And.intro hks (And.intro hesl (And.intro hk hs)))
  rw [← hw1] at hmk
  clear hw1 hb1 hg1 hrng hkg hks hb hn hk hst hs hlen hesl hsz1
  go_enter Tryz.func172, Tryz.ntmps172
  go_wp2_with fail
  go_loopw [4] (fun i wr => ∃ (seen : Array Nat) (ts : List ByteArray), i = .int .i64 ts.length ∧ Rng b (w.heap.size + 1) es clock seen wr ∧ KG w w.heap.size n es.toList seen ts wr) (fun _ wr => wr.rangeLeft b (w.heap.size + 1))
  case atStart => exact ⟨#[], [], rfl, HRNG.out, HKG.out⟩
  case round =>
    obtain ⟨seen, ts, rfl, hrg, hkg⟩ := hrel
    have HL := Lib.hid hrg.left_eq
    have HM := Lib.hid hkg
    rcases hrg.next HST.out 0 with ⟨hsn, hrun⟩ | ⟨e, w2, he, hes, hlt, hrun, hent, hrg2, hg2, hsz2⟩
    · obtain ⟨hks, hesl, hkk, hso⟩ := HN.out
      obtain ⟨arr, ha1, ha2, ha3⟩ := hkg.row
      obtain ⟨hl1, hl2⟩ := hkg.done hsn HST.out.2.2 (by rw [hesl, hks]) hkk hso
      have hmt : (ts.map fun s => s.data.toList).length = n := by rw [List.length_map, hl1, hks]
      have HSRT := Lib.hid (sortStrings_any (ts.map fun s => s.data.toList) n hmt w.heap.size n arr wr ha1 (by
        rw [List.length_map, ha3, List.map_map]
        refine List.map_congr_left fun t _ => ?_
        simp [encStr]) (by rw [hmt]; omega))
      rw [hl2] at HSRT
      have HA2 := Lib.hid ha2
      have HLT := Lib.hid (heap_lt ha1)
      clear hks hesl hkk hso ha1 ha2 ha3 hl1 hl2 hmt hsn hrg hkg
      go_wp2_with fail
      refine HSRT.out.mono ?_
      rintro e' w' ⟨rfl, hg', hh'⟩
      have HG := Lib.hid hg'
      have HH := Lib.hid hh'
      clear hg' hh'
      go_wp2_with fail
      go_ret
      refine ⟨_, rfl, fun hn0 => ⟨_, rfl, Nat.le_refl _, fun i j u hi hu => ?_⟩, HM.out.below.grown HG.out HM.out.below.size (fun k hk => by injection hk with hk; omega)⟩
      have hn' : (ks.map fun s => s.data.toList).length = n := by rw [List.length_map]; exact HN.out.1
      have htk := take_putCells arr (ks.map fun s => s.data.toList) (by rw [hn', HA2.out]; exact Nat.le_refl _)
      rw [hn'] at htk
      match j, hu with
      | 0, hu =>
        simp only [strCell, List.getElem?_cons_zero, Option.some.injEq] at hu
        subst hu
        have e : (⟨w.heap.size, 0, none⟩ : Addr).add (i * 1 + 0) = ⟨w.heap.size, i, none⟩ := by
          unfold Addr.add
          split
          · rename_i h0; have : i = 0 := by omega
            subst this; rfl
          · simp
        rw [e]
        have hks := HN.out.1
        have h1 : (ks.map fun s => s.data.toList).map encStr = ks.map .string := by
          rw [List.map_map]
          refine List.map_congr_left fun t _ => ?_
          simp [encStr]
        rw [h1] at htk
        have h2 : ((putCells encStr 0 (ks.map fun s => s.data.toList).toArray arr).toList.take n)[i]? = some (.string (ks.getD i ⟨#[]⟩)) := by
          rw [htk, List.getElem?_map, List.getD_eq_getElem?_getD, List.getElem?_eq_getElem (by omega)]
          rfl
        rw [List.getElem?_take_of_lt hi, Array.getElem?_toList] at h2
        simp only [World.cell?, HH.out]
        simpa using h2
      | j + 1, hu => simp [strCell] at hu
    · obtain ⟨hks, hesl, hkk, hso⟩ := HN.out
      obtain ⟨t, hk, _⟩ := hkk e he
      rw [hk] at hrun hent
      have hroom := hkg.room HST.out.2.2 hesl he hes hk
      obtain ⟨arr, ha1, ha2, ha3⟩ := hkg.row
      have hgr : w.heap.size ≠ w.heap.size + 1 := by omega
      have h1' : w2.heap[w.heap.size]? = some (.cells arr 9 (0, 0)) := (hg2.block _ (heap_lt ha1) (fun e => hgr (by injection e))).trans ha1
      obtain ⟨hcell0, hfro⟩ := cell_of_row (i := ts.length) h1' (by omega)
      obtain ⟨z, hcell⟩ : ∃ z, w2.cell? ⟨w.heap.size, ts.length, none⟩ = some z := ⟨_, hcell0⟩
      clear hcell0
      have HST2 := Lib.hid (hkg.step hg2 hgr (Nat.le_refl _) (Nat.le_succ _) HST.out.2.2 HST.out.2.1 he hes hk hroom)
      have HR2 := Lib.hid (hrg2.setCell (g := w.heap.size) (i := ts.length) (.string t) (by omega) (by omega))
      have HLT := Lib.hid hlt
      have hlen2 : (ts ++ [t]).length = ts.length + 1 := by simp
      have HLEN := Lib.hid hlen2
      clear hks hesl hkk hso ha1 ha2 ha3 hkg hrg hlt hrg2 he hes hk hg2 hsz2 h1' hlen2
      generalize ts.length = p at *
      go_wp2_with fail
      go_roundw
      case rel => exact ⟨_, _, by rw [HLEN.out]; go_num, HR2.out, HST2.out⟩
      · rw [HL.out, HR2.out.left_eq]; exact HLT.out
/-- A []any of the call's own, its first k cells written. -/
structure FillAt (w : World) (g n k : Nat) (val : Nat → Value) (wr : World) : Prop where
  below : w.grownBy wr (some g)
  row : ∃ arr : Array Value, wr.heap[g]? = some (.cells arr 20 (0, 0)) ∧ arr.size = n ∧ ∀ i, i < k → arr[i]? = some (val i)
theorem FillAt.cell {w wr : World} {g n k : Nat} {val : Nat → Value} (h : FillAt w g n k val wr) (hk : k < n) : ∃ z, wr.cell? ⟨g, k, none⟩ = some z ∧ wr.frozen? ⟨g, k, none⟩ = false := by
  obtain ⟨arr, h1, h2, _⟩ := h.row
  exact ⟨_, cell_of_row h1 (by omega)⟩
theorem FillAt.step {w wr : World} {g n k : Nat} {val : Nat → Value} (h : FillAt w g n k val wr) (hk : k < n) : FillAt w g n (k + 1) val (wr.setCell ⟨g, k, none⟩ (val k)) := by
  obtain ⟨arr, h1, h2, h3⟩ := h.row
  refine ⟨⟨h.below.os, h.below.tape, h.below.output, by simp [World.setCell]; exact h.below.size, fun q hq hne => (Below.heap_setCell _ _ _ _ (fun e => hne (by rw [e]))).trans (h.below.block q hq hne)⟩, _, heap_setCell_row h1 _, by simp [h2], fun i hi => ?_⟩
  by_cases e : i = k
  · subst e
    rw [Array.getElem?_setIfInBounds, if_pos rfl, if_pos (by omega)]
  · rw [Array.getElem?_setIfInBounds, if_neg (fun h => e h.symm)]
    exact h3 i (by omega)
theorem FillAt.start {w : World} {g n : Nat} (val : Nat → Value) (hg : w.heap[g]? = some (.cells (madeCells #[.nilIface] n) 20 (0, 0))) : FillAt w g n 0 val w :=
  ⟨⟨rfl, rfl, rfl, Nat.le_refl _, fun _ _ _ => rfl⟩, _, hg, size_madeCells _ _, fun i h => by omega⟩
/-- The keys of an array or an object. -/
def keysJ : J → Option (List J)
  | .arr l => some ((List.range l.length).map fun (i : Nat) => J.int (i : Int))
  | .obj ks _ => some (ks.map .str)
  | _ => none
def KeysPost (l : List J) (w : World) (e : Ending) (w' : World) : Prop := ∃ x, e = .returned x ∧ Below w.heap.size w w' ∧ Jr w' (fun _ => True) (.arr l) x
theorem funcKeys_arr (l : List J) (x : Value) (ok : Nat → Prop) (w : World) (hl : l.length ≤ 1000000) (h : Jr w ok (.arr l) x) : Calls Tryz.prog 119 #[x] w (KeysPost ((List.range l.length).map fun (i : Nat) => J.int (i : Int)) w) := by
  obtain _ | _ | _ | _ | _ | ⟨_, A, c, f, hc, r, e⟩ := h
  obtain ⟨n, hn⟩ : ∃ n, n = l.length := ⟨_, rfl⟩
  rw [← hn] at hl hc r ⊢
  have hmk := run_make_any w n n (Nat.le_refl _) (by omega)
  obtain ⟨w1, hw1⟩ : ∃ w1, w1 = w.alloc (.cells (madeCells #[.nilIface] n) 20) := ⟨_, rfl⟩
  have hb1 : Below w.heap.size w w1 := by rw [hw1]; exact (Below.refl _ _).alloc (Nat.le_refl _) _
  have hf := FillAt.start (g := w.heap.size) (fun i => .iface 3 (.int .i64 (i : Int))) (show w1.heap[w.heap.size]? = some (.cells (madeCells #[.nilIface] n) 20 (0, 0)) by rw [hw1]; exact heap_alloc_new w _)
  rw [← hw1] at hmk
  have HB1 := Lib.hid hb1
  have HF := Lib.hid hf
  have HW1 := Lib.hid hw1
  clear hn r e hb1 hf hw1
  go_enter Tryz.func119, Tryz.ntmps119
  go_wp2_with fail
  go_loopw [24] (fun i wr => ∃ k : Nat, k ≤ n ∧ i = .int .i64 k ∧ FillAt w1 w.heap.size n k (fun i => .iface 3 (.int .i64 (i : Int))) wr) (fun i _ => n - (intOf i).toNat)
  case atStart => exact ⟨0, Nat.zero_le _, rfl, HF.out⟩
  case round =>
    obtain ⟨k, hk, rfl, hfl⟩ := hrel
    by_cases hlt : k < n
    · obtain ⟨z, hz, hfr⟩ := hfl.cell hlt
      have HS := Lib.hid (hfl.step hlt)
      clear hfl
      go_wp2_with fail
      refine ⟨⟨k + 1, by omega, by simp, HS.out⟩, ?_⟩
      simp [intOf]
      omega
    · have hkn : k = n := by omega
      subst hkn
      have HFL := Lib.hid hfl
      clear hfl hlt
      go_wp2_with fail
      go_ret
      obtain ⟨arr, h1, h2, h3⟩ := HFL.out.row
      refine ⟨_, rfl, HB1.out.grown HFL.out.below HB1.out.size (fun q hq => by injection hq with hq; omega), jr_arr_mk (by simp) trivial h1 (Nat.le_refl _) (by omega) fun i j hj => ?_⟩
      have hi : i < k := by have := (List.getElem?_eq_some_iff.1 hj).1; simpa using this
      rw [List.getElem?_map, List.getElem?_range hi] at hj
      cases hj
      exact ⟨_, h3 i hi, .int _⟩
theorem funcKeys_obj (ks : List ByteArray) (vs : List J) (x : Value) (ok : Nat → Prop) (w : World) (hl : ks.length ≤ 1000000) (hs : sortedS ks) (h : Jr w ok (.obj ks vs) x) : Calls Tryz.prog 119 #[x] w (KeysPost (ks.map .str) w) := by
  obtain _ | _ | _ | _ | _ | _ | ⟨_, _, b, es, clock, f, ho, hb, hn, hv, hnd, he, hg, hst, e⟩ := h
  obtain ⟨n, hks⟩ : ∃ n, ks.length = n := ⟨_, rfl⟩
  rw [hks] at hn hl
  have hlen : (Builtin.len_ #[85] 3 #[.map (some b)]).run Tryz.prog w = .ok (.int .i64 n) w := hn ▸ run_len_map _ _ _ _ _ _ rfl hb
  have hmk := run_make_any w n n (Nat.le_refl _) (by omega)
  obtain ⟨w1, hw1⟩ : ∃ w1, w1 = w.alloc (.cells (madeCells #[.nilIface] n) 20) := ⟨_, rfl⟩
  have hb1 : Below w.heap.size w w1 := by rw [hw1]; exact (Below.refl _ _).alloc (Nat.le_refl _) _
  have hg1 : w1.heap[w.heap.size]? = some (.cells (madeCells #[.nilIface] n) 20 (0, 0)) := by rw [hw1]; exact heap_alloc_new w _
  rw [← hw1] at hmk
  have HK := Lib.hid (mapKeys_any ks n b es clock w1 hks ((hb1.block b (heap_lt hb)).trans hb) hn he hst hs hl)
  have HB1 := Lib.hid hb1
  have HG1 := Lib.hid hg1
  have HKS := Lib.hid hks
  clear hks hn hs ho hb hv hnd he hg hst e hb1 hg1 hw1
  go_enter Tryz.func119, Tryz.ntmps119
  go_wp2_with fail
  refine HK.out.mono ?_
  rintro e' w2 ⟨A', rfl, hrow, hb2⟩
  have hg2 := (hb2.block _ (heap_lt HG1.out)).trans HG1.out
  have HF := Lib.hid (FillAt.start (g := w.heap.size) (fun i => .iface 9 (.string (ks.getD i ⟨#[]⟩))) hg2)
  have HB2 := Lib.hid (below_trans HB1.out hb2)
  have HROW := Lib.hid hrow
  have hlt1 := heap_lt HG1.out
  clear hrow hb2 hg2
  go_wp2_with fail
  go_loopw [44] (fun i wr => ∃ k : Nat, k ≤ n ∧ i = .int .i64 k ∧ FillAt w2 w.heap.size n k (fun i => .iface 9 (.string (ks.getD i ⟨#[]⟩))) wr) (fun i _ => n - (intOf i).toNat)
  case atStart => exact ⟨0, Nat.zero_le _, rfl, HF.out⟩
  case round =>
    obtain ⟨k, hk, rfl, hfl⟩ := hrel
    by_cases hlt : k < n
    · obtain ⟨z, hz, hfr⟩ := hfl.cell hlt
      have HS := Lib.hid (hfl.step hlt)
      obtain ⟨ad, rfl, hao, hc⟩ := HROW.out (by omega)
      have hc0 := hc k 0 _ hlt rfl
      have hbk := World.block_lt_of_cell? _ _ hc0
      have hc1 : wr.cell? (ad.add k) = some (.string (ks.getD k ⟨#[]⟩)) := by
        simp only [Nat.mul_one, Nat.add_zero] at hc0 hbk
        rw [← hc0]
        refine cell_of_block (hfl.below.block _ hbk (fun e => ?_))
        injection e with e
        rw [block_add] at e
        omega
      clear hfl hao hc hc0 hbk
      go_wp2_with fail
      refine ⟨⟨k + 1, by omega, by simp, HS.out⟩, ?_⟩
      simp [intOf]
      omega
    · have hkn : k = n := by omega
      subst hkn
      have HFL := Lib.hid hfl
      clear hfl hlt
      go_wp2_with fail
      go_ret
      obtain ⟨arr, h1, h2, h3⟩ := HFL.out.row
      refine ⟨_, rfl, HB2.out.grown HFL.out.below HB2.out.size (fun q hq => by injection hq with hq; omega), jr_arr_mk (by simpa using HKS.out) trivial h1 (Nat.le_refl _) (by omega) fun i j hj => ?_⟩
      have hi : i < k := by have := (List.getElem?_eq_some_iff.1 hj).1; rw [List.length_map, HKS.out] at this; exact this
      rw [List.getElem?_map, List.getElem?_eq_getElem (by rw [HKS.out]; exact hi)] at hj
      cases hj
      refine ⟨_, h3 i hi, ?_⟩
      have e : ks.getD i ⟨#[]⟩ = ks[i]'(by rw [HKS.out]; exact hi) := by simp [List.getD_eq_getElem?_getD, HKS.out, hi]
      rw [e]
      exact .str _
theorem funcKeys_any (v : J) (l : List J) (hk : keysJ v = some l) (hv : JN v) (x : Value) (ok : Nat → Prop) (w : World) (h : Jr w ok v x) : Calls Tryz.prog 119 #[x] w (KeysPost l w) := by
  cases v with
  | arr a =>
    simp only [keysJ, Option.some.injEq] at hk
    rw [← hk]
    exact funcKeys_arr a x ok w (jn_len hv) h
  | obj ks vs =>
    simp only [keysJ, Option.some.injEq] at hk
    rw [← hk]
    obtain ⟨g1, g2, g3, _, _⟩ := jn_obj_elim hv
    exact funcKeys_obj ks vs x ok w g1 g3 h
  | _ => simp [keysJ] at hk
theorem zzKeys_any (v : J) (l : List J) (hk : keysJ v = some l) (hv : JN v) (x : Value) (ok : Nat → Prop) (w : World) (h : Jr w ok v x) : Calls Tryz.prog 68 #[x] w (KeysPost l w) := by
  have H := Lib.hid (funcKeys_any v l hk hv x ok w h)
  clear hk hv h
  go_enter Tryz.func68, Tryz.ntmps68
  go_wp2_with fail
  refine H.out.mono ?_
  rintro e' w' ⟨u, rfl, hb, hr⟩
  have HR := Lib.hid hr
  clear hr
  go_wp2_with fail
  go_ret
  exact ⟨_, rfl, hb, HR.out⟩
set_option maxHeartbeats 1000000 in
/-- impl.Keys: what gojq gives of the values, as a result. -/
theorem door_Keys (v1 : V) (ok : Nat → Prop) (cs1 : List Value) (w : World) (hv1 : Vr w ok v1 cs1) (wf1 : WF v1) (pa1 : Sm v1)
    (S : Value → World → Prop) (T : V → Int → Prop)
    (HZ : ∀ (x1 : Value) (W : World), Below w.heap.size w W → Jr W (fun _ => True) v1.j x1 → Calls Tryz.prog 68 #[x1] W fun e W' => ∃ x, e = .returned x ∧ Below W.heap.size W W' ∧ S x W')
    (HR : ∀ (x : Value) (W : World), S x W → Calls Tryz.prog 48 #[x] W (ResPost T W)) :
    Calls Tryz.prog 34 #[.agg cs1.toArray] w (ResPost T w) := by
  have HV1 := Lib.hid hv1
  obtain ⟨k1, h1, t1, l1, ks1, vs1, P1, p1, Q1, q1, R1, r1, f1, g1, i1, i2, i3, i4, i5, i6, i7, i8, i9, i10, i11, i12, i13, i14, i15⟩ := hv1
  clear i1 i2 i3 i4 i5 i6 i7 i8 i9 i10 i11 i12 i13 i14 i15
  obtain ⟨W0, hW0⟩ : ∃ W0, W0 = (w.alloc (.cells #[.int .i64 k1, .int .i64 h1, .string t1, .slice P1 l1.length p1, .slice Q1 ks1.length q1, .slice R1 vs1.length r1] 26)).alloc (.cells #[.int .i64 0, .int .i64 0, .string ⟨#[]⟩, .slice none 0 0, .slice none 0 0, .slice none 0 0, .int .i64 0] 34) := ⟨_, rfl⟩
  have hB : Below w.heap.size w W0 := by rw [hW0]; exact (((Below.refl _ _).alloc (Nat.le_refl _) _).alloc (by (try simp); (try omega)) _)
  have hS0 : W0.heap.size = w.heap.size + 2 := by rw [hW0]; simp
  have hR0 : W0.heap[w.heap.size + 1]? = some (.cells #[.int .i64 0, .int .i64 0, .string ⟨#[]⟩, .slice none 0 0, .slice none 0 0, .slice none 0 0, .int .i64 0] 34) := by
    rw [hW0]
    have := heap_alloc_new (w.alloc (.cells #[.int .i64 k1, .int .i64 h1, .string t1, .slice P1 l1.length p1, .slice Q1 ks1.length q1, .slice R1 vs1.length r1] 26)) (.cells #[.int .i64 0, .int .i64 0, .string ⟨#[]⟩, .slice none 0 0, .slice none 0 0, .slice none 0 0, .int .i64 0] 34)
    rw [show (w.alloc (.cells #[.int .i64 k1, .int .i64 h1, .string t1, .slice P1 l1.length p1, .slice Q1 ks1.length q1, .slice R1 vs1.length r1] 26)).heap.size = w.heap.size + 1 from by simp] at this
    exact this
  have HW0 := Lib.hid hW0
  have HT1 := Lib.hid (toGo_any _ ok _ W0 wf1 pa1 (HV1.out.keep hB))
  clear hW0
  go_enter Tryz.func34, Tryz.ntmps34
  go_wp2_with fail
  rw [← HW0.out]
  refine HT1.out.mono ?_
  rintro e' w1 ⟨x1, rfl, hx1, hb1⟩
  have HX1 := Lib.hid hx1
  have HB1 := Lib.hid (below_trans hB hb1)
  have HC1 := Lib.hid hb1
  clear hx1 hb1
  have HJ1 := Lib.hid (show Jr w1 (fun _ => True) _ x1 from HX1.out.mono fun _ _ => trivial)
  have hsz : w.heap.size + 2 ≤ w1.heap.size := by have := HC1.out.size; omega
  go_wp2_with fail
  refine (HZ x1 w1 HB1.out HJ1.out).mono ?_
  rintro e' w8 ⟨x8, rfl, hb8, hS8⟩
  have HS8 := Lib.hid hS8
  have HB8 := Lib.hid (below_trans HB1.out hb8)
  have HC8 := Lib.hid (below_trans HC1.out hb8)
  have hsz8 : w.heap.size + 2 ≤ w8.heap.size := by have := hb8.size; omega
  clear hS8 hb8
  go_wp2_with fail
  refine (HR x8 w8 HS8.out).mono ?_
  rintro e' w9 h9
  obtain ⟨v9, a0, a1, s, S3, S4, S5, n3, m3, n4, m4, n5, m5, c, rfl, hv9, hT9, hb9⟩ := resPost_shape h9
  have hr9 := (hb9.block _ (by omega)).trans ((HC8.out.block _ (by omega)).trans hR0)
  have y0 : w9.cell? ⟨w.heap.size + 1, 0, none⟩ = some (.int .i64 0) := by simp [World.cell?, hr9]
  have y1 : w9.cell? ⟨w.heap.size + 1, 1, none⟩ = some (.int .i64 0) := by simp [World.cell?, hr9]
  have y2 : w9.cell? ⟨w.heap.size + 1, 2, none⟩ = some (.string ⟨#[]⟩) := by simp [World.cell?, hr9]
  have y3 : w9.cell? ⟨w.heap.size + 1, 3, none⟩ = some (.slice none 0 0) := by simp [World.cell?, hr9]
  have y4 : w9.cell? ⟨w.heap.size + 1, 4, none⟩ = some (.slice none 0 0) := by simp [World.cell?, hr9]
  have y5 : w9.cell? ⟨w.heap.size + 1, 5, none⟩ = some (.slice none 0 0) := by simp [World.cell?, hr9]
  have y6 : w9.cell? ⟨w.heap.size + 1, 6, none⟩ = some (.int .i64 0) := by simp [World.cell?, hr9]
  have yf : ∀ i, w9.frozen? ⟨w.heap.size + 1, i, none⟩ = false := fun i => by simp [World.frozen?, hr9]
  have HB9 := Lib.hid (below_trans HB8.out hb9)
  have hset : ∀ (W : World) (i : Nat) (u : Value) (cs : List Value), Vr W (fun b => w.heap.size + 1 < b) v9 cs → Vr (W.setCell ⟨w.heap.size + 1, i, none⟩ u) (fun b => w.heap.size + 1 < b) v9 cs := fun W i u cs h =>
    h.move fun b hb => Below.heap_setCell _ _ _ _ (by show b ≠ w.heap.size + 1; omega)
  have HSET := Lib.hid hset
  have HV9 := Lib.hid (show Vr w9 (fun b => w.heap.size + 1 < b) v9 _ from hv9.mono fun b hb => by omega)
  have HT9 := Lib.hid hT9
  clear hset hv9 hT9 hb9 hr9 h9 hR0
  go_wp2_with fail
  refine bodyPost_ret (v := .agg #[.int .i64 a0, .int .i64 a1, .string s, .slice S3 n3 m3, .slice S4 n4 m4, .slice S5 n5 m5, .int .i64 c]) (by simp [results, Tryz.results34, go_sem, y0, y1, y2, y3, y4, y5, y6]) rfl ?_
  refine ⟨v9, [.int .i64 a0, .int .i64 a1, .string s, .slice S3 n3 m3, .slice S4 n4 m4, .slice S5 n5 m5], c, rfl, ?_, HT9.out, ?_⟩
  · exact (HSET.out _ _ _ _ (HSET.out _ _ _ _ (HSET.out _ _ _ _ (HSET.out _ _ _ _ (HSET.out _ _ _ _ (HSET.out _ _ _ _ (HSET.out _ _ _ _ HV9.out))))))).mono fun b hb => by omega
  · have hle : w.heap.size ≤ w.heap.size + 1 := by omega
    exact (((((((HB9.out.setCell hle _).setCell hle _).setCell hle _).setCell hle _).setCell hle _).setCell hle _).setCell hle _)
theorem jn_str {s : ByteArray} (hs : s.size ≤ 140737488351232) : JN (.str s) :=
  ⟨.mk 4 0 s [] [] [] (by decide) (.inr rfl) (.inl rfl) (.inr rfl) (.inr rfl) rfl (by decide) (.inl rfl) (fun i a b ha => by simp at ha) (fun v hv => by simp at hv) (fun v hv => by simp at hv), sm_plain _ _ _, .str s hs, by simp [J.v, V.j]⟩
theorem keys_jn {v : J} {l : List J} (hk : keysJ v = some l) (hv : JN v) : JN (.arr l) := by
  cases v with
  | arr a =>
    simp only [keysJ, Option.some.injEq] at hk
    have := jn_len hv
    rw [← hk]
    refine jn_arr (fun j hj => ?_) (by simpa using this)
    obtain ⟨i, hi, rfl⟩ := List.mem_map.1 hj
    have hi' : i < a.length := by simpa using hi
    exact jn_int _ (by omega)
  | obj ks vs =>
    simp only [keysJ, Option.some.injEq] at hk
    obtain ⟨g1, g2, g3, g4, _⟩ := jn_obj_elim hv
    rw [← hk]
    refine jn_arr (fun j hj => ?_) (by simpa using g1)
    obtain ⟨t, ht, rfl⟩ := List.mem_map.1 hj
    exact jn_str (g4 t ht)
  | _ => simp [keysJ] at hk
theorem implKeys (v : V) (l : List J) (hk : keysJ v.j = some l) (hjn : JN v.j) (ok : Nat → Prop) (cs : List Value) (w : World) (hv : Vr w ok v cs) (wf : WF v) (sm : Sm v) : Calls Tryz.prog 34 #[.agg cs.toArray] w (ResPost (fun u c => u = (J.arr l).v ∧ c = 0) w) := by
  refine door_Keys v ok cs w hv wf sm (fun x W => Jr W (fun _ => True) (.arr l) x) _ (fun x1 W _ h1 => ?_) (fun x W hx => ?_)
  · refine (zzKeys_any v.j l hk hjn x1 _ W h1).mono ?_
    rintro e' w' ⟨x, rfl, hb, h⟩
    exact ⟨x, rfl, hb, h⟩
  · exact (result_any _ (fun _ => True) _ W (keys_jn hk hjn).2.2.1 hx).mono fun e w' h => resPost_ok h
/-! ### What is built key by key. -/
/-- What stands when k keys have been set. -/
def bldJ : J → Nat → J
  | _, 0 => .null
  | .arr l, k + 1 => .arr (l.take (k + 1))
  | .obj ks vs, k + 1 => .obj (ks.take (k + 1)) (vs.take (k + 1))
  | _, _ => .null
theorem insK_last : ∀ (ks : List ByteArray) (s : ByteArray), sortedS (ks ++ [s]) → insK ks s = ks ++ [s]
  | [], s, _ => by simp [insK]
  | k :: ks, s, h => by
    have h2 := (sortedS_cons.1 h).2
    have hlt : bl k s = true := sortedS_lt h 0 k rfl ks.length s (by simp [Nat.add_comm])
    have hne : s ≠ k := fun e => by
      subst e
      have := sortedS_nodup h
      simp at this
    have hnl : ¬ bl s k = true := fun h' => by
      rw [bl_lt, decide_eq_true_eq] at h' hlt
      exact absurd (List.lt_trans h' hlt) (List.lt_irrefl _)
    rw [insK, if_neg hne, if_neg hnl, insK_last ks s h2, List.cons_append]
theorem insV_last : ∀ (ks : List ByteArray) (vs : List J) (s : ByteArray) (u : J), sortedS (ks ++ [s]) → ks.length = vs.length → insV ks vs s u = vs ++ [u]
  | [], [], s, u, _, _ => by simp [insV]
  | [], _ :: _, _, _, _, h => by simp at h
  | _ :: _, [], _, _, _, h => by simp at h
  | k :: ks, v :: vs, s, u, h, hl => by
    have h2 := (sortedS_cons.1 h).2
    have hlt : bl k s = true := sortedS_lt h 0 k rfl ks.length s (by simp [Nat.add_comm])
    have hne : s ≠ k := fun e => by
      subst e
      have := sortedS_nodup h
      simp at this
    have hnl : ¬ bl s k = true := fun h' => by
      rw [bl_lt, decide_eq_true_eq] at h' hlt
      exact absurd (List.lt_trans h' hlt) (List.lt_irrefl _)
    rw [insV, if_neg hne, if_neg hnl, insV_last ks vs s u h2 (by simpa using hl), List.cons_append]
theorem look_at' : ∀ (ks : List ByteArray) (vs : List J) (i : Nat) (t : ByteArray) (j : J), ks.Nodup → ks[i]? = some t → vs[i]? = some j → lookO ks vs t = some j
  | [], _, i, t, j, _, h, _ => by simp at h
  | _ :: _, [], i, t, j, _, _, h => by simp at h
  | k :: ks, v :: vs, 0, t, j, _, h, hv => by
    simp at h hv
    rw [lookO, if_pos h.symm, hv]
  | k :: ks, v :: vs, i + 1, t, j, hn, h, hv => by
    rw [List.nodup_cons] at hn
    have h' : ks[i]? = some t := by simpa using h
    have hv' : vs[i]? = some j := by simpa using hv
    rw [lookO, if_neg (fun e => hn.1 (by rw [← e]; exact List.mem_of_getElem? h'))]
    exact look_at' ks vs i t j hn.2 h' hv'
theorem setL_next (l : List J) (k : Nat) (u : J) (hk : k < l.length) (hu : l[k]? = some u) : setL (l.take k) k u = l.take (k + 1) := by
  unfold setL
  have h1 : (l.take k).length = k := by rw [List.length_take]; omega
  rw [h1, show k + 1 - k = 1 from by omega, List.take_add_one, hu]
  apply List.ext_getElem?
  intro i
  rw [List.getElem?_set]
  by_cases e : k = i
  · subst e
    rw [if_pos rfl, if_pos (by simp; omega), List.getElem?_append_right (by omega), h1]
    simp
  · rw [if_neg e]
    by_cases hi : i < k
    · rw [List.getElem?_append_left (by omega), List.getElem?_append_left (by omega)]
    · rw [List.getElem?_append_right (by omega), List.getElem?_append_right (by omega), h1]
      rw [List.getElem?_eq_none (by simp; omega), List.getElem?_eq_none (by simp; omega)]
/-- One key more. -/
theorem bld_step {v : J} {l : List J} (hk : keysJ v = some l) (hv : JN v) (k : Nat) (kj : J) (hkj : l[k]? = some kj) : ∃ u, atK v kj = some u ∧ JN u ∧ setJ [kj] (bldJ v k) u = some (bldJ v (k + 1)) := by
  cases v with
  | arr a =>
    simp only [keysJ, Option.some.injEq] at hk
    have hlt : k < a.length := by
      rw [← hk] at hkj
      have := (List.getElem?_eq_some_iff.1 hkj).1
      simpa using this
    have hu : a[k]? = some a[k] := List.getElem?_eq_getElem hlt
    rw [← hk, List.getElem?_map, List.getElem?_range hlt] at hkj
    cases hkj
    refine ⟨a[k], ?_, jn_arr_elim hv _ (List.getElem_mem hlt), ?_⟩
    · simp only [atK, atI, idxJ_natU, List.getD_eq_getElem?_getD, hu, Option.getD_some]
    · cases k with
      | zero =>
        have := setL_next a 0 a[0] hlt hu
        rw [List.take_zero] at this
        simp [bldJ, setJ, this]
      | succ k =>
        have := setL_next a (k + 1) a[k + 1] hlt hu
        simp only [bldJ, setJ, Int.toNat_natCast, this, Option.map_some]
  | obj ks vs =>
    simp only [keysJ, Option.some.injEq] at hk
    obtain ⟨g1, g2, g3, g4, g5⟩ := jn_obj_elim hv
    have hlt : k < ks.length := by
      rw [← hk] at hkj
      have := (List.getElem?_eq_some_iff.1 hkj).1
      simpa using this
    have hs : ks[k]? = some ks[k] := List.getElem?_eq_getElem hlt
    have hu : vs[k]? = some (vs[k]'(by omega)) := List.getElem?_eq_getElem (by omega)
    rw [← hk, List.getElem?_map, hs] at hkj
    cases hkj
    have hlook := look_at' ks vs k _ _ (sortedS_nodup g3) hs hu
    refine ⟨vs[k]'(by omega), by simp only [atK, atS, hlook, Option.getD_some], g5 _ (List.getElem_mem _), ?_⟩
    have hks : ks.take (k + 1) = ks.take k ++ [ks[k]] := by rw [List.take_add_one, hs]; rfl
    have hvs : vs.take (k + 1) = vs.take k ++ [vs[k]'(by omega)] := by rw [List.take_add_one, hu]; rfl
    have hsort : sortedS (ks.take k ++ [ks[k]]) := by
      rw [← hks]
      intro i a b ha hb
      refine g3 i a b ?_ ?_
      · rw [List.getElem?_take] at ha; split at ha <;> first | exact ha | cases ha
      · rw [List.getElem?_take] at hb; split at hb <;> first | exact hb | cases hb
    have hk1 := insK_last _ _ hsort
    have hv1 := insV_last (ks.take k) (vs.take k) ks[k] (vs[k]'(by omega)) hsort (by rw [List.length_take, List.length_take]; omega)
    cases k with
    | zero =>
      rw [List.take_zero] at hks hvs
      simp only [List.nil_append] at hks hvs
      simp [bldJ, setJ, hks, hvs]
    | succ k =>
      simp only [bldJ, setJ, hk1, hv1, Option.map_some, hks, hvs]
  | _ => simp [keysJ] at hk
theorem bld_all {v : J} {l : List J} (hk : keysJ v = some l) (hv : JN v) (hl : l ≠ []) : bldJ v l.length = v := by
  cases v with
  | arr a =>
    simp only [keysJ, Option.some.injEq] at hk
    have hlen : l.length = a.length := by rw [← hk]; simp
    have hpos := List.length_pos_iff.2 hl
    obtain ⟨m, hm⟩ : ∃ m, l.length = m + 1 := ⟨l.length - 1, by omega⟩
    rw [hm, bldJ, List.take_of_length_le (by omega)]
  | obj ks vs =>
    simp only [keysJ, Option.some.injEq] at hk
    obtain ⟨_, g2, _⟩ := jn_obj_elim hv
    have hlen : l.length = ks.length := by rw [← hk]; simp
    have hpos := List.length_pos_iff.2 hl
    obtain ⟨m, hm⟩ : ∃ m, l.length = m + 1 := ⟨l.length - 1, by omega⟩
    rw [hm, bldJ, List.take_of_length_le (by omega), List.take_of_length_le (by omega)]
  | _ => simp [keysJ] at hk
end Go.Proofs.YtpamlgdcnmcedaaGreatDoor

set_option linter.unusedVariables false
set_option linter.unusedSimpArgs false
set_option maxRecDepth 100000
namespace Go.Proofs.YtpamlgdcnmcedaaGreatDoor
open Go Go.RowKit
theorem isNaNInt_any (x : Int) (w : World) : Calls Tryz.prog 260 #[.int .i64 x] w fun e w' => e = .returned (.bool false) ∧ w' = w := by
  go_enter Tryz.func260, Tryz.ntmps260
  go_wp2_with fail
  go_ret
  exact ⟨rfl, rfl⟩
theorem cmpInt_any (x y : Int) (w : World) : Calls Tryz.prog 223 #[.int .i64 x, .int .i64 y] w fun e w' => e = .returned (.int .i64 (sgn (x - y))) ∧ w' = w := by
  by_cases h1 : x < y
  · have hs : sgn (x - y) = -1 := by unfold sgn; rw [if_pos (by omega)]
    rw [hs]
    go_enter Tryz.func223, Tryz.ntmps223
    go_wp2_with (go_at_call 260; refine (isNaNInt_any _ _).mono ?_; rintro e' w' ⟨rfl, rfl⟩)
    go_ret
    exact ⟨rfl, rfl⟩
  · by_cases h2 : y < x
    · have hs : sgn (x - y) = 1 := by unfold sgn; rw [if_neg (by omega), if_pos (by omega)]
      rw [hs]
      have h2' : x > y := h2
      clear hs
      go_enter Tryz.func223, Tryz.ntmps223
      go_wp2_with (go_at_call 260; refine (isNaNInt_any _ _).mono ?_; rintro e' w' ⟨rfl, rfl⟩)
      go_ret
      exact ⟨rfl, rfl⟩
    · have hs : sgn (x - y) = 0 := by unfold sgn; rw [if_neg (by omega), if_neg (by omega)]
      rw [hs]
      have h2' : ¬ x > y := h2
      clear hs
      go_enter Tryz.func223, Tryz.ntmps223
      go_wp2_with (go_at_call 260; refine (isNaNInt_any _ _).mono ?_; rintro e' w' ⟨rfl, rfl⟩)
      go_ret
      exact ⟨rfl, rfl⟩
theorem isNaNStr_any (x : ByteArray) (w : World) : Calls Tryz.prog 262 #[.string x] w fun e w' => e = .returned (.bool false) ∧ w' = w := by
  go_enter Tryz.func262, Tryz.ntmps262
  go_wp2_with fail
  go_ret
  exact ⟨rfl, rfl⟩
theorem cmpStr_any (x y : ByteArray) (w : World) : Calls Tryz.prog 226 #[.string x, .string y] w fun e w' => e = .returned (.int .i64 (textsC x y)) ∧ w' = w := by
  by_cases h1 : bl x y = true
  · have h1' : Op.bytesLess x.toList y.toList = true := h1
    have hs : textsC x y = -1 := by simp [textsC, h1]
    rw [hs]
    clear hs
    go_enter Tryz.func226, Tryz.ntmps226
    go_wp2_with (go_at_call 262; refine (isNaNStr_any _ _).mono ?_; rintro e' w' ⟨rfl, rfl⟩)
    go_ret
    exact ⟨rfl, rfl⟩
  · have h1' : Op.bytesLess x.toList y.toList = false := by simpa [bl] using h1
    by_cases h2 : (x.toList == y.toList) = true
    · have h3 : x = y := by
        have e := eq_of_beq h2
        cases x; cases y
        simp [ByteArray.toList_eq] at e ⊢
        exact e
      subst h3
      have hs : textsC x x = 0 := by simp only [textsC, h1, h2, if_true]; rfl
      rw [hs]
      clear hs
      go_enter Tryz.func226, Tryz.ntmps226
      go_wp2_with (go_at_call 262; refine (isNaNStr_any _ _).mono ?_; rintro e' w' ⟨rfl, rfl⟩)
      go_ret
      exact ⟨rfl, rfl⟩
    · have hs : textsC x y = 1 := by simp only [textsC, h1, if_neg h2]; rfl
      rw [hs]
      clear hs
      have h3 : Op.bytesLess y.toList x.toList = true := by
        have e1 : ¬ x.toList < y.toList := by rw [bl_lt, decide_eq_true_eq] at h1; exact h1
        have e2 : ¬ x.toList = y.toList := by simpa using h2
        have e3 : bl y x = true := by
          rw [bl_lt, decide_eq_true_eq]
          rcases Classical.em (y.toList < x.toList) with h | h
          · exact h
          · exact absurd (List.le_antisymm (List.not_lt.1 h) (List.not_lt.1 e1)) e2
        exact e3
      go_enter Tryz.func226, Tryz.ntmps226
      go_wp2_with (go_at_call 262; refine (isNaNStr_any _ _).mono ?_; rintro e' w' ⟨rfl, rfl⟩)
      go_ret
      exact ⟨rfl, rfl⟩
theorem lt_yes (x y : Nat) (w : World) (h : FloatKind.f64.format.order x y = some .lt) :
    Calls Tryz.prog 145 #[.float .f64 x, .float .f64 y] w fun e w' => e = .returned (.bool true) ∧ w = w' := by
  go_enter Tryz.func145, Tryz.ntmps145
  go_wp2_with fail
  go_ret
  exact ⟨rfl, rfl⟩
theorem cmpFl_any (a b : Int) (ha : Fl.Hb a) (hb : Fl.Hb b) (w : World) : Calls Tryz.prog 224 #[.float .f64 (Fl.hw a), .float .f64 (Fl.hw b)] w fun e w' => e = .returned (.int .i64 (sgn (a - b))) ∧ w' = w := by
  have ho : FloatKind.f64.format.order (Fl.hw a) (Fl.hw b) = some (compare a b) := Fl.stands_order (Fl.stands_hwx a ha) (Fl.stands_hwx b hb)
  have hs : FloatKind.f64.format.order (Fl.hw a) (Fl.hw a) = some .eq := by
    have := Fl.stands_order (Fl.stands_hwx a ha) (Fl.stands_hwx a ha)
    rw [show compare a a = .eq by simp [compare, compareOfLessAndEq]] at this
    exact this
  by_cases h1 : a < b
  · rw [show compare a b = .lt by simp [compare, compareOfLessAndEq, h1]] at ho
    rw [show sgn (a - b) = -1 by unfold sgn; rw [if_pos (by omega)]]
    clear hs
    go_enter Tryz.func224, Tryz.ntmps224
    go_wp2_with (go_at_call 145; refine (lt_yes _ _ _ ho).mono ?_; rintro e' w' ⟨rfl, rfl⟩)
    go_ret
    exact ⟨rfl, rfl⟩
  · have hnl : (FloatKind.f64.format.order (Fl.hw a) (Fl.hw b) == some .lt) = false := by
      rw [ho]
      by_cases h2 : a = b
      · simp [compare, compareOfLessAndEq, h1, h2]
      · simp [compare, compareOfLessAndEq, h1, h2]
    by_cases h2 : a = b
    · subst h2
      rw [show sgn (a - a) = 0 by unfold sgn; rw [if_neg (by omega), if_neg (by omega)]]
      go_enter Tryz.func224, Tryz.ntmps224
      go_wp2_with (go_at_call 145; refine (lt_no _ _ _ hs hnl).mono ?_; rintro e' w' ⟨rfl, rfl⟩)
      go_ret
      exact ⟨rfl, rfl⟩
    · rw [show compare a b = .gt by simp [compare, compareOfLessAndEq, h1, h2]] at ho
      rw [show sgn (a - b) = 1 by unfold sgn; rw [if_neg (by omega), if_pos (by omega)]]
      go_enter Tryz.func224, Tryz.ntmps224
      go_wp2_with (go_at_call 145; refine (lt_no _ _ _ hs hnl).mono ?_; rintro e' w' ⟨rfl, rfl⟩)
      go_ret
      exact ⟨rfl, rfl⟩
/-- The kind's number. -/
theorem typeIx_any {w : World} {ok : Nat → Prop} {a : J} {x : Value} (h : Jr w ok a x) : Calls Tryz.prog 230 #[x] w fun e w' => e = .returned (.int .i64 a.v.kind) ∧ w' = w := by
  cases h with
  | bool b =>
    cases b
    all_goals
      go_enter Tryz.func230, Tryz.ntmps230
      go_wp2_with fail
      go_ret
      exact ⟨rfl, rfl⟩
  | _ =>
    go_enter Tryz.func230, Tryz.ntmps230
    go_wp2_with fail
    go_ret
    exact ⟨by simp [J.v, V.kind], rfl⟩
theorem fallback_any {w : World} {ok : Nat → Prop} {a b : J} {x y : Value} (ha : Jr w ok a x) (hb : Jr w ok b y) : Calls Tryz.prog 229 #[x, y] w fun e w' => e = .returned (.int .i64 (sgn (a.v.kind - b.v.kind))) ∧ w' = w := by
  have HA := Lib.hid (typeIx_any ha)
  have HB := Lib.hid (typeIx_any hb)
  generalize a.v.kind = p at HA ⊢
  generalize b.v.kind = q at HB ⊢
  rcases ha.form with rfl | ⟨t, z, rfl⟩ <;> rcases hb.form with rfl | ⟨t', z', rfl⟩
  all_goals
    clear ha hb
    go_enter Tryz.func229, Tryz.ntmps229
    go_wp2_with fail
    refine HA.out.mono ?_
    rintro e' w' ⟨rfl, rfl⟩
    go_wp2_with fail
    refine HB.out.mono ?_
    rintro e' w' ⟨rfl, rfl⟩
    go_wp2_with (go_at_call 223; refine (cmpInt_any _ _ _).mono ?_; rintro e' w' ⟨rfl, rfl⟩)
    go_ret
    exact ⟨rfl, rfl⟩
def CmpJPost (c : Int) (w : World) (e : Ending) (w' : World) : Prop := e = .returned (.int .i64 c) ∧ Below w.heap.size w w'
theorem cmpJ_same {c : Int} {w w' : World} {e : Ending} (h : e = .returned (.int .i64 c) ∧ w' = w) : CmpJPost c w e w' := by
  obtain ⟨rfl, rfl⟩ := h
  exact ⟨rfl, Below.refl _ _⟩
theorem cmpJ_same' {c : Int} {w w' : World} {e : Ending} (h : e = .returned (.int .i64 c) ∧ w = w') : CmpJPost c w e w' := by
  obtain ⟨rfl, rfl⟩ := h
  exact ⟨rfl, Below.refl _ _⟩
theorem cs_ints (l r : Int) (c : Int) (w : World) (H : Calls Tryz.prog 223 #[.int .i64 l, .int .i64 r] w (CmpJPost c w)) :
    Calls Tryz.prog 222 #[.iface 3 (.int .i64 l), .iface 3 (.int .i64 r), .func (.func 223) #[] #[], .func (.func 224) #[] #[], .func (.func 225) #[] #[], .func (.func 226) #[] #[], .func (.func 227) #[] #[], .func (.func 228) #[] #[], .func (.func 229) #[] #[]] w (CmpJPost c w) := by
  have HH := Lib.hid H
  clear H
  go_enter Tryz.func222, Tryz.ntmps222
  go_wp2_with fail
  refine HH.out.mono ?_
  rintro e' w' ⟨rfl, hb⟩
  have HB := Lib.hid hb
  clear hb
  go_wp2_with fail
  go_ret
  exact ⟨rfl, HB.out⟩
theorem cs_intFl (l : Int) (r : Nat) (c : Int) (w : World) (H : Calls Tryz.prog 224 #[.float .f64 (Fl.fl l), .float .f64 r] w (CmpJPost c w)) :
    Calls Tryz.prog 222 #[.iface 3 (.int .i64 l), .iface 82 (.float .f64 r), .func (.func 223) #[] #[], .func (.func 224) #[] #[], .func (.func 225) #[] #[], .func (.func 226) #[] #[], .func (.func 227) #[] #[], .func (.func 228) #[] #[], .func (.func 229) #[] #[]] w (CmpJPost c w) := by
  have HH := Lib.hid H
  clear H
  go_enter Tryz.func222, Tryz.ntmps222
  go_wp2_with fail
  refine HH.out.mono ?_
  rintro e' w' ⟨rfl, hb⟩
  have HB := Lib.hid hb
  clear hb
  go_wp2_with fail
  go_ret
  exact ⟨rfl, HB.out⟩
theorem cs_flInt (l : Nat) (r : Int) (c : Int) (w : World) (H : Calls Tryz.prog 224 #[.float .f64 l, .float .f64 (Fl.fl r)] w (CmpJPost c w)) :
    Calls Tryz.prog 222 #[.iface 82 (.float .f64 l), .iface 3 (.int .i64 r), .func (.func 223) #[] #[], .func (.func 224) #[] #[], .func (.func 225) #[] #[], .func (.func 226) #[] #[], .func (.func 227) #[] #[], .func (.func 228) #[] #[], .func (.func 229) #[] #[]] w (CmpJPost c w) := by
  have HH := Lib.hid H
  clear H
  go_enter Tryz.func222, Tryz.ntmps222
  go_wp2_with fail
  refine HH.out.mono ?_
  rintro e' w' ⟨rfl, hb⟩
  have HB := Lib.hid hb
  clear hb
  go_wp2_with fail
  go_ret
  exact ⟨rfl, HB.out⟩
theorem cs_fls (l r : Nat) (c : Int) (w : World) (H : Calls Tryz.prog 224 #[.float .f64 l, .float .f64 r] w (CmpJPost c w)) :
    Calls Tryz.prog 222 #[.iface 82 (.float .f64 l), .iface 82 (.float .f64 r), .func (.func 223) #[] #[], .func (.func 224) #[] #[], .func (.func 225) #[] #[], .func (.func 226) #[] #[], .func (.func 227) #[] #[], .func (.func 228) #[] #[], .func (.func 229) #[] #[]] w (CmpJPost c w) := by
  have HH := Lib.hid H
  clear H
  go_enter Tryz.func222, Tryz.ntmps222
  go_wp2_with fail
  refine HH.out.mono ?_
  rintro e' w' ⟨rfl, hb⟩
  have HB := Lib.hid hb
  clear hb
  go_wp2_with fail
  go_ret
  exact ⟨rfl, HB.out⟩
theorem cs_strs (l r : ByteArray) (c : Int) (w : World) (H : Calls Tryz.prog 226 #[.string l, .string r] w (CmpJPost c w)) :
    Calls Tryz.prog 222 #[.iface 9 (.string l), .iface 9 (.string r), .func (.func 223) #[] #[], .func (.func 224) #[] #[], .func (.func 225) #[] #[], .func (.func 226) #[] #[], .func (.func 227) #[] #[], .func (.func 228) #[] #[], .func (.func 229) #[] #[]] w (CmpJPost c w) := by
  have HH := Lib.hid H
  clear H
  go_enter Tryz.func222, Tryz.ntmps222
  go_wp2_with fail
  refine HH.out.mono ?_
  rintro e' w' ⟨rfl, hb⟩
  have HB := Lib.hid hb
  clear hb
  go_wp2_with fail
  go_ret
  exact ⟨rfl, HB.out⟩
theorem cs_arrs (A B : Option Addr) (m c1 n c2 : Nat) (c : Int) (w : World) (H : Calls Tryz.prog 227 #[.slice A m c1, .slice B n c2] w (CmpJPost c w)) :
    Calls Tryz.prog 222 #[.iface 62 (.slice A m c1), .iface 62 (.slice B n c2), .func (.func 223) #[] #[], .func (.func 224) #[] #[], .func (.func 225) #[] #[], .func (.func 226) #[] #[], .func (.func 227) #[] #[], .func (.func 228) #[] #[], .func (.func 229) #[] #[]] w (CmpJPost c w) := by
  have HH := Lib.hid H
  clear H
  go_enter Tryz.func222, Tryz.ntmps222
  go_wp2_with fail
  refine HH.out.mono ?_
  rintro e' w' ⟨rfl, hb⟩
  have HB := Lib.hid hb
  clear hb
  go_wp2_with fail
  go_ret
  exact ⟨rfl, HB.out⟩
theorem cs_objs (a b : Option Nat) (c : Int) (w : World) (H : Calls Tryz.prog 228 #[.map a, .map b] w (CmpJPost c w)) :
    Calls Tryz.prog 222 #[.iface 85 (.map a), .iface 85 (.map b), .func (.func 223) #[] #[], .func (.func 224) #[] #[], .func (.func 225) #[] #[], .func (.func 226) #[] #[], .func (.func 227) #[] #[], .func (.func 228) #[] #[], .func (.func 229) #[] #[]] w (CmpJPost c w) := by
  have HH := Lib.hid H
  clear H
  go_enter Tryz.func222, Tryz.ntmps222
  go_wp2_with fail
  refine HH.out.mono ?_
  rintro e' w' ⟨rfl, hb⟩
  have HB := Lib.hid hb
  clear hb
  go_wp2_with fail
  go_ret
  exact ⟨rfl, HB.out⟩
/-- The sort of a value, as the switch sees it. -/
def J.sort : J → Nat
  | .int _ => 1
  | .hf _ => 1
  | .str _ => 2
  | .arr _ => 3
  | .obj _ _ => 4
  | _ => 0
/-- The forms of a value, with its sort. -/
inductive Sh : Nat → Value → Prop
  | nil : Sh 0 .nilIface
  | bool (b : Bool) : Sh 0 (.iface 4 (.bool b))
  | int (n : Int) : Sh 1 (.iface 3 (.int .i64 n))
  | fl (x : Nat) : Sh 1 (.iface 82 (.float .f64 x))
  | str (s : ByteArray) : Sh 2 (.iface 9 (.string s))
  | arr (A : Option Addr) (n c : Nat) : Sh 3 (.iface 62 (.slice A n c))
  | obj (b : Nat) : Sh 4 (.iface 85 (.map (some b)))
theorem sh_of {w : World} {ok : Nat → Prop} {a : J} {x : Value} (h : Jr w ok a x) : Sh a.sort x := by
  cases h <;> constructor
set_option maxHeartbeats 8000000 in
theorem sh_fall {x y : Value} {p q : Nat} (ha : Sh p x) (hb : Sh q y) (hs : p = 0 ∨ p ≠ q) (c : Int) (w : World) (H : Calls Tryz.prog 229 #[x, y] w (CmpJPost c w)) :
    Calls Tryz.prog 222 #[x, y, .func (.func 223) #[] #[], .func (.func 224) #[] #[], .func (.func 225) #[] #[], .func (.func 226) #[] #[], .func (.func 227) #[] #[], .func (.func 228) #[] #[], .func (.func 229) #[] #[]] w (CmpJPost c w) := by
  have HH := Lib.hid H
  clear H
  cases ha <;> cases hb
  all_goals first
    | (refine absurd hs ?_; decide)
    | skip
  all_goals clear hs
  all_goals
    go_enter Tryz.func222, Tryz.ntmps222
    go_wp2_with fail
    refine HH.out.mono ?_
    rintro e' w' ⟨rfl, hb⟩
    have HB := Lib.hid hb
    clear hb
    go_wp2_with fail
    go_ret
    exact ⟨rfl, HB.out⟩
theorem cs_fall {w : World} {ok : Nat → Prop} {a b : J} {x y : Value} (ha : Jr w ok a x) (hb : Jr w ok b y) (hs : a.sort = 0 ∨ a.sort ≠ b.sort) (c : Int) (H : Calls Tryz.prog 229 #[x, y] w (CmpJPost c w)) :
    Calls Tryz.prog 222 #[x, y, .func (.func 223) #[] #[], .func (.func 224) #[] #[], .func (.func 225) #[] #[], .func (.func 226) #[] #[], .func (.func 227) #[] #[], .func (.func 228) #[] #[], .func (.func 229) #[] #[]] w (CmpJPost c w) := sh_fall (sh_of ha) (sh_of hb) hs c w H
end Go.Proofs.YtpamlgdcnmcedaaGreatDoor

set_option linter.unusedVariables false
set_option linter.unusedSimpArgs false
namespace Go.Proofs.YtpamlgdcnmcedaaGreatDoor
open Go Go.RowKit
theorem cmpV_comm0 {a b : V} (h1 : cmpV a b ≤ 0) (h2 : cmpV b a ≤ 0) : cmpV a b = 0 := by
  have := cmpV_anti a b
  omega
/-- The places of the first i keys, in their order. -/
def Rk (key : Nat → V) (i : Nat) (R : List Nat) : Prop := R.length = i ∧ (∀ j, j < i → j ∈ R) ∧ (∀ j, j ∈ R → j < i) ∧ R.Pairwise fun a b => cmpV (key a) (key b) ≤ 0
theorem rk_nil (key : Nat → V) : Rk key 0 [] := ⟨rfl, fun j h => absurd h (Nat.not_lt_zero _), fun j h => (by cases h), .nil⟩
theorem rk_step {key : Nat → V} {i : Nat} {R : List Nat} (h : Rk key i R) (p : Nat) (hp : p ≤ i) (h1 : p = 0 ∨ ∃ q, R[p - 1]? = some q ∧ cmpV (key q) (key i) ≤ 0)
    (h2 : ∀ r q, p ≤ r → R[r]? = some q → 0 < cmpV (key q) (key i)) : Rk key (i + 1) (R.take p ++ i :: R.drop p) := by
  obtain ⟨hl, hin, hlt, hpw⟩ := h
  have hsplit : R.take p ++ R.drop p = R := List.take_append_drop p R
  have hpw' := hpw
  rw [← hsplit, List.pairwise_append] at hpw'
  obtain ⟨pa, pb, pab⟩ := hpw'
  have low : ∀ q, q ∈ R.take p → cmpV (key q) (key i) ≤ 0 := by
    intro q hq
    obtain ⟨r, hr, hrq⟩ := List.getElem_of_mem hq
    rw [List.length_take] at hr
    rw [List.getElem_take] at hrq
    rcases h1 with rfl | ⟨s, hs, hc⟩
    · omega
    · by_cases e : r = p - 1
      · have : R[p - 1]? = some q := by rw [← e, ← hrq]; exact List.getElem?_eq_getElem _
        rw [hs] at this
        cases this
        exact hc
      · obtain ⟨hs1, hs2⟩ := List.getElem?_eq_some_iff.1 hs
        have := List.pairwise_iff_getElem.1 hpw r (p - 1) (by omega) hs1 (by omega)
        rw [hrq, hs2] at this
        exact cmpV_trans this hc
  have high : ∀ q, q ∈ R.drop p → cmpV (key i) (key q) ≤ 0 := by
    intro q hq
    obtain ⟨r, hr, hrq⟩ := List.getElem_of_mem hq
    rw [List.length_drop] at hr
    rw [List.getElem_drop] at hrq
    have := h2 (p + r) q (by omega) (by rw [← hrq]; exact List.getElem?_eq_getElem _)
    have h3 := cmpV_anti (key q) (key i)
    omega
  refine ⟨?_, ?_, ?_, ?_⟩
  · have := congrArg List.length hsplit
    simp only [List.length_append, List.length_cons] at this ⊢
    omega
  · intro j hj
    by_cases e : j = i
    · rw [e]; simp
    · have := hin j (by omega)
      rw [← hsplit] at this
      rcases List.mem_append.1 this with h | h
      · exact List.mem_append.2 (.inl h)
      · exact List.mem_append.2 (.inr (List.mem_cons_of_mem _ h))
  · intro j hj
    rcases List.mem_append.1 hj with h | h
    · have := hlt j (List.mem_of_mem_take h); omega
    · rcases List.mem_cons.1 h with rfl | h
      · omega
      · have := hlt j (List.mem_of_mem_drop h); omega
  · rw [List.pairwise_append]
    refine ⟨pa, List.pairwise_cons.2 ⟨high, pb⟩, fun a ha b hb => ?_⟩
    rcases List.mem_cons.1 hb with rfl | hb
    · exact low a ha
    · exact pab a ha b hb
/-- A list in order, of the same elements. -/
def SortedL (l L : List V) : Prop := L.length = l.length ∧ (∀ v, v ∈ l → v ∈ L) ∧ (∀ v, v ∈ L → v ∈ l) ∧ L.Pairwise fun a b => cmpV a b ≤ 0
theorem rk_sorted {l : List V} {z : V} {R : List Nat} (h : Rk (fun j => l.getD j z) l.length R) : SortedL l (R.map fun j => l.getD j z) := by
  obtain ⟨h1, h2, h3, h4⟩ := h
  refine ⟨by rw [List.length_map, h1], fun v hv => ?_, fun v hv => ?_, ?_⟩
  · obtain ⟨i, hi, rfl⟩ := List.getElem_of_mem hv
    refine List.mem_map.2 ⟨i, h2 i hi, ?_⟩
    simp [List.getD_eq_getElem?_getD, List.getElem?_eq_getElem hi]
  · obtain ⟨i, hi, rfl⟩ := List.mem_map.1 hv
    have hi' := h3 i hi
    simp [List.getD_eq_getElem?_getD, List.getElem?_eq_getElem hi']
  · exact List.pairwise_map.2 h4
theorem sorted_first {l L : List V} (h : SortedL l L) {u : V} (hu : L[0]? = some u) : u ∈ l ∧ ∀ v, v ∈ l → cmpV u v ≤ 0 := by
  obtain ⟨h1, h2, h3, h4⟩ := h
  refine ⟨h3 u (List.mem_of_getElem? hu), fun v hv => ?_⟩
  cases L with
  | nil => cases hu
  | cons a L =>
    cases hu
    rcases List.mem_cons.1 (h2 v hv) with rfl | h
    · have := cmpV_self v; omega
    · exact (List.pairwise_cons.1 h4).1 v h
theorem sorted_last {l L : List V} (h : SortedL l L) {u : V} (hu : L[L.length - 1]? = some u) : u ∈ l ∧ ∀ v, v ∈ l → cmpV v u ≤ 0 := by
  obtain ⟨h1, h2, h3, h4⟩ := h
  refine ⟨h3 u (List.mem_of_getElem? hu), fun v hv => ?_⟩
  obtain ⟨i, hi, rfl⟩ := List.getElem_of_mem (h2 v hv)
  obtain ⟨hk, rfl⟩ := List.getElem?_eq_some_iff.1 hu
  by_cases e : i = L.length - 1
  · subst e
    have := cmpV_self L[L.length - 1]; omega
  · exact List.pairwise_iff_getElem.1 h4 i (L.length - 1) hi hk (by omega)
/-- The least (or the greatest) so far. -/
def Best (b : Bool) (c : Int) : Prop := if b then c ≤ 0 else 0 ≤ c
theorem best_keep {b : Bool} {c : Int} (h : (decide (0 < c)) ≠ b) : Best b c := by
  cases b <;> simp [Best] at h ⊢ <;> omega
theorem best_new {b : Bool} {x y z : V} (h1 : Best b (cmpV x z)) (h2 : (decide (0 < cmpV x y)) = b) : Best b (cmpV y z) := by
  have a1 := cmpV_anti x y
  have a2 := cmpV_anti x z
  have a3 := cmpV_anti y z
  cases b
  · simp [Best] at h1 h2 ⊢
    have := @cmpV_trans z x y (by omega) (by omega)
    omega
  · simp [Best] at h1 h2 ⊢
    exact @cmpV_trans y x z (by omega) h1
theorem best_self (b : Bool) (x : V) : Best b (cmpV x x) := by rw [cmpV_self]; cases b <;> simp [Best]
theorem best_min {l L : List V} (h : SortedL l L) {u p : V} (hu : L[0]? = some u) (hp : p ∈ l) (hb : ∀ v, v ∈ l → Best true (cmpV p v)) : cmpV p u = 0 := by
  obtain ⟨h1, h2⟩ := sorted_first h hu
  have := hb u h1
  simp [Best] at this
  exact cmpV_comm0 this (h2 p hp)
theorem best_max {l L : List V} (h : SortedL l L) {u p : V} (hu : L[L.length - 1]? = some u) (hp : p ∈ l) (hb : ∀ v, v ∈ l → Best false (cmpV p v)) : cmpV p u = 0 := by
  obtain ⟨h1, h2⟩ := sorted_last h hu
  have := hb u h1
  simp [Best] at this
  have a := cmpV_anti u p
  exact cmpV_comm0 (h2 p hp) (by omega)
/-- The signs. -/
theorem sgn_sgn (n : Int) : sgn (sgn n) = sgn n := by
  unfold sgn
  split
  · rfl
  · split <;> rfl
theorem sgn_texts (a b : ByteArray) : sgn (textsC a b) = textsC a b := by
  unfold textsC
  split
  · rfl
  · split <;> rfl
theorem sgn_cmpV (a b : V) : sgn (cmpV a b) = cmpV a b := by
  cases a with
  | mk k h t l ks vs =>
    rw [cmpV]
    split
    · exact sgn_sgn _
    split
    · exact sgn_sgn _
    split
    · exact sgn_texts _ _
    split
    · exact sgn_sgn _
    split
    · split <;> exact sgn_sgn _
    · rfl
theorem cmpL_strs (ks ks' : List ByteArray) : cmpL (J.vs (ks.map .str)) (J.vs (ks'.map .str)) = keysC ks ks' := by
  induction ks generalizing ks' with
  | nil =>
    rw [List.map_nil, J.vs, cmpL, J.vs_map, List.map_map, List.length_map]
    cases ks' <;> simp [keysC]
  | cons a ks ih =>
    cases ks' with
    | nil => simp [J.vs, cmpL, keysC, J.vs_map]
    | cons b ks' =>
      rw [List.map_cons, List.map_cons, J.vs, J.vs, cmpL, keysC, ih ks']
      have : cmpV (J.str a).v (J.str b).v = textsC a b := by simp [J.v, cmpV, V.kind, V.text]
      rw [this]
theorem keysC_eq : ∀ (ks ks' : List ByteArray), keysC ks ks' = 0 → ks = ks'
  | [], [], _ => rfl
  | [], b :: l, h => by simp [keysC] at h; omega
  | a :: l, [], h => by simp [keysC] at h; omega
  | a :: l, b :: r, h => by
    rw [keysC] at h
    by_cases ht : textsC a b = 0
    · rw [if_neg (by omega)] at h
      rw [keysC_eq l r h]
      rcases textsC_cases a b with ⟨h1, _⟩ | ⟨_, h2⟩ | ⟨h1, _⟩
      · omega
      · have : a = b := by
          cases a; cases b
          simp [ByteArray.toList_eq] at h2 ⊢
          exact h2
        rw [this]
      · omega
    · rw [if_pos ht] at h
      exact absurd h ht
/-- The kind's number, as typeIndex has it. -/
def J.ix (j : J) : Int := j.v.kind
theorem cmp_kinds {a b : J} (h : a.v.kind ≠ b.v.kind) : cmpV a.v b.v = sgn (a.v.kind - b.v.kind) := by
  revert h
  cases a.v with
  | mk k h t l ks vs => intro hk; rw [cmpV]; exact if_pos hk
theorem cmp_arr (l l' : List J) : cmpV (J.arr l).v (J.arr l').v = sgn (cmpL (J.vs l) (J.vs l')) := by simp [J.v, cmpV, V.kind, V.list]
theorem cmp_obj (ks ks' : List ByteArray) (vs vs' : List J) : cmpV (J.obj ks vs).v (J.obj ks' vs').v = if keysC ks ks' ≠ 0 then sgn (keysC ks ks') else sgn (cmpL (J.vs vs) (J.vs vs')) := by
  rw [J.v, J.v, cmpV, if_neg (by simp [V.kind]), if_neg (by decide), if_neg (by decide), if_neg (by decide), if_pos rfl]
  rfl
end Go.Proofs.YtpamlgdcnmcedaaGreatDoor

set_option linter.unusedVariables false
set_option linter.unusedSimpArgs false
set_option maxRecDepth 100000
namespace Go.Proofs.YtpamlgdcnmcedaaGreatDoor
open Go Go.RowKit
mutual
/-- How much there is to compare. -/
def J.wt : J → Nat
  | .null => 1
  | .bool _ => 1
  | .int _ => 1
  | .hf _ => 1
  | .str _ => 1
  | .arr l => 1 + J.wts l
  | .obj ks vs => 2 + ks.length + J.wts vs
def J.wts : List J → Nat
  | [] => 0
  | j :: l => J.wt j + J.wts l
end
theorem wts_mem : ∀ (l : List J) (j : J), j ∈ l → j.wt ≤ J.wts l
  | a :: l, j, h => by
    rw [J.wts]
    rcases List.mem_cons.1 h with rfl | h
    · omega
    · have := wts_mem l j h; omega
theorem wts_strs : ∀ ks : List ByteArray, J.wts (ks.map .str) = ks.length
  | [] => rfl
  | k :: ks => by rw [List.map_cons, J.wts, wts_strs ks, J.wt, List.length_cons]; omega
def CmpJIH (n : Nat) : Prop := ∀ (a b : J) (x y : Value) (ok : Nat → Prop) (w : World), a.wt < n → JN a → JN b → Jr w ok a x → Jr w ok b y → Calls Tryz.prog 190 #[x, y] w (CmpJPost (cmpV a.v b.v) w)
theorem arrs_one (n : Nat) (ih : CmpJIH n) (a b : List J) (m p : Nat) (hm : a.length = m) (hp : b.length = p) (ok : Nat → Prop) (A B : Option Addr) (c d : Nat) (f g : Nat → Value) (w : World) (hn : ∀ j, j ∈ a → j.wt < n) (wa : ∀ j, j ∈ a → JN j) (wb : ∀ j, j ∈ b → JN j)
    (ha : RowAt w ok 1 A m fun i => [f i]) (ea : ∀ (i : Nat) (j : J), a[i]? = some j → Jr w ok j (f i)) (hb : RowAt w ok 1 B p fun i => [g i]) (eb : ∀ (i : Nat) (j : J), b[i]? = some j → Jr w ok j (g i)) (bm : m ≤ 1000000) (bp : p ≤ 1000000) :
    Calls Tryz.prog 227 #[.slice A m c, .slice B p d] w (CmpJPost (sgn (cmpL (J.vs a) (J.vs b))) w) := by
  have HM := Lib.hid hm
  have HP := Lib.hid hp
  clear hm hp
  have HVA := Lib.hid (show (J.vs a).length = m by rw [vs_len, HM.out])
  have HVB := Lib.hid (show (J.vs b).length = p by rw [vs_len, HP.out])
  obtain ⟨q, hq, hq1, hq2, hq3⟩ : ∃ q : Nat, min (m : Int) (p : Int) = (q : Int) ∧ q ≤ m ∧ q ≤ p ∧ (q = m ∨ q = p) := by
    rcases Nat.le_total m p with h | h
    · exact ⟨m, Int.min_eq_left (by omega), Nat.le_refl _, h, .inl rfl⟩
    · exact ⟨p, Int.min_eq_right (by omega), h, Nat.le_refl _, .inr rfl⟩
  have HQ3 := Lib.hid hq3
  clear hq3
  go_enter Tryz.func227, Tryz.ntmps227
  go_wp2_with fail
  go_loopw [12] (fun i wr => ∃ k : Nat, k ≤ q ∧ i = .int .i64 k ∧ cmpL (J.vs a) (J.vs b) = cmpL ((J.vs a).drop k) ((J.vs b).drop k) ∧ Below w.heap.size w wr) (fun i _ => q - (intOf i).toNat)
  case atStart => exact ⟨0, Nat.zero_le _, rfl, rfl, Below.refl _ _⟩
  case round =>
    obtain ⟨k, hk, rfl, heq, hbl⟩ := hrel
    have HEQ := Lib.hid heq
    clear heq
    by_cases h12 : k < q
    · have h1 : k < m := by omega
      have h2 : k < p := by omega
      obtain ⟨x, hx⟩ := at_lt (l := a) (p := k) (by rw [HM.out]; exact h1)
      obtain ⟨y, hy⟩ := at_lt (l := b) (p := k) (by rw [HP.out]; exact h2)
      obtain ⟨ad, hA, _, hca⟩ := ha (by omega)
      obtain ⟨bd, hB, _, hcb⟩ := hb (by omega)
      subst hA hB
      have hd := cmpL_drop k (J.vs a) (J.vs b) x.v y.v (by rw [J.vs_map, List.getElem?_map, hx]; rfl) (by rw [J.vs_map, List.getElem?_map, hy]; rfl)
      have z0 : wr.cell? (ad.add k) = some (f k) := by simpa using cell_kept hbl (hca k 0 _ h1 rfl)
      have y0 : wr.cell? (bd.add k) = some (g k) := by simpa using cell_kept hbl (hcb k 0 _ h2 rfl)
      have HC := Lib.hid (fun W (hb : Below wr.heap.size wr W) => ih x y (f k) (g k) ok W (hn x (List.mem_of_getElem? hx)) (wa x (List.mem_of_getElem? hx)) (wb y (List.mem_of_getElem? hy)) ((ea k x hx).keep (below_trans hbl hb)) ((eb k y hy).keep (below_trans hbl hb)))
      have HDR := Lib.hid hd
      generalize f k = fc at z0 HC
      generalize g k = gc at y0 HC
      have i0 : (0 : Int) ≤ (k : Int) := Int.natCast_nonneg _
      have i1 : (k : Int) < (m : Int) := by omega
      have i2 : (k : Int) < (p : Int) := by omega
      have i3 : (k : Int) < (q : Int) := by omega
      have HBL := Lib.hid hbl
      clear hca hcb hx hy hd hbl
      go_wp2_with fail
      go_region_held3 (fun W => W.cell? (ad.add k) = some fc ∧ W.cell? (bd.add k) = some gc)
        (first | go_keep | exact ⟨cell_kept hbc z0, cell_kept hbc y0⟩)
        ((first | (go_at_call 190; refine (HC.out _ (Below.drew (Below.refl _ _))).mono ?_; rintro e' w' ⟨rfl, hb'⟩; have hbc : Below wr.heap.size wr w' := Below.trans (Below.drew (Below.refl _ _)) hb')))
      have HBW := Lib.hid (below_trans HBL.out hbc)
      obtain ⟨n0, hn0⟩ : ∃ n0, n0 = cmpV x.v y.v := ⟨_, rfl⟩
      have hsg := sgn_cmpV x.v y.v
      rw [← hn0] at hsg ⊢
      have HN0 := Lib.hid hn0
      have HSG := Lib.hid hsg
      clear hn0 hsg z0 y0 hbc hb'
      by_cases hz : n0 = 0
      · have hnext : cmpL (J.vs a) (J.vs b) = cmpL ((J.vs a).drop (k + 1)) ((J.vs b).drop (k + 1)) := by rw [HEQ.out, HDR.out, ← HN0.out, if_neg (by omega)]
        have HNX := Lib.hid hnext
        clear hnext
        go_wp2_with fail
        go_roundw
        case rel => exact ⟨k + 1, by omega, by go_num, HNX.out, HBW.out⟩
        case measure => simp [intOf]; omega
      · have hres : cmpL (J.vs a) (J.vs b) = n0 := by rw [HEQ.out, HDR.out, ← HN0.out, if_pos hz]
        have HR := Lib.hid hres
        clear hres
        go_wp2_with fail
        go_ret
        exact ⟨by rw [HR.out, HSG.out]; rfl, HBW.out⟩
    · have hkq : k = q := by omega
      subst hkq
      have hres : cmpL (J.vs a) (J.vs b) = (m : Int) - p := by
        rw [HEQ.out, cmpL_end _ _ (by
          rcases HQ3.out with h | h
          · exact .inl (List.drop_of_length_le (by rw [HVA.out]; omega))
          · exact .inr (List.drop_of_length_le (by rw [HVB.out]; omega))), List.length_drop, List.length_drop, HVA.out, HVB.out]
        omega
      have HR := Lib.hid hres
      have HBL := Lib.hid hbl
      clear hres h12 hbl
      go_wp2_with fail
      refine (cmpInt_any _ _ _).mono ?_
      rintro e' w' ⟨rfl, rfl⟩
      go_wp2_with fail
      go_ret
      exact ⟨by rw [HR.out]; rfl, HBL.out⟩
@[go_sem] theorem ta_9f (v : Value) (w : World) : (Instr.typeAssert (.iface 9 v) 20 9 false).run Tryz.prog w = .ok v w := by
  unfold Instr.typeAssert
  simp [run_underlying Tryz.underlying9]
theorem lk_at {ks : List ByteArray} {vs : List J} {k : Nat} {t : ByteArray} {j : J} (hd : ks.Nodup) (h1 : ks[k]? = some t) (h2 : vs[k]? = some j) : (lookO ks vs t).getD .null = j := by
  rw [look_at' ks vs k t j hd h1 h2]; rfl
set_option maxHeartbeats 4000000 in
theorem maps_one (n : Nat) (ih : CmpJIH n) (ks ks' : List ByteArray) (vs vs' : List J) (ok : Nat → Prop) (a b : Nat) (w : World) (hx : Jr w ok (.obj ks vs) (.iface 85 (.map (some a)))) (hy : Jr w ok (.obj ks' vs') (.iface 85 (.map (some b))))
    (hn : 2 + ks.length + J.wts vs ≤ n) (ja : JN (.obj ks vs)) (jb : JN (.obj ks' vs')) :
    Calls Tryz.prog 228 #[.map (some a), .map (some b)] w (CmpJPost (cmpV (J.obj ks vs).v (J.obj ks' vs').v) w) := by
  obtain ⟨g1, g2, g3, g4, g5⟩ := jn_obj_elim ja
  obtain ⟨k1, k2, k3, k4, k5⟩ := jn_obj_elim jb
  have hjl : JN (.arr (ks.map .str)) := jn_arr (fun j hj => by obtain ⟨t, ht, rfl⟩ := List.mem_map.1 hj; exact jn_str (g4 t ht)) (by rw [List.length_map]; exact g1)
  have hjr : JN (.arr (ks'.map .str)) := jn_arr (fun j hj => by obtain ⟨t, ht, rfl⟩ := List.mem_map.1 hj; exact jn_str (k4 t ht)) (by rw [List.length_map]; exact k1)
  have hnd : ks.Nodup := by
    obtain _ | _ | _ | _ | _ | _ | ⟨_, _, _, _, _, _, _, _, _, _, hnd, _, _, _, _⟩ := hx
    exact hnd
  have halt : a < w.heap.size := by
    obtain _ | _ | _ | _ | _ | _ | ⟨_, _, _, _, _, _, _, hb, _, _, _, _, _, _, _⟩ := hx
    exact heap_lt hb
  have hblt : b < w.heap.size := by
    obtain _ | _ | _ | _ | _ | _ | ⟨_, _, _, _, _, _, _, hb, _, _, _, _, _, _, _⟩ := hy
    exact heap_lt hb
  have HX := Lib.hid hx
  have HY := Lib.hid hy
  have HC := Lib.hid (cmp_obj ks ks' vs vs')
  have HWT := Lib.hid (show (J.arr (ks.map .str)).wt < n by rw [J.wt, wts_strs]; omega)
  have HJL := Lib.hid hjl
  have HJR := Lib.hid hjr
  have HCK := Lib.hid (show cmpV (J.arr (ks.map .str)).v (J.arr (ks'.map .str)).v = sgn (keysC ks ks') by rw [cmp_arr, cmpL_strs])
  have HF1 := Lib.hid (funcKeys_obj ks vs _ ok w g1 g3 hx)
  clear hx hy hjl hjr
  go_enter Tryz.func228, Tryz.ntmps228
  go_wp2_with fail
  refine HF1.out.mono ?_
  rintro e' w1 ⟨x1, rfl, hb1, hj1⟩
  have HF2 := Lib.hid (funcKeys_obj ks' vs' _ ok w1 k1 k3 (HY.out.keep hb1))
  have HB1 := Lib.hid hb1
  have HJ1 := Lib.hid hj1
  clear hb1 hj1
  go_wp2_with fail
  refine HF2.out.mono ?_
  rintro e' w2 ⟨x2, rfl, hb2, hj2⟩
  have HB2 := Lib.hid (below_trans HB1.out hb2)
  have hj1 := HJ1.out.keep hb2
  have HI := Lib.hid (ih _ _ x1 x2 (fun _ => True) w2 HWT.out HJL.out HJR.out hj1 hj2)
  obtain _ | _ | _ | _ | _ | ⟨_, A1, c1, f1, hc1, r1, e1⟩ := hj1
  obtain ⟨m, hm⟩ : ∃ m, m = (ks.map J.str).length := ⟨_, rfl⟩
  have hmk : ks.length = m := by rw [hm, List.length_map]
  rw [← hm] at r1 HI ⊢
  have hfk : ∀ (i : Nat) (t : ByteArray), ks[i]? = some t → f1 i = .iface 9 (.string t) := fun i t ht => by
    have h := e1 i (.str t) (by rw [List.getElem?_map, ht]; rfl)
    generalize f1 i = z at h
    cases h
    rfl
  have HFK := Lib.hid hfk
  have HR1 := Lib.hid r1
  have HMK := Lib.hid hmk
  have form2 : ∃ t z, x2 = .iface t z := by
    cases hj2
    exact ⟨_, _, rfl⟩
  obtain ⟨t2, z2, rfl⟩ := form2
  clear hb2 hj2 e1 r1 hc1 hm hfk hmk HJ1
  go_wp2_with fail
  refine HI.out.mono ?_
  rintro e' w3 ⟨rfl, hb3⟩
  have HB3 := Lib.hid (below_trans HB2.out hb3)
  have HB23 := Lib.hid hb3
  clear hb3
  rw [HCK.out]
  obtain ⟨kc, hkc⟩ : ∃ kc, kc = keysC ks ks' := ⟨_, rfl⟩
  rw [← hkc]
  have HKC := Lib.hid hkc
  clear hkc
  by_cases hz : kc = 0
  · subst hz
    have hkk : ks = ks' := keysC_eq _ _ HKC.out.symm
    have hres : cmpV (J.obj ks vs).v (J.obj ks' vs').v = sgn (cmpL (J.vs vs) (J.vs vs')) := by rw [HC.out, if_neg (by rw [← HKC.out]; decide)]
    have HRES := Lib.hid hres
    have hlen1 : vs.length = m := by rw [← g2]; exact HMK.out
    have hlen2 : vs'.length = m := by rw [← k2, ← hkk]; exact HMK.out
    have HL1 := Lib.hid hlen1
    have HL2 := Lib.hid hlen2
    have HKK := Lib.hid hkk
    have hs0 : sgn 0 = 0 := by decide
    have hm6 : m ≤ 1000000 := by have := HMK.out; omega
    rw [hs0]
    clear hres hlen1 hlen2 hkk hs0 g1 g2 g3 k1 k2 k3
    go_wp2_with fail
    go_loopw [26] (fun i wr => ∃ k : Nat, k ≤ m ∧ i = .int .i64 k ∧ cmpL (J.vs vs) (J.vs vs') = cmpL ((J.vs vs).drop k) ((J.vs vs').drop k) ∧ Below w3.heap.size w3 wr) (fun i _ => m - (intOf i).toNat)
    case atStart => exact ⟨0, Nat.zero_le _, rfl, rfl, Below.refl _ _⟩
    case round =>
      obtain ⟨k, hk, rfl, heq, hbl⟩ := hrel
      have HEQ := Lib.hid heq
      have HBL := Lib.hid hbl
      clear heq
      by_cases hlt : k < m
      · obtain ⟨t, ht⟩ := at_lt (l := ks) (p := k) (by rw [HMK.out]; exact hlt)
        obtain ⟨p, hp⟩ := at_lt (l := vs) (p := k) (by rw [HL1.out]; exact hlt)
        obtain ⟨q, hq⟩ := at_lt (l := vs') (p := k) (by rw [HL2.out]; exact hlt)
        obtain ⟨ad, hA, _, hca⟩ := HR1.out (by omega)
        subst hA
        have z0 : wr.cell? (ad.add k) = some (.iface 9 (.string t)) := by
          have := cell_kept (below_trans HB23.out hbl) (hca k 0 _ hlt rfl)
          rw [HFK.out k t ht] at this
          simpa using this
        have hbw := below_trans HB3.out hbl
        obtain ⟨_, ya, ea, hla, hja⟩ := jr_lookup (HX.out.keep hbw) t
        cases ea
        obtain ⟨_, yb, eb, hlb, hjb⟩ := jr_lookup (HY.out.keep hbw) t
        cases eb
        rw [lk_at hnd ht hp] at hja
        rw [lk_at (HKK.out ▸ hnd) (HKK.out ▸ ht) hq] at hjb
        have hd := cmpL_drop k (J.vs vs) (J.vs vs') p.v q.v (by rw [J.vs_map, List.getElem?_map, hp]; rfl) (by rw [J.vs_map, List.getElem?_map, hq]; rfl)
        have HLK := Lib.hid (fun W (hb : Below wr.heap.size wr W) => And.intro (hla W (hb.block a (Nat.lt_of_lt_of_le halt hbw.size))) (hlb W (hb.block b (Nat.lt_of_lt_of_le hblt hbw.size))))
        have HCC := Lib.hid (fun W (hb : Below wr.heap.size wr W) => ih p q ya yb ok W (by have := wts_mem vs p (List.mem_of_getElem? hp); omega) (g5 p (List.mem_of_getElem? hp)) (k5 q (List.mem_of_getElem? hq)) (hja.keep hb) (hjb.keep hb))
        have HDR := Lib.hid hd
        have i0 : (0 : Int) ≤ (k : Int) := Int.natCast_nonneg _
        have i1 : (k : Int) < (m : Int) := by omega
        clear hca hla hlb hja hjb hd hbw hp hq ht hbl
        go_wp2_with fail
        go_cut [10] (fun v wx => v = .int .i64 (cmpV p.v q.v) ∧ Below wr.heap.size wr wx)
        case first =>
          obtain ⟨la, lb⟩ := HLK.out wr.drew (Below.drew (Below.refl _ _))
          go_region_held3 (fun W => (Instr.lookup 85 (.map (some a)) (.string t) false).run Tryz.prog W = .ok ya W ∧ (Instr.lookup 85 (.map (some b)) (.string t) false).run Tryz.prog W = .ok yb W)
            (first | exact HLK.out _ hbc | exact HLK.out _ (by repeat (first | with_reducible exact Below.refl _ _ | with_reducible apply Below.drew)) | go_keep)
            ((first | (go_at_call 190; refine (HCC.out _ (Below.drew (Below.refl _ _))).mono ?_; rintro e' w' ⟨rfl, hb'⟩; have hbc : Below wr.heap.size wr w' := Below.trans (Below.drew (Below.refl _ _)) hb')))
          all_goals
            go_wp2_with fail
            go_meet
            exact ⟨rfl, hbc⟩
        case rest =>
        obtain ⟨rfl, hbc⟩ := hcut
        have HBW := Lib.hid (below_trans HBL.out hbc)
        obtain ⟨n0, hn0⟩ : ∃ n0, n0 = cmpV p.v q.v := ⟨_, rfl⟩
        have hsg := sgn_cmpV p.v q.v
        rw [← hn0] at hsg ⊢
        have HN0 := Lib.hid hn0
        have HSG := Lib.hid hsg
        clear hn0 hsg z0 hbc
        by_cases hz : n0 = 0
        · have hnext : cmpL (J.vs vs) (J.vs vs') = cmpL ((J.vs vs).drop (k + 1)) ((J.vs vs').drop (k + 1)) := by rw [HEQ.out, HDR.out, ← HN0.out, if_neg (by omega)]
          have HNX := Lib.hid hnext
          clear hnext
          go_wp2_with fail
          go_roundw
          case rel => exact ⟨k + 1, by omega, by go_num, HNX.out, HBW.out⟩
          case measure => simp [intOf]; omega
        · have hr : cmpL (J.vs vs) (J.vs vs') = n0 := by rw [HEQ.out, HDR.out, ← HN0.out, if_pos hz]
          have HR := Lib.hid hr
          clear hr
          go_wp2_with fail
          go_ret
          exact ⟨by rw [HRES.out, HR.out, HSG.out]; rfl, below_trans HB3.out HBW.out⟩
      · have hkm : k = m := by omega
        subst hkm
        have hr : cmpL (J.vs vs) (J.vs vs') = 0 := by
          rw [HEQ.out, cmpL_end _ _ (.inl (List.drop_of_length_le (by rw [vs_len, HL1.out]; omega))), List.length_drop, List.length_drop, vs_len, vs_len, HL1.out, HL2.out]
          omega
        have HR := Lib.hid hr
        clear hr hlt hbl
        go_wp2_with fail
        go_ret
        exact ⟨by rw [HRES.out, HR.out]; rfl, below_trans HB3.out HBL.out⟩
  · have hres : cmpV (J.obj ks vs).v (J.obj ks' vs').v = sgn kc := by rw [HC.out, HKC.out, if_pos (by rw [← HKC.out]; exact hz)]
    have HRES := Lib.hid hres
    have hsz : ¬ sgn kc = 0 := by unfold sgn; split <;> (try split) <;> omega
    obtain ⟨sc, hsc⟩ : ∃ sc, sc = sgn kc := ⟨_, rfl⟩
    rw [← hsc] at hsz ⊢
    have HSC := Lib.hid hsc
    clear hres hsc
    go_wp2_with fail
    go_ret
    exact ⟨by rw [HRES.out, HSC.out]; rfl, HB3.out⟩
theorem sort_kind (a : J) : (a.sort : Int) = if a.v.kind ≤ 2 then 0 else a.v.kind - 2 := by
  cases a with
  | bool b => cases b <;> rfl
  | _ => rfl
theorem kind_range (a : J) : 0 ≤ a.v.kind ∧ a.v.kind ≤ 6 := by
  cases a with
  | bool b => cases b <;> decide
  | _ => simp [J.v, V.kind]
theorem cmp_low {a b : J} (hs : a.sort = 0 ∨ a.sort ≠ b.sort) : cmpV a.v b.v = sgn (a.v.kind - b.v.kind) := by
  by_cases hk : a.v.kind = b.v.kind
  · have h1 := sort_kind a
    have h2 := sort_kind b
    have h0 : a.sort = 0 := by
      rcases hs with h | h
      · exact h
      · rw [hk] at h1; omega
    rw [h0] at h1
    have h3 : a.v.kind ≤ 2 := by
      by_cases h : a.v.kind ≤ 2
      · exact h
      · rw [if_neg h] at h1; omega
    have hz : sgn (a.v.kind - b.v.kind) = 0 := by rw [hk, Int.sub_self]; rfl
    rw [hz]
    revert hk h3
    cases a.v with
    | mk k h t l ks vs =>
      intro hk h3
      have h3' : k ≤ 2 := h3
      rw [cmpV, if_neg (by intro h; exact h hk), if_neg (by omega), if_neg (by omega), if_neg (by omega), if_neg (by omega)]
  · exact cmp_kinds hk
theorem sgn_two (l r : Int) : sgn (2 * l - 2 * r) = sgn (l - r) := by
  unfold sgn
  split <;> split <;> (try split) <;> (try split) <;> omega
theorem hb_jn {a : J} (h : JN a) : Fl.Hb a.v.half := by
  have h1 := h.1
  revert h1
  generalize a.v = v
  intro h1
  obtain ⟨_, _, _, _, _, _, _, _, _, _, _, _, hb, ho, _, _, _⟩ := h1
  exact ⟨hb, ho⟩
set_option maxHeartbeats 4000000 in
theorem cmpJ_switch (n : Nat) (ih : CmpJIH n) (a b : J) (x y : Value) (ok : Nat → Prop) (w : World) (hn : a.wt < n + 1) (ja : JN a) (jb : JN b) (hx : Jr w ok a x) (hy : Jr w ok b y) :
    Calls Tryz.prog 222 #[x, y, .func (.func 223) #[] #[], .func (.func 224) #[] #[], .func (.func 225) #[] #[], .func (.func 226) #[] #[], .func (.func 227) #[] #[], .func (.func 228) #[] #[], .func (.func 229) #[] #[]] w (CmpJPost (cmpV a.v b.v) w) := by
  by_cases hs : a.sort = 0 ∨ a.sort ≠ b.sort
  · rw [cmp_low hs]
    exact cs_fall hx hy hs _ ((fallback_any hx hy).mono fun e w' h => cmpJ_same h)
  · have hba := hb_jn ja
    have hbb := hb_jn jb
    have hk3 : ∀ (p q : Int), cmpV (V.mk 3 p ⟨#[]⟩ [] [] []) (V.mk 3 q ⟨#[]⟩ [] [] []) = sgn (p - q) := fun p q => by simp [cmpV, V.kind, V.half]
    cases a with
    | null => exact absurd (.inl rfl) hs
    | bool _ => exact absurd (.inl rfl) hs
    | int l =>
      obtain _ | _ | _ := hx
      cases b with
      | int r =>
        obtain _ | _ | _ := hy
        rw [J.v, J.v, hk3, sgn_two]
        exact cs_ints _ _ _ w ((cmpInt_any _ _ w).mono fun e w' h => cmpJ_same h)
      | hf r =>
        obtain _ | _ | _ | _ := hy
        rw [J.v, J.v, hk3]
        refine cs_intFl _ _ _ w ?_
        rw [Fl.fl_hwx _ hba]
        exact (cmpFl_any _ _ hba hbb w).mono fun e w' h => cmpJ_same h
      | _ => exact absurd (.inr (by simp [J.sort])) hs
    | hf l =>
      obtain _ | _ | _ | _ := hx
      cases b with
      | int r =>
        obtain _ | _ | _ := hy
        rw [J.v, J.v, hk3]
        refine cs_flInt _ _ _ w ?_
        rw [Fl.fl_hwx _ hbb]
        exact (cmpFl_any _ _ hba hbb w).mono fun e w' h => cmpJ_same h
      | hf r =>
        obtain _ | _ | _ | _ := hy
        rw [J.v, J.v, hk3]
        exact cs_fls _ _ _ w ((cmpFl_any _ _ hba hbb w).mono fun e w' h => cmpJ_same h)
      | _ => exact absurd (.inr (by simp [J.sort])) hs
    | str s =>
      obtain _ | _ | _ | _ | _ := hx
      cases b with
      | str s' =>
        obtain _ | _ | _ | _ | _ := hy
        rw [show cmpV (J.str s).v (J.str s').v = textsC s s' by simp [J.v, cmpV, V.kind, V.text]]
        exact cs_strs _ _ _ w ((cmpStr_any _ _ w).mono fun e w' h => cmpJ_same h)
      | _ => exact absurd (.inr (by simp [J.sort])) hs
    | arr l =>
      obtain _ | _ | _ | _ | _ | ⟨_, A, c, f, hc, r, e⟩ := hx
      cases b with
      | arr l' =>
        obtain _ | _ | _ | _ | _ | ⟨_, A', c', f', hc', r', e'⟩ := hy
        rw [cmp_arr]
        have hw : ∀ j, j ∈ l → j.wt < n := fun j hj => by
          have := wts_mem l j hj
          rw [J.wt] at hn
          omega
        exact cs_arrs _ _ _ _ _ _ _ w (arrs_one n ih l l' _ _ rfl rfl ok A A' c c' f f' w hw (jn_arr_elim ja) (jn_arr_elim jb) r e r' e' (jn_len ja) (jn_len jb))
      | _ => exact absurd (.inr (by simp [J.sort])) hs
    | obj ks vs =>
      have hx' := hx
      obtain _ | _ | _ | _ | _ | _ | ⟨_, _, p, es, clock, f, ho, hb, _, hv, hnd, he, hg, hst, e⟩ := hx
      cases b with
      | obj ks' vs' =>
        have hy' := hy
        obtain _ | _ | _ | _ | _ | _ | ⟨_, _, p', es', clock', f', ho', hb', _, hv', hnd', he', hg', hst', e'⟩ := hy
        rw [J.wt] at hn
        exact cs_objs _ _ _ w (maps_one n ih ks ks' vs vs' ok p p' w hx' hy' (by omega) ja jb)
      | _ => exact absurd (.inr (by simp [J.sort])) hs
theorem cmpJ_step (n : Nat) (ih : CmpJIH n) : CmpJIH (n + 1) := by
  intro a b x y ok w hn ja jb hx hy
  have HS := Lib.hid (cmpJ_switch n ih a b x y ok w hn ja jb hx hy)
  obtain ⟨c, hc⟩ : ∃ c, c = cmpV a.v b.v := ⟨_, rfl⟩
  rw [← hc] at HS ⊢
  clear hx hy hc ja jb hn
  go_enter Tryz.func190, Tryz.ntmps190
  go_wp2_with fail
  refine HS.out.mono ?_
  rintro e' w' ⟨rfl, hb⟩
  have HB := Lib.hid hb
  clear hb
  go_wp2_with fail
  go_ret
  exact ⟨rfl, HB.out⟩
theorem cmpJ_all : ∀ n, CmpJIH n
  | 0 => fun a b x y ok w hn => absurd hn (Nat.not_lt_zero _)
  | n + 1 => cmpJ_step n (cmpJ_all n)
/-- gojq.Compare. -/
theorem compare_any (a b : J) (x y : Value) (ok : Nat → Prop) (w : World) (ja : JN a) (jb : JN b) (hx : Jr w ok a x) (hy : Jr w ok b y) : Calls Tryz.prog 190 #[x, y] w (CmpJPost (cmpV a.v b.v) w) :=
  cmpJ_all (a.wt + 1) a b x y ok w (Nat.lt_succ_self _) ja jb hx hy
end Go.Proofs.YtpamlgdcnmcedaaGreatDoor

set_option linter.unusedVariables false
set_option linter.unusedSimpArgs false
set_option maxRecDepth 100000
namespace Go.Proofs.YtpamlgdcnmcedaaGreatDoor
open Go Go.RowKit
/-- The least (greatest) of a list. -/
def PickJ (b : Bool) (l : List J) (ok : Nat → Prop) (w : World) (x : Value) : Prop := (l = [] ∧ x = .nilIface) ∨ ∃ p : J, p ∈ l ∧ Jr w ok p x ∧ ∀ j, j ∈ l → Best b (cmpV p.v j.v)
def PickPost (b : Bool) (l : List J) (ok : Nat → Prop) (w : World) (e : Ending) (w' : World) : Prop := ∃ x, e = .returned x ∧ Below w.heap.size w w' ∧ PickJ b l ok w' x
theorem minMax_nil (b : Bool) (A : Option Addr) (c : Nat) (ok : Nat → Prop) (w : World) : Calls Tryz.prog 148 #[.slice A 0 c, .slice A 0 c, .bool b] w (PickPost b [] ok w) := by
  go_enter Tryz.func148, Tryz.ntmps148
  go_wp2_with fail
  go_ret
  exact ⟨_, rfl, Below.refl _ _, .inl ⟨rfl, rfl⟩⟩
theorem best_next {b : Bool} {l : List J} {q k : Nat} {x y : J} (hx : l[q]? = some x) (hy : l[k]? = some y) (h : ∀ r z, r < k → l[r]? = some z → Best b (cmpV x.v z.v)) :
    (decide (0 < cmpV x.v y.v) = b → ∀ r z, r < k + 1 → l[r]? = some z → Best b (cmpV y.v z.v)) ∧ (decide (0 < cmpV x.v y.v) ≠ b → ∀ r z, r < k + 1 → l[r]? = some z → Best b (cmpV x.v z.v)) := by
  refine ⟨fun hc r z hr hz => ?_, fun hc r z hr hz => ?_⟩
  · by_cases e : r = k
    · subst e; rw [hy] at hz; cases hz; exact best_self b _
    · exact best_new (h r z (by omega) hz) hc
  · by_cases e : r = k
    · subst e; rw [hy] at hz; cases hz; exact best_keep hc
    · exact h r z (by omega) hz
theorem below_drewN {B n : Nat} {a w : World} (h : Below B a w) : Below B a (w.drewN n) := ⟨h.os, h.tape, h.output, h.size, h.block⟩
set_option maxHeartbeats 4000000 in
theorem minMax_any (b : Bool) (l : List J) (n : Nat) (hn : l.length = n) (h1 : 1 ≤ n) (ok : Nat → Prop) (A : Option Addr) (c : Nat) (f : Nat → Value) (w : World) (wl : ∀ j, j ∈ l → JN j) (r : RowAt w ok 1 A n fun i => [f i])
    (e : ∀ (i : Nat) (j : J), l[i]? = some j → Jr w ok j (f i)) (bn : n ≤ 1000000) : Calls Tryz.prog 148 #[.slice A n c, .slice A n c, .bool b] w (PickPost b l ok w) := by
  obtain ⟨ad, hA, _, hca⟩ := r (by omega)
  subst hA
  have HN := Lib.hid hn
  have HE := Lib.hid e
  have HC := Lib.hid (fun (k : Nat) (hk : k < n) => show w.cell? (ad.add k) = some (f k) by simpa using hca k 0 _ hk rfl)
  obtain ⟨z, hz⟩ := at_lt (l := l) (p := 0) (by rw [hn]; omega)
  have z0 : w.cell? ad = some (f 0) := by simpa [Addr.add] using HC.out 0 (by omega)
  have h0 : (0 : Int) < (n : Int) := by omega
  have hbq : ((n : Int) == 0) = false := by simp; omega
  have HZ := Lib.hid hz
  clear hca hz hn e r
  go_enter Tryz.func148, Tryz.ntmps148
  go_wp2_with fail
  go_quiet (fail)
  go_wp2_with fail
  go_loopw [7, 8, 9] (fun i j x wr => ∃ (k q : Nat) (y : J), 1 ≤ k ∧ k ≤ n ∧ q < k ∧ i = .int .i64 k ∧ j = .int .i64 q ∧ x = f q ∧ l[q]? = some y ∧ (∀ r z, r < k → l[r]? = some z → Best b (cmpV y.v z.v)) ∧ Below w.heap.size w wr) (fun i j x _ => n - (intOf i).toNat)
  case atStart =>
    exact ⟨1, 0, z, Nat.le_refl _, h1, by omega, rfl, rfl, rfl, HZ.out, fun r z' hr hz' => by
      have : r = 0 := by omega
      subst this
      rw [HZ.out] at hz'; cases hz'; exact best_self _ _, by first | exact Below.refl _ _ | exact below_drewN (Below.refl _ _)⟩
  case round =>
    obtain ⟨k, q, y, hk1, hkn, hqk, rfl, rfl, rfl, hy, hbest, hbl⟩ := hrel
    have HY := Lib.hid hy
    have HBL := Lib.hid hbl
    by_cases hlt : k < n
    · obtain ⟨z', hz'⟩ := at_lt (l := l) (p := k) (by rw [HN.out]; exact hlt)
      have zk : wr.cell? (ad.add k) = some (f k) := cell_kept hbl (HC.out k hlt)
      have HCC := Lib.hid (compare_any y z' (f q) (f k) ok wr (wl _ (List.mem_of_getElem? hy)) (wl _ (List.mem_of_getElem? hz')) ((HE.out q y hy).keep hbl) ((HE.out k z' hz').keep hbl))
      have hbn := best_next hy hz' hbest
      have HZK := Lib.hid hz'
      have i0 : (0 : Int) ≤ (k : Int) := Int.natCast_nonneg _
      have i1 : (k : Int) < (n : Int) := by omega
      obtain ⟨c0, hc0⟩ : ∃ c0, c0 = cmpV y.v z'.v := ⟨_, rfl⟩
      rw [← hc0] at hbn HCC
      have HBN := Lib.hid hbn
      clear hy hz' hbest hbl hbn hc0
      go_wp2_with fail
      refine HCC.out.mono ?_
      rintro e' w' ⟨rfl, hb'⟩
      have zk' := cell_kept hb' zk
      have HBW := Lib.hid (below_trans HBL.out hb')
      clear hb' zk
      by_cases hc : 0 < c0
      · cases b
        · go_wp2_with fail
          go_roundw
          case rel => exact ⟨k + 1, q, y, by omega, by omega, by omega, by go_num, rfl, rfl, HY.out, HBN.out.2 (by simp [hc]), HBW.out⟩
          case measure => simp [intOf]; omega
        · go_wp2_with fail
          go_quiet (fail)
          go_wp2_with fail
          go_roundw
          case rel => exact ⟨k + 1, k, z', by omega, by omega, by omega, by go_num, rfl, rfl, HZK.out, HBN.out.1 (by simp [hc]), by first | exact HBW.out | exact below_drewN HBW.out⟩
          case measure => simp [intOf]; omega
      · have hcd : decide (0 < c0) = false := decide_eq_false hc
        have hcn : (!decide (0 < c0)) = true := by rw [hcd]; rfl
        cases b
        · go_wp2_with fail
          go_quiet (fail)
          go_wp2_with fail
          go_roundw
          case rel => exact ⟨k + 1, k, z', by omega, by omega, by omega, by go_num, rfl, rfl, HZK.out, HBN.out.1 (by simp [hc]), by first | exact HBW.out | exact below_drewN HBW.out⟩
          case measure => simp [intOf]; omega
        · go_wp2_with fail
          go_roundw
          case rel => exact ⟨k + 1, q, y, by omega, by omega, by omega, by go_num, rfl, rfl, HY.out, HBN.out.2 (by simp [hc]), HBW.out⟩
          case measure => simp [intOf]; omega
    · have hkn' : k = n := by omega
      subst hkn'
      have hlq : (q : Int) < (k : Int) := by omega
      have hq0 : (0 : Int) ≤ (q : Int) := Int.natCast_nonneg _
      have zq : wr.cell? (ad.add q) = some (f q) := cell_kept hbl (HC.out q hqk)
      have hall : ∀ j, j ∈ l → Best b (cmpV y.v j.v) := fun j hj => by
        obtain ⟨i, hi, rfl⟩ := List.getElem_of_mem hj
        exact hbest i _ (by have := HN.out; omega) (List.getElem?_eq_getElem hi)
      have HALL := Lib.hid hall
      have HJQ := Lib.hid ((HE.out q y hy).keep hbl)
      have HMEM := Lib.hid (List.mem_of_getElem? hy)
      generalize f q = fq at zq HJQ ⊢
      clear hy hbest hbl hall hlt
      go_wp2_with fail
      go_ret
      exact ⟨_, rfl, HBL.out, .inr ⟨y, HMEM.out, HJQ.out, HALL.out⟩⟩
theorem pick_any (b : Bool) (l : List J) (hl : JN (.arr l)) (ok : Nat → Prop) (A : Option Addr) (c : Nat) (f : Nat → Value) (w : World) (r : RowAt w ok 1 A l.length fun i => [f i]) (e : ∀ (i : Nat) (j : J), l[i]? = some j → Jr w ok j (f i)) :
    Calls Tryz.prog 148 #[.slice A l.length c, .slice A l.length c, .bool b] w (PickPost b l ok w) := by
  cases l with
  | nil => exact minMax_nil b A c ok w
  | cons a l => exact minMax_any b (a :: l) _ rfl (by simp) ok A c f w (jn_arr_elim hl) r e (jn_len hl)
/-- What gojq's min (max) gives. -/
def MinR (b : Bool) (j : J) (w : World) (u : Value) : Prop := (j.v.kind ≠ 5 ∧ IsErr u) ∨ ∃ l, j = .arr l ∧ PickJ b l (fun _ => True) w u
def MinPost (b : Bool) (j : J) (w : World) (e : Ending) (w' : World) : Prop := ∃ u, e = .returned u ∧ Below w.heap.size w w' ∧ MinR b j w' u
theorem err132 (v : Value) : IsErr (.iface 132 v) := ⟨_, _, rfl, fun W => err_132 v W⟩
theorem funcMin_any (j : J) (hj : JN j) (x : Value) (w : World) (h : Jr w (fun _ => True) j x) : Calls Tryz.prog 98 #[x] w (MinPost true j w) := by
  cases h with
  | arr l A c f hc r e =>
    have HS := Lib.hid (pick_any true l hj (fun _ => True) A c f w r e)
    obtain ⟨n, hn⟩ : ∃ n, n = l.length := ⟨_, rfl⟩
    rw [← hn] at HS ⊢
    clear r e hc hn
    go_enter Tryz.func98, Tryz.ntmps98
    go_wp2_with fail
    refine HS.out.mono ?_
    rintro e' w' ⟨u, rfl, hb, hp⟩
    have HB := Lib.hid hb
    have HP := Lib.hid hp
    clear hb hp
    go_wp2_with fail
    go_ret
    exact ⟨_, rfl, HB.out, .inr ⟨l, rfl, HP.out⟩⟩
  | bool b =>
    go_enter Tryz.func98, Tryz.ntmps98
    go_wp2_with fail
    go_ret
    exact ⟨_, rfl, (Below.refl _ _).alloc (Nat.le_refl _) _, .inl ⟨by cases b <;> decide, err132 _⟩⟩
  | _ =>
    go_enter Tryz.func98, Tryz.ntmps98
    go_wp2_with fail
    go_ret
    exact ⟨_, rfl, (Below.refl _ _).alloc (Nat.le_refl _) _, .inl ⟨by simp [J.v, V.kind], err132 _⟩⟩
theorem zzMin_any (j : J) (hj : JN j) (x : Value) (w : World) (h : Jr w (fun _ => True) j x) : Calls Tryz.prog 51 #[x] w (MinPost true j w) := by
  have HS := Lib.hid (funcMin_any j hj x w h)
  clear h
  go_enter Tryz.func51, Tryz.ntmps51
  go_wp2_with fail
  refine HS.out.mono ?_
  rintro e' w' ⟨u, rfl, hb, hp⟩
  have HB := Lib.hid hb
  have HP := Lib.hid hp
  clear hb hp
  go_wp2_with fail
  go_ret
  exact ⟨_, rfl, HB.out, HP.out⟩
set_option maxHeartbeats 1000000 in
/-- impl.Min: what gojq gives of the values, as a result. -/
theorem door_Min (v1 : V) (ok : Nat → Prop) (cs1 : List Value) (w : World) (hv1 : Vr w ok v1 cs1) (wf1 : WF v1) (pa1 : Sm v1)
    (S : Value → World → Prop) (T : V → Int → Prop)
    (HZ : ∀ (x1 : Value) (W : World), Below w.heap.size w W → Jr W (fun _ => True) v1.j x1 → Calls Tryz.prog 51 #[x1] W fun e W' => ∃ x, e = .returned x ∧ Below W.heap.size W W' ∧ S x W')
    (HR : ∀ (x : Value) (W : World), S x W → Calls Tryz.prog 48 #[x] W (ResPost T W)) :
    Calls Tryz.prog 17 #[.agg cs1.toArray] w (ResPost T w) := by
  have HV1 := Lib.hid hv1
  obtain ⟨k1, h1, t1, l1, ks1, vs1, P1, p1, Q1, q1, R1, r1, f1, g1, i1, i2, i3, i4, i5, i6, i7, i8, i9, i10, i11, i12, i13, i14, i15⟩ := hv1
  clear i1 i2 i3 i4 i5 i6 i7 i8 i9 i10 i11 i12 i13 i14 i15
  obtain ⟨W0, hW0⟩ : ∃ W0, W0 = (w.alloc (.cells #[.int .i64 k1, .int .i64 h1, .string t1, .slice P1 l1.length p1, .slice Q1 ks1.length q1, .slice R1 vs1.length r1] 26)).alloc (.cells #[.int .i64 0, .int .i64 0, .string ⟨#[]⟩, .slice none 0 0, .slice none 0 0, .slice none 0 0, .int .i64 0] 34) := ⟨_, rfl⟩
  have hB : Below w.heap.size w W0 := by rw [hW0]; exact (((Below.refl _ _).alloc (Nat.le_refl _) _).alloc (by (try simp); (try omega)) _)
  have hS0 : W0.heap.size = w.heap.size + 2 := by rw [hW0]; simp
  have hR0 : W0.heap[w.heap.size + 1]? = some (.cells #[.int .i64 0, .int .i64 0, .string ⟨#[]⟩, .slice none 0 0, .slice none 0 0, .slice none 0 0, .int .i64 0] 34) := by
    rw [hW0]
    have := heap_alloc_new (w.alloc (.cells #[.int .i64 k1, .int .i64 h1, .string t1, .slice P1 l1.length p1, .slice Q1 ks1.length q1, .slice R1 vs1.length r1] 26)) (.cells #[.int .i64 0, .int .i64 0, .string ⟨#[]⟩, .slice none 0 0, .slice none 0 0, .slice none 0 0, .int .i64 0] 34)
    rw [show (w.alloc (.cells #[.int .i64 k1, .int .i64 h1, .string t1, .slice P1 l1.length p1, .slice Q1 ks1.length q1, .slice R1 vs1.length r1] 26)).heap.size = w.heap.size + 1 from by simp] at this
    exact this
  have HW0 := Lib.hid hW0
  have HT1 := Lib.hid (toGo_any _ ok _ W0 wf1 pa1 (HV1.out.keep hB))
  clear hW0
  go_enter Tryz.func17, Tryz.ntmps17
  go_wp2_with fail
  rw [← HW0.out]
  refine HT1.out.mono ?_
  rintro e' w1 ⟨x1, rfl, hx1, hb1⟩
  have HX1 := Lib.hid hx1
  have HB1 := Lib.hid (below_trans hB hb1)
  have HC1 := Lib.hid hb1
  clear hx1 hb1
  have HJ1 := Lib.hid (show Jr w1 (fun _ => True) _ x1 from HX1.out.mono fun _ _ => trivial)
  have hsz : w.heap.size + 2 ≤ w1.heap.size := by have := HC1.out.size; omega
  go_wp2_with fail
  refine (HZ x1 w1 HB1.out HJ1.out).mono ?_
  rintro e' w8 ⟨x8, rfl, hb8, hS8⟩
  have HS8 := Lib.hid hS8
  have HB8 := Lib.hid (below_trans HB1.out hb8)
  have HC8 := Lib.hid (below_trans HC1.out hb8)
  have hsz8 : w.heap.size + 2 ≤ w8.heap.size := by have := hb8.size; omega
  clear hS8 hb8
  go_wp2_with fail
  refine (HR x8 w8 HS8.out).mono ?_
  rintro e' w9 h9
  obtain ⟨v9, a0, a1, s, S3, S4, S5, n3, m3, n4, m4, n5, m5, c, rfl, hv9, hT9, hb9⟩ := resPost_shape h9
  have hr9 := (hb9.block _ (by omega)).trans ((HC8.out.block _ (by omega)).trans hR0)
  have y0 : w9.cell? ⟨w.heap.size + 1, 0, none⟩ = some (.int .i64 0) := by simp [World.cell?, hr9]
  have y1 : w9.cell? ⟨w.heap.size + 1, 1, none⟩ = some (.int .i64 0) := by simp [World.cell?, hr9]
  have y2 : w9.cell? ⟨w.heap.size + 1, 2, none⟩ = some (.string ⟨#[]⟩) := by simp [World.cell?, hr9]
  have y3 : w9.cell? ⟨w.heap.size + 1, 3, none⟩ = some (.slice none 0 0) := by simp [World.cell?, hr9]
  have y4 : w9.cell? ⟨w.heap.size + 1, 4, none⟩ = some (.slice none 0 0) := by simp [World.cell?, hr9]
  have y5 : w9.cell? ⟨w.heap.size + 1, 5, none⟩ = some (.slice none 0 0) := by simp [World.cell?, hr9]
  have y6 : w9.cell? ⟨w.heap.size + 1, 6, none⟩ = some (.int .i64 0) := by simp [World.cell?, hr9]
  have yf : ∀ i, w9.frozen? ⟨w.heap.size + 1, i, none⟩ = false := fun i => by simp [World.frozen?, hr9]
  have HB9 := Lib.hid (below_trans HB8.out hb9)
  have hset : ∀ (W : World) (i : Nat) (u : Value) (cs : List Value), Vr W (fun b => w.heap.size + 1 < b) v9 cs → Vr (W.setCell ⟨w.heap.size + 1, i, none⟩ u) (fun b => w.heap.size + 1 < b) v9 cs := fun W i u cs h =>
    h.move fun b hb => Below.heap_setCell _ _ _ _ (by show b ≠ w.heap.size + 1; omega)
  have HSET := Lib.hid hset
  have HV9 := Lib.hid (show Vr w9 (fun b => w.heap.size + 1 < b) v9 _ from hv9.mono fun b hb => by omega)
  have HT9 := Lib.hid hT9
  clear hset hv9 hT9 hb9 hr9 h9 hR0
  go_wp2_with fail
  refine bodyPost_ret (v := .agg #[.int .i64 a0, .int .i64 a1, .string s, .slice S3 n3 m3, .slice S4 n4 m4, .slice S5 n5 m5, .int .i64 c]) (by simp [results, Tryz.results17, go_sem, y0, y1, y2, y3, y4, y5, y6]) rfl ?_
  refine ⟨v9, [.int .i64 a0, .int .i64 a1, .string s, .slice S3 n3 m3, .slice S4 n4 m4, .slice S5 n5 m5], c, rfl, ?_, HT9.out, ?_⟩
  · exact (HSET.out _ _ _ _ (HSET.out _ _ _ _ (HSET.out _ _ _ _ (HSET.out _ _ _ _ (HSET.out _ _ _ _ (HSET.out _ _ _ _ (HSET.out _ _ _ _ HV9.out))))))).mono fun b hb => by omega
  · have hle : w.heap.size ≤ w.heap.size + 1 := by omega
    exact (((((((HB9.out.setCell hle _).setCell hle _).setCell hle _).setCell hle _).setCell hle _).setCell hle _).setCell hle _)
theorem funcMax_any (j : J) (hj : JN j) (x : Value) (w : World) (h : Jr w (fun _ => True) j x) : Calls Tryz.prog 99 #[x] w (MinPost false j w) := by
  cases h with
  | arr l A c f hc r e =>
    have HS := Lib.hid (pick_any false l hj (fun _ => True) A c f w r e)
    obtain ⟨n, hn⟩ : ∃ n, n = l.length := ⟨_, rfl⟩
    rw [← hn] at HS ⊢
    clear r e hc hn
    go_enter Tryz.func99, Tryz.ntmps99
    go_wp2_with fail
    refine HS.out.mono ?_
    rintro e' w' ⟨u, rfl, hb, hp⟩
    have HB := Lib.hid hb
    have HP := Lib.hid hp
    clear hb hp
    go_wp2_with fail
    go_ret
    exact ⟨_, rfl, HB.out, .inr ⟨l, rfl, HP.out⟩⟩
  | bool b =>
    go_enter Tryz.func99, Tryz.ntmps99
    go_wp2_with fail
    go_ret
    exact ⟨_, rfl, (Below.refl _ _).alloc (Nat.le_refl _) _, .inl ⟨by cases b <;> decide, err132 _⟩⟩
  | _ =>
    go_enter Tryz.func99, Tryz.ntmps99
    go_wp2_with fail
    go_ret
    exact ⟨_, rfl, (Below.refl _ _).alloc (Nat.le_refl _) _, .inl ⟨by simp [J.v, V.kind], err132 _⟩⟩
theorem zzMax_any (j : J) (hj : JN j) (x : Value) (w : World) (h : Jr w (fun _ => True) j x) : Calls Tryz.prog 52 #[x] w (MinPost false j w) := by
  have HS := Lib.hid (funcMax_any j hj x w h)
  clear h
  go_enter Tryz.func52, Tryz.ntmps52
  go_wp2_with fail
  refine HS.out.mono ?_
  rintro e' w' ⟨u, rfl, hb, hp⟩
  have HB := Lib.hid hb
  have HP := Lib.hid hp
  clear hb hp
  go_wp2_with fail
  go_ret
  exact ⟨_, rfl, HB.out, HP.out⟩
set_option maxHeartbeats 1000000 in
/-- impl.Max: what gojq gives of the values, as a result. -/
theorem door_Max (v1 : V) (ok : Nat → Prop) (cs1 : List Value) (w : World) (hv1 : Vr w ok v1 cs1) (wf1 : WF v1) (pa1 : Sm v1)
    (S : Value → World → Prop) (T : V → Int → Prop)
    (HZ : ∀ (x1 : Value) (W : World), Below w.heap.size w W → Jr W (fun _ => True) v1.j x1 → Calls Tryz.prog 52 #[x1] W fun e W' => ∃ x, e = .returned x ∧ Below W.heap.size W W' ∧ S x W')
    (HR : ∀ (x : Value) (W : World), S x W → Calls Tryz.prog 48 #[x] W (ResPost T W)) :
    Calls Tryz.prog 18 #[.agg cs1.toArray] w (ResPost T w) := by
  have HV1 := Lib.hid hv1
  obtain ⟨k1, h1, t1, l1, ks1, vs1, P1, p1, Q1, q1, R1, r1, f1, g1, i1, i2, i3, i4, i5, i6, i7, i8, i9, i10, i11, i12, i13, i14, i15⟩ := hv1
  clear i1 i2 i3 i4 i5 i6 i7 i8 i9 i10 i11 i12 i13 i14 i15
  obtain ⟨W0, hW0⟩ : ∃ W0, W0 = (w.alloc (.cells #[.int .i64 k1, .int .i64 h1, .string t1, .slice P1 l1.length p1, .slice Q1 ks1.length q1, .slice R1 vs1.length r1] 26)).alloc (.cells #[.int .i64 0, .int .i64 0, .string ⟨#[]⟩, .slice none 0 0, .slice none 0 0, .slice none 0 0, .int .i64 0] 34) := ⟨_, rfl⟩
  have hB : Below w.heap.size w W0 := by rw [hW0]; exact (((Below.refl _ _).alloc (Nat.le_refl _) _).alloc (by (try simp); (try omega)) _)
  have hS0 : W0.heap.size = w.heap.size + 2 := by rw [hW0]; simp
  have hR0 : W0.heap[w.heap.size + 1]? = some (.cells #[.int .i64 0, .int .i64 0, .string ⟨#[]⟩, .slice none 0 0, .slice none 0 0, .slice none 0 0, .int .i64 0] 34) := by
    rw [hW0]
    have := heap_alloc_new (w.alloc (.cells #[.int .i64 k1, .int .i64 h1, .string t1, .slice P1 l1.length p1, .slice Q1 ks1.length q1, .slice R1 vs1.length r1] 26)) (.cells #[.int .i64 0, .int .i64 0, .string ⟨#[]⟩, .slice none 0 0, .slice none 0 0, .slice none 0 0, .int .i64 0] 34)
    rw [show (w.alloc (.cells #[.int .i64 k1, .int .i64 h1, .string t1, .slice P1 l1.length p1, .slice Q1 ks1.length q1, .slice R1 vs1.length r1] 26)).heap.size = w.heap.size + 1 from by simp] at this
    exact this
  have HW0 := Lib.hid hW0
  have HT1 := Lib.hid (toGo_any _ ok _ W0 wf1 pa1 (HV1.out.keep hB))
  clear hW0
  go_enter Tryz.func18, Tryz.ntmps18
  go_wp2_with fail
  rw [← HW0.out]
  refine HT1.out.mono ?_
  rintro e' w1 ⟨x1, rfl, hx1, hb1⟩
  have HX1 := Lib.hid hx1
  have HB1 := Lib.hid (below_trans hB hb1)
  have HC1 := Lib.hid hb1
  clear hx1 hb1
  have HJ1 := Lib.hid (show Jr w1 (fun _ => True) _ x1 from HX1.out.mono fun _ _ => trivial)
  have hsz : w.heap.size + 2 ≤ w1.heap.size := by have := HC1.out.size; omega
  go_wp2_with fail
  refine (HZ x1 w1 HB1.out HJ1.out).mono ?_
  rintro e' w8 ⟨x8, rfl, hb8, hS8⟩
  have HS8 := Lib.hid hS8
  have HB8 := Lib.hid (below_trans HB1.out hb8)
  have HC8 := Lib.hid (below_trans HC1.out hb8)
  have hsz8 : w.heap.size + 2 ≤ w8.heap.size := by have := hb8.size; omega
  clear hS8 hb8
  go_wp2_with fail
  refine (HR x8 w8 HS8.out).mono ?_
  rintro e' w9 h9
  obtain ⟨v9, a0, a1, s, S3, S4, S5, n3, m3, n4, m4, n5, m5, c, rfl, hv9, hT9, hb9⟩ := resPost_shape h9
  have hr9 := (hb9.block _ (by omega)).trans ((HC8.out.block _ (by omega)).trans hR0)
  have y0 : w9.cell? ⟨w.heap.size + 1, 0, none⟩ = some (.int .i64 0) := by simp [World.cell?, hr9]
  have y1 : w9.cell? ⟨w.heap.size + 1, 1, none⟩ = some (.int .i64 0) := by simp [World.cell?, hr9]
  have y2 : w9.cell? ⟨w.heap.size + 1, 2, none⟩ = some (.string ⟨#[]⟩) := by simp [World.cell?, hr9]
  have y3 : w9.cell? ⟨w.heap.size + 1, 3, none⟩ = some (.slice none 0 0) := by simp [World.cell?, hr9]
  have y4 : w9.cell? ⟨w.heap.size + 1, 4, none⟩ = some (.slice none 0 0) := by simp [World.cell?, hr9]
  have y5 : w9.cell? ⟨w.heap.size + 1, 5, none⟩ = some (.slice none 0 0) := by simp [World.cell?, hr9]
  have y6 : w9.cell? ⟨w.heap.size + 1, 6, none⟩ = some (.int .i64 0) := by simp [World.cell?, hr9]
  have yf : ∀ i, w9.frozen? ⟨w.heap.size + 1, i, none⟩ = false := fun i => by simp [World.frozen?, hr9]
  have HB9 := Lib.hid (below_trans HB8.out hb9)
  have hset : ∀ (W : World) (i : Nat) (u : Value) (cs : List Value), Vr W (fun b => w.heap.size + 1 < b) v9 cs → Vr (W.setCell ⟨w.heap.size + 1, i, none⟩ u) (fun b => w.heap.size + 1 < b) v9 cs := fun W i u cs h =>
    h.move fun b hb => Below.heap_setCell _ _ _ _ (by show b ≠ w.heap.size + 1; omega)
  have HSET := Lib.hid hset
  have HV9 := Lib.hid (show Vr w9 (fun b => w.heap.size + 1 < b) v9 _ from hv9.mono fun b hb => by omega)
  have HT9 := Lib.hid hT9
  clear hset hv9 hT9 hb9 hr9 h9 hR0
  go_wp2_with fail
  refine bodyPost_ret (v := .agg #[.int .i64 a0, .int .i64 a1, .string s, .slice S3 n3 m3, .slice S4 n4 m4, .slice S5 n5 m5, .int .i64 c]) (by simp [results, Tryz.results18, go_sem, y0, y1, y2, y3, y4, y5, y6]) rfl ?_
  refine ⟨v9, [.int .i64 a0, .int .i64 a1, .string s, .slice S3 n3 m3, .slice S4 n4 m4, .slice S5 n5 m5], c, rfl, ?_, HT9.out, ?_⟩
  · exact (HSET.out _ _ _ _ (HSET.out _ _ _ _ (HSET.out _ _ _ _ (HSET.out _ _ _ _ (HSET.out _ _ _ _ (HSET.out _ _ _ _ (HSET.out _ _ _ _ HV9.out))))))).mono fun b hb => by omega
  · have hle : w.heap.size ≤ w.heap.size + 1 := by omega
    exact (((((((HB9.out.setCell hle _).setCell hle _).setCell hle _).setCell hle _).setCell hle _).setCell hle _).setCell hle _)
/-- What the result holds. -/
def MinT (b : Bool) (v : V) (u : V) (c : Int) : Prop := (v.kind ≠ 5 ∧ c = 1) ∨ (v.kind = 5 ∧ c = 0 ∧ ((v.list = [] ∧ u = zeroV0) ∨ (u ∈ v.list ∧ ∀ y, y ∈ v.list → Best b (cmpV u y))))
theorem list_arr {v : V} {l : List J} (hw : WF v) (h : v.j = .arr l) : v.kind = 5 ∧ v.list = J.vs l := by
  have hr := round hw
  rw [h] at hr
  rw [← hr]
  exact ⟨rfl, rfl⟩
theorem result_min (b : Bool) (v : V) (hw : WF v) (hjn : JN v.j) (u : Value) (w : World) (h : MinR b v.j w u) : Calls Tryz.prog 48 #[u] w (ResPost (MinT b v) w) := by
  rcases h with ⟨hk, he⟩ | ⟨l, hl, hp⟩
  · rw [round hw] at hk
    exact (result_errG he w).mono fun e w' h => resPost_mono (resPost_err h) fun v c h => .inl ⟨hk, h.2⟩
  · obtain ⟨h5, hls⟩ := list_arr hw hl
    rw [hl] at hjn
    rcases hp with ⟨rfl, rfl⟩ | ⟨p, hp, hjp, hb⟩
    · exact (result_any .null (fun _ => True) .nilIface w .null .null).mono fun e w' h => resPost_mono (resPost_ok h) fun u c h => .inr ⟨h5, h.2, .inl ⟨by rw [hls]; rfl, h.1⟩⟩
    · have hj := jn_arr_elim hjn p hp
      exact (result_any p (fun _ => True) u w hj.2.2.1 hjp).mono fun e w' h => resPost_mono (resPost_ok h) fun u c h => .inr ⟨h5, h.2, .inr ⟨by rw [h.1, hls, J.vs_map]; exact List.mem_map.2 ⟨p, hp, rfl⟩, fun y hy => by
        rw [hls, J.vs_map] at hy
        obtain ⟨j, hj, rfl⟩ := List.mem_map.1 hy
        rw [h.1]
        exact hb j hj⟩⟩
theorem implMin (v : V) (hjn : JN v.j) (ok : Nat → Prop) (cs : List Value) (w : World) (hv : Vr w ok v cs) (wf : WF v) (sm : Sm v) : Calls Tryz.prog 17 #[.agg cs.toArray] w (ResPost (MinT true v) w) :=
  door_Min v ok cs w hv wf sm (fun u W => MinR true v.j W u) _ (fun x W _ hx => (zzMin_any v.j hjn x W hx).mono fun e w' h => h) (fun x W hx => result_min true v wf hjn x W hx)
theorem implMax (v : V) (hjn : JN v.j) (ok : Nat → Prop) (cs : List Value) (w : World) (hv : Vr w ok v cs) (wf : WF v) (sm : Sm v) : Calls Tryz.prog 18 #[.agg cs.toArray] w (ResPost (MinT false v) w) :=
  door_Max v ok cs w hv wf sm (fun u W => MinR false v.j W u) _ (fun x W _ hx => (zzMax_any v.j hjn x W hx).mono fun e w' h => h) (fun x W hx => result_min false v wf hjn x W hx)
end Go.Proofs.YtpamlgdcnmcedaaGreatDoor

set_option linter.unusedVariables false
set_option linter.unusedSimpArgs false
set_option maxRecDepth 100000
namespace Go.Proofs.YtpamlgdcnmcedaaGreatDoor
open Go Go.RowKit
theorem below_drewN' {B n : Nat} {a w : World} (h : Below B a w) : Below B a (w.drewN n) := ⟨h.os, h.tape, h.output, h.size, h.block⟩
theorem OwnN.base {w : World} {b b' : Nat} {v : Value} {xs : List Nat} (h : OwnN w b v xs) (hb : b' ≤ b) : OwnN w b' v xs := by
  refine ⟨h.1, ?_⟩
  rcases h.2 with h2 | ⟨g, cap, cur, h1, hg, hr⟩
  · exact .inl h2
  · exact .inr ⟨g, cap, cur, h1, Nat.le_trans hb hg, hr⟩
def RanksPost (key : Nat → V) (n : Nat) (w : World) (e : Ending) (w' : World) : Prop := ∃ u R, e = .returned u ∧ OwnN w' w.heap.size u R ∧ Rk key n R ∧ Below w.heap.size w w'
set_option maxHeartbeats 4000000 in
theorem ranks_any (ys : List V) (n : Nat) (hn : ys.length = n) (ok : Nat → Prop) (A : Option Addr) (c : Nat) (f : Nat → List Value) (w : World) (wl : ∀ v, v ∈ ys → WF v) (r : RowAt w ok 6 A n f) (e : ∀ (i : Nat) (v : V), ys[i]? = some v → Vr w ok v (f i)) (bn : n ≤ 1000000) :
    Calls Tryz.prog 178 #[.slice A n c] w (RanksPost (fun j => ys.getD j zeroV0) n w) := by
  have HN := Lib.hid hn
  have HE := Lib.hid e
  have HR := Lib.hid r
  obtain ⟨key, hkey⟩ : ∃ key : Nat → V, key = fun j => ys.getD j zeroV0 := ⟨_, rfl⟩
  have hkat : ∀ (j : Nat) (v : V), ys[j]? = some v → key j = v := fun j v hj => by rw [hkey]; simp [List.getD_eq_getElem?_getD, hj]
  rw [← hkey]
  have HKAT := Lib.hid hkat
  clear hn e r hkey hkat
  obtain ⟨i3, hi, hzz⟩ := Option.map_eq_some_iff.1 info3
  simp only [Prod.mk.injEq] at hzz
  obtain ⟨hz, hsz, hby⟩ := hzz
  have HI3 := Lib.hid hi
  have HZ3 := Lib.hid hz
  have HS3 := Lib.hid hsz
  have HB3 := Lib.hid hby
  clear hi hz hsz hby
  go_enter Tryz.func178, Tryz.ntmps178
  go_wp2_with fail
  go_loopw [3, 10] (fun o i wr => ∃ (k : Nat) (R : List Nat), k ≤ n ∧ i = .int .i64 k ∧ OwnN wr w.heap.size o R ∧ Rk key k R ∧ Below w.heap.size w wr) (fun o i _ => n - (intOf i).toNat)
  case atStart => exact ⟨0, [], Nat.zero_le _, rfl, OwnN.nil _ _, rk_nil _, Below.refl _ _⟩
  case round =>
    obtain ⟨k, R, hk, rfl, ho, hrk, hbl⟩ := hrel
    by_cases hlt : k < n
    · obtain ⟨v, hv⟩ := at_lt (l := ys) (p := k) (by rw [HN.out]; exact hlt)
      obtain ⟨ad, hA, _, hc0⟩ := HR.out (by omega)
      subst hA
      have hV := HE.out k v hv
      have hc := fun j u hu => cell_kept hbl (hc0 k j u hlt hu)
      obtain ⟨c0, c1, cs, C3, C4, C5, x3, y3, x4, y4, x5, y5, hfk⟩ : ∃ (c0 c1 : Int) (cs : ByteArray) (C3 C4 C5 : Option Addr) (x3 y3 x4 y4 x5 y5 : Nat), f k = [.int .i64 c0, .int .i64 c1, .string cs, .slice C3 x3 y3, .slice C4 x4 y4, .slice C5 x5 y5] := by
        generalize f k = fk at hV
        cases hV
        exact ⟨_, _, _, _, _, _, _, _, _, _, _, _, rfl⟩
      rw [hfk] at hV hc
      obtain ⟨s0, s1, s2, s3, s4, s5⟩ := cells6 hc
      obtain ⟨W2, hW2⟩ : ∃ W2, W2 = wr.alloc (.cells #[.int .i64 c0, .int .i64 c1, .string cs, .slice C3 x3 y3, .slice C4 x4 y4, .slice C5 x5 y5] 26) := ⟨_, rfl⟩
      have hb2 : Below wr.heap.size wr W2 := by rw [hW2]; exact (Below.refl _ _).alloc (Nat.le_refl _) _
      have hK2 : W2.heap[wr.heap.size]? = some (.cells #[.int .i64 c0, .int .i64 c1, .string cs, .slice C3 x3 y3, .slice C4 x4 y4, .slice C5 x5 y5] 26 (0, 0)) := by rw [hW2]; exact heap_alloc_new wr _
      have hlen : R.length = k := hrk.1
      obtain ⟨A', c', hu, hle⟩ := ho.form
      rw [hlen] at hu hle
      subst hu
      have HO2 := Lib.hid (ho.keep hb2)
      have HRK := Lib.hid hrk
      have HW2 := Lib.hid hW2
      have HB2 := Lib.hid (below_trans hbl hb2)
      have HV := Lib.hid (hV.keep (below_trans hbl hb2))
      have HVI := Lib.hid hv
      have HWV := Lib.hid (wl v (List.mem_of_getElem? hv))
      have HKC := Lib.hid (show ∀ W : World, Below W2.heap.size W2 W → W.cell? ⟨wr.heap.size, 0, none⟩ = some (.int .i64 c0) ∧ W.cell? ⟨wr.heap.size, 1, none⟩ = some (.int .i64 c1) ∧ W.cell? ⟨wr.heap.size, 2, none⟩ = some (.string cs) ∧ W.cell? ⟨wr.heap.size, 3, none⟩ = some (.slice C3 x3 y3) ∧ W.cell? ⟨wr.heap.size, 4, none⟩ = some (.slice C4 x4 y4) ∧ W.cell? ⟨wr.heap.size, 5, none⟩ = some (.slice C5 x5 y5) from fun W hb => by
        have q1 := (hb.block _ (heap_lt hK2)).trans hK2
        refine ⟨?_, ?_, ?_, ?_, ?_, ?_⟩ <;> simp [World.cell?, q1])
      have HC0 := Lib.hid hc0
      have i0 : (0 : Int) ≤ (k : Int) := Int.natCast_nonneg _
      have i1 : (k : Int) < (n : Int) := by omega
      have HLE := Lib.hid hle
      have HLR := Lib.hid hlen
      clear hV hc hfk hb2 hK2 ho hrk hbl hv hW2 hc0 hle hlen
      go_upto_region 5 with fail
      rw [← HW2.out]
      clear s0 s1 s2 s3 s4 s5
      obtain ⟨kb, hkb⟩ : ∃ kb, kb = wr.heap.size := ⟨_, rfl⟩
      rw [← hkb] at HKC ⊢
      have HKB := Lib.hid hkb
      clear hkb
      go_wp2_with fail
      go_loopw [6] (fun p wi => ∃ q : Nat, q ≤ k ∧ p = .int .i64 q ∧ (∀ r j, q ≤ r → R[r]? = some j → 0 < cmpV (key j) (key k)) ∧ Below W2.heap.size W2 wi) (fun p _ => (intOf p).toNat)
      case atStart =>
        exact ⟨k, Nat.le_refl _, rfl, fun r j hr hj => by have := (List.getElem?_eq_some_iff.1 hj).1; have := HLR.out; omega, Below.refl _ _⟩
      case round =>
        obtain ⟨p, hpk, rfl, hp2, hbi⟩ := hrel
        have HP2 := Lib.hid hp2
        have HBI := Lib.hid hbi
        have hle := HLE.out
        by_cases hp : p = 0
        · subst hp
          have HH1 := Lib.hid (show 0 = 0 ∨ ∃ q, R[0 - 1]? = some q ∧ cmpV (key q) (key k) ≤ 0 from .inl rfl)
          clear hp2 hbi
          go_wp2_with fail
          go_quiet (go_wp2_with fail)
          have hbX : Below W2.heap.size W2 (wr.drewN nq) := (below_drewN' HBI.out)
          have hrk := rk_step HRK.out 0 hpk (.inl rfl) HP2.out
          have HRK' := Lib.hid hrk
          have hO3 := HO2.out.keep (hbX.alloc hbX.size (.cells #[] 3))
          have hsz : w.heap.size ≤ (wr.drewN nq).heap.size := Nat.le_trans (HB2.out.size) hbX.size
          have hE := OwnN.lit0 (base := (wr.drewN nq).heap.size) (wr.drewN nq) (Nat.le_refl _)
          have hsrc1 : SrcN ((wr.drewN nq).alloc (.cells #[] 3)) (.slice A' 0 c') (R.take 0) := by
            rcases hO3.addr with ⟨hA9, h2, h3, h4⟩ | ⟨g', hA9, _, hg⟩
            · have hz : 0 = 0 := rfl
              subst hA9
              exact .inl ⟨by rw [h3], by simp⟩
            · rw [hA9]
              exact .inr ⟨⟨g', 0, none⟩, 0, c', rfl, by rw [List.length_take, HLR.out]; omega, fun j y hy => by rw [add_zero]; exact hg j y (by rw [List.getElem?_take] at hy; split at hy <;> first | exact hy | cases hy)⟩
          have HSRC1 := Lib.hid hsrc1
          have HE0 := Lib.hid hE
          have HBX := Lib.hid hbX
          have HSZ := Lib.hid hsz
          clear hrk hO3 hE hsrc1 hbX hsz
          have hp0 : (0 : Int) ≤ ((0 : Nat) : Int) := Int.natCast_nonneg _
          have hpk' : ((0 : Nat) : Int) ≤ (k : Int) := by omega
          have hkc : (k : Int) ≤ (c' : Int) := by omega
          have hpc : ((0 : Nat) : Int) ≤ (c' : Int) := by omega
          go_wp2_with (at_builtin; refine Stop.out ?_)
          refine Stop.mk ?_
          refine wpList_append_N (wr.drewN nq).heap.size rfl (.tmp 34) (.tmp 37) 202 rfl i3 (.int .i64 0) Tryz.underlying202 HI3.out HZ3.out HS3.out HB3.out rfl (.slice (some ⟨(wr.drewN nq).heap.size, 0, none⟩) 0 0) (.slice A' 0 c') rfl rfl HE0.out HSRC1.out ?d1 ?d2 ?_
          case d1 => have := HLR.out; simp only [List.length_take, List.length_nil]; omega
          case d2 => exact ((Below.refl _ _).alloc (Nat.le_refl _) _).size
          intro va wa hoa hga
          have hba : Below (wr.drewN nq).heap.size (wr.drewN nq) wa := ((Below.refl _ _).alloc (Nat.le_refl _) _).grown hga ((Below.refl (wr.drewN nq).heap.size (wr.drewN nq)).alloc (Nat.le_refl _) _).size (fun q hq => by injection hq with hq; rw [← hq]; exact Nat.le_refl _)
          rw [List.nil_append] at hoa
          obtain ⟨n1, hn1⟩ : ∃ n1, n1 = (R.take 0).length := ⟨_, rfl⟩
          obtain ⟨A1, c1', hva, _⟩ := hoa.form
          rw [← hn1] at hva
          subst hva
          have HN1 := Lib.hid (show n1 ≤ k by rw [hn1, List.length_take, HLR.out]; omega)
          have HSB := Lib.hid (show SrcN (wa.alloc (.cells #[.int .i64 k] 3)) (.slice (some ⟨wa.heap.size, 0, none⟩) 1 1) [k] from .inr ⟨_, 1, 1, rfl, rfl, fun j y hy => by
            match j, hy with
            | 0, hy =>
              simp at hy
              subst hy
              rw [add_zero]
              simp only [World.cell?]
              rw [heap_alloc_new]
              rfl
            | j + 1, hy => simp at hy⟩)
          have HOA := Lib.hid (hoa.keep ((Below.refl _ _).alloc (Nat.le_refl _) (.cells #[.int .i64 k] 3)))
          have HOAL := Lib.hid hoa.lt
          have HBA := Lib.hid hba
          have HN1E := Lib.hid hn1
          clear hoa hga hba hn1
          go_wp2_with (at_builtin; refine Stop.out ?_)
          refine Stop.mk ?_
          refine wpList_append_N (wr.drewN nq).heap.size rfl (.tmp 39) (.tmp 41) 202 rfl i3 (.int .i64 0) Tryz.underlying202 HI3.out HZ3.out HS3.out HB3.out rfl (.slice A1 n1 c1') (.slice (some ⟨wa.heap.size, 0, none⟩) 1 1) rfl rfl HOA.out HSB.out ?e1 ?e2 ?_
          case e1 => have := HN1.out; have := HN1E.out; simp only [List.length_cons, List.length_nil]; omega
          case e2 => exact (HBA.out.alloc HBA.out.size _).size
          intro vb wb hob hgb
          have hbb : Below (wr.drewN nq).heap.size (wr.drewN nq) wb := (HBA.out.alloc HBA.out.size _).grown hgb (HBA.out.alloc HBA.out.size (.cells #[.int .i64 k] 3)).size (fun q hq => (HOAL.out q hq).1)
          obtain ⟨n2, hn2⟩ : ∃ n2, n2 = (R.take 0 ++ [k]).length := ⟨_, rfl⟩
          obtain ⟨A2, c2', hvb, _⟩ := hob.form
          rw [← hn2] at hvb
          subst hvb
          have HN2 := Lib.hid (show n2 ≤ k + 1 by rw [hn2, List.length_append]; have := HN1.out; have := HN1E.out; simp only [List.length_cons, List.length_nil]; omega)
          have HOBL := Lib.hid hob.lt
          have HOB := Lib.hid hob
          have HBB := Lib.hid hbb
          have HN2E := Lib.hid hn2
          have HO5 := HO2.out.keep (HBX.out.trans (hbb.mono HBX.out.size))
          clear hob hgb hbb hn2
          rcases HO5.addr with ⟨hA', hk0, hc0', _⟩ | ⟨g, hA', _, hg⟩
          · subst hA'
            subst hk0
            subst hc0'
            have HSC := Lib.hid (show SrcN wb (.slice none 0 0) (R.drop 0) from .inl ⟨rfl, by rw [List.drop_zero]; exact List.eq_nil_of_length_eq_zero HLR.out⟩)
            go_wp2_with (at_builtin; refine Stop.out ?_)
            refine Stop.mk ?_
            refine wpList_append_N (wr.drewN nq).heap.size rfl (.tmp 43) (.tmp 46) 202 rfl i3 (.int .i64 0) Tryz.underlying202 HI3.out HZ3.out HS3.out HB3.out rfl (.slice A2 n2 c2') (.slice none 0 0) rfl rfl HOB.out HSC.out ?f1 ?f2 ?_
            case f1 => have := HN2.out; have := HN2E.out; have := HLR.out; simp only [List.length_drop]; omega
            case f2 => exact HBB.out.size
            intro vc wc hoc hgc
            have hbc := HBB.out.grown hgc HBB.out.size (fun q hq => (HOBL.out q hq).1)
            have hoc' := OwnN.base hoc (show w.heap.size ≤ (wr.drewN nq).heap.size from HSZ.out)
            rw [List.append_assoc] at hoc'
            have HOC := Lib.hid hoc'
            have HBC := Lib.hid (below_trans HB2.out (below_trans HBX.out hbc))
            clear hoc hgc hbc hoc'
            go_wp2_with fail
            go_roundw
            case rel => exact ⟨0 + 1, _, by omega, by go_num, HOC.out, HRK'.out, HBC.out⟩
            case measure => simp [intOf]; omega
          · subst hA'
            have HG := Lib.hid hg
            clear hg
            have HSC := Lib.hid (show SrcN wb (Value.slice (some ⟨g, 0, none⟩) k c') (R.drop 0) from .inr ⟨⟨g, 0, none⟩, _, _, rfl, by rw [List.length_drop, HLR.out]; exact (Nat.sub_zero k), fun j y hy => by
                have e : (⟨g, 0, none⟩ : Addr).add j = ⟨g, 0 + j, none⟩ := by
                  simp only [Addr.add]
                  split
                  · rename_i e; subst e; rfl
                  · rfl
                rw [e]
                exact HG.out _ y (by rw [List.getElem?_drop] at hy; exact hy)⟩)
            go_wp2_with (at_builtin; refine Stop.out ?_)
            refine Stop.mk ?_
            refine wpList_append_N (wr.drewN nq).heap.size rfl (.tmp 43) (.tmp 46) 202 rfl i3 (.int .i64 0) Tryz.underlying202 HI3.out HZ3.out HS3.out HB3.out rfl (.slice A2 n2 c2') (Value.slice (some ⟨g, 0, none⟩) k c') rfl rfl HOB.out HSC.out ?f1 ?f2 ?_
            case f1 => have := HN2.out; have := HN2E.out; have := HLR.out; simp only [List.length_drop]; omega
            case f2 => exact HBB.out.size
            intro vc wc hoc hgc
            have hbc := HBB.out.grown hgc HBB.out.size (fun q hq => (HOBL.out q hq).1)
            have hoc' := OwnN.base hoc (show w.heap.size ≤ (wr.drewN nq).heap.size from HSZ.out)
            rw [List.append_assoc] at hoc'
            have HOC := Lib.hid hoc'
            have HBC := Lib.hid (below_trans HB2.out (below_trans HBX.out hbc))
            clear hoc hgc hbc hoc'
            go_wp2_with fail
            go_roundw
            case rel => exact ⟨k + 1, _, by omega, by go_num, HOC.out, HRK'.out, HBC.out⟩
            case measure => simp [intOf]; omega
        · obtain ⟨m, rfl⟩ : ∃ m, p = m + 1 := ⟨p - 1, by omega⟩
          have hmk : m < k := by omega
          obtain ⟨j0, hj0⟩ := at_lt (l := R) (p := m) (by rw [HLR.out]; exact hmk)
          have hjk := HRK.out.2.2.1 j0 (List.mem_of_getElem? hj0)
          obtain ⟨v0, hv0⟩ := at_lt (l := ys) (p := j0) (by rw [HN.out]; omega)
          obtain ⟨ad2, hA2, _, hc2⟩ := HR.out (by omega)
          cases hA2
          have hbw := below_trans HB2.out hbi
          have hV0 := (HE.out j0 v0 hv0).keep hbw
          have hcc := fun j u hu => cell_kept hbw (hc2 j0 j u (by omega) hu)
          obtain ⟨d0, d1, ds, D3, D4, D5, u3, v3, u4, v4, u5, v5, hfj⟩ : ∃ (d0 d1 : Int) (ds : ByteArray) (D3 D4 D5 : Option Addr) (u3 v3 u4 v4 u5 v5 : Nat), f j0 = [.int .i64 d0, .int .i64 d1, .string ds, .slice D3 u3 v3, .slice D4 u4 v4, .slice D5 u5 v5] := by
            generalize f j0 = fk at hV0
            cases hV0
            exact ⟨_, _, _, _, _, _, _, _, _, _, _, _, rfl⟩
          rw [hfj] at hV0 hcc
          obtain ⟨e0, e1, e2, e3, e4, e5⟩ := cells6 hcc
          obtain ⟨g, hA', hgc⟩ : ∃ g, A' = some ⟨g, 0, none⟩ ∧ wr.cell? ⟨g, m, none⟩ = some (.int .i64 (j0 : Int)) := by
            rcases (HO2.out.keep hbi).addr with ⟨_, h2, _, _⟩ | ⟨g, hA', _, hg⟩
            · exfalso; omega
            · exact ⟨g, hA', hg m j0 hj0⟩
          obtain ⟨z0, z1, z2, z3, z4, z5⟩ := HKC.out wr hbi
          have HCC := Lib.hid (cmp_any v0 v ok [.int .i64 d0, .int .i64 d1, .string ds, .slice D3 u3 v3, .slice D4 u4 v4, .slice D5 u5 v5] [.int .i64 c0, .int .i64 c1, .string cs, .slice C3 x3 y3, .slice C4 x4 y4, .slice C5 x5 y5] wr.drew (wl v0 (List.mem_of_getElem? hv0)) HWV.out (hV0.keep (Below.refl _ _).drew) ((HV.out.keep hbi).keep (Below.refl _ _).drew))
          have HJ0 := Lib.hid hj0
          have HK0 := Lib.hid (HKAT.out j0 v0 hv0)
          have HK1 := Lib.hid (HKAT.out k v HVI.out)
          have HA' := Lib.hid hA'
          have n0 : (0 : Int) ≤ (m : Int) := Int.natCast_nonneg _
          have n1 : (m : Int) < (k : Int) := by omega
          have n3 : (0 : Int) ≤ (j0 : Int) := Int.natCast_nonneg _
          have n4 : (j0 : Int) < (n : Int) := by omega
          have n5 : IntKind.i64.wrap (m : Int) = (m : Int) := wrap_small _ n0 (by omega)
          clear hp2 hbi hj0 hv0 hc2 hV0 hcc hfj hbw
          subst hA'
          obtain ⟨c9, hc9⟩ : ∃ c9, c9 = cmpV v0 v := ⟨_, rfl⟩
          go_wp2_with fail
          go_region_held3 (fun W => W.cell? ⟨g, m, none⟩ = some (.int .i64 (j0 : Int)) ∧ W.cell? (ad.add (j0 * 6)) = some (.int .i64 d0) ∧ W.cell? ⟨(ad.add (j0 * 6)).block, (ad.add (j0 * 6)).off + 1, none⟩ = some (.int .i64 d1) ∧ W.cell? ⟨(ad.add (j0 * 6)).block, (ad.add (j0 * 6)).off + 2, none⟩ = some (.string ds) ∧ W.cell? ⟨(ad.add (j0 * 6)).block, (ad.add (j0 * 6)).off + 3, none⟩ = some (.slice D3 u3 v3) ∧ W.cell? ⟨(ad.add (j0 * 6)).block, (ad.add (j0 * 6)).off + 4, none⟩ = some (.slice D4 u4 v4) ∧ W.cell? ⟨(ad.add (j0 * 6)).block, (ad.add (j0 * 6)).off + 5, none⟩ = some (.slice D5 u5 v5) ∧ W.cell? ⟨kb, 0, none⟩ = some (.int .i64 c0) ∧ W.cell? ⟨kb, 1, none⟩ = some (.int .i64 c1) ∧ W.cell? ⟨kb, 2, none⟩ = some (.string cs) ∧ W.cell? ⟨kb, 3, none⟩ = some (.slice C3 x3 y3) ∧ W.cell? ⟨kb, 4, none⟩ = some (.slice C4 x4 y4) ∧ W.cell? ⟨kb, 5, none⟩ = some (.slice C5 x5 y5))
            (first | go_keep | exact ⟨cell_kept hbc hgc, cell_kept hbc e0, cell_kept hbc e1, cell_kept hbc e2, cell_kept hbc e3, cell_kept hbc e4, cell_kept hbc e5, cell_kept hbc z0, cell_kept hbc z1, cell_kept hbc z2, cell_kept hbc z3, cell_kept hbc z4, cell_kept hbc z5⟩)
            ((first | (go_at_call 58; refine HCC.out.mono ?_; rintro e' w' ⟨rfl, hb'⟩; have hbc : Below wr.heap.size wr w' := Below.trans (Below.drew (Below.refl _ _)) hb')))
          rw [← hc9]
          have HC9 := Lib.hid hc9
          have HBC9 := Lib.hid (below_trans HBI.out hbc)
          have hcx : cmpV (key j0) (key k) = c9 := by rw [HK0.out, HK1.out, hc9]
          have HCX := Lib.hid hcx
          clear hc9 hcx hbc hb' hgc e0 e1 e2 e3 e4 e5 z0 z1 z2 z3 z4 z5
          by_cases hc : 0 < c9
          · have hp3 : ∀ r j, m ≤ r → R[r]? = some j → 0 < cmpV (key j) (key k) := fun r j hr hj => by
              by_cases e : r = m
              · subst e
                rw [HJ0.out] at hj
                cases hj
                rw [HCX.out]
                exact hc
              · exact HP2.out r j (by omega) hj
            have HP3 := Lib.hid hp3
            clear hp3
            go_wp2_with fail
            go_roundw
            case rel => exact ⟨m, by omega, by go_num, HP3.out, HBC9.out⟩
            case measure => (try simp [intOf]); (try omega)
          · have hcd : decide (0 < c9) = false := decide_eq_false hc
            have HH1 := Lib.hid (show m + 1 = 0 ∨ ∃ q, R[m + 1 - 1]? = some q ∧ cmpV (key q) (key k) ≤ 0 from .inr ⟨j0, HJ0.out, by rw [HCX.out]; omega⟩)
            have hbX : Below W2.heap.size W2 (w') := HBC9.out
            have hrk := rk_step HRK.out (m + 1) hpk HH1.out HP2.out
            have HRK' := Lib.hid hrk
            have hO3 := HO2.out.keep (hbX.alloc hbX.size (.cells #[] 3))
            have hsz : w.heap.size ≤ (w').heap.size := Nat.le_trans (HB2.out.size) hbX.size
            have hE := OwnN.lit0 (base := (w').heap.size) (w') (Nat.le_refl _)
            have hsrc1 : SrcN ((w').alloc (.cells #[] 3)) (.slice (some ⟨g, 0, none⟩) (m + 1) c') (R.take (m + 1)) := by
              rcases hO3.addr with ⟨hA9, h2, h3, h4⟩ | ⟨g', hA9, _, hg⟩
              · exfalso; omega
              · rw [hA9]
                exact .inr ⟨⟨g', 0, none⟩, (m + 1), c', rfl, by rw [List.length_take, HLR.out]; omega, fun j y hy => by rw [add_zero]; exact hg j y (by rw [List.getElem?_take] at hy; split at hy <;> first | exact hy | cases hy)⟩
            have HSRC1 := Lib.hid hsrc1
            have HE0 := Lib.hid hE
            have HBX := Lib.hid hbX
            have HSZ := Lib.hid hsz
            clear hrk hO3 hE hsrc1 hbX hsz
            have hp0 : (0 : Int) ≤ (((m + 1) : Nat) : Int) := Int.natCast_nonneg _
            have hpk' : (((m + 1) : Nat) : Int) ≤ (k : Int) := by omega
            have hkc : (k : Int) ≤ (c' : Int) := by omega
            have hpc : (((m + 1) : Nat) : Int) ≤ (c' : Int) := by omega
            go_wp2_with (at_builtin; refine Stop.out ?_)
            refine Stop.mk ?_
            refine wpList_append_N (w').heap.size rfl (.tmp 34) (.tmp 37) 202 rfl i3 (.int .i64 0) Tryz.underlying202 HI3.out HZ3.out HS3.out HB3.out rfl (.slice (some ⟨(w').heap.size, 0, none⟩) 0 0) (.slice (some ⟨g, 0, none⟩) (m + 1) c') rfl rfl HE0.out HSRC1.out ?d1 ?d2 ?_
            case d1 => have := HLR.out; simp only [List.length_take, List.length_nil]; omega
            case d2 => exact ((Below.refl _ _).alloc (Nat.le_refl _) _).size
            intro va wa hoa hga
            have hba : Below (w').heap.size (w') wa := ((Below.refl _ _).alloc (Nat.le_refl _) _).grown hga ((Below.refl (w').heap.size (w')).alloc (Nat.le_refl _) _).size (fun q hq => by injection hq with hq; rw [← hq]; exact Nat.le_refl _)
            rw [List.nil_append] at hoa
            obtain ⟨n1, hn1⟩ : ∃ n1, n1 = (R.take (m + 1)).length := ⟨_, rfl⟩
            obtain ⟨A1, c1', hva, _⟩ := hoa.form
            rw [← hn1] at hva
            subst hva
            have HN1 := Lib.hid (show n1 ≤ k by rw [hn1, List.length_take, HLR.out]; omega)
            have HSB := Lib.hid (show SrcN (wa.alloc (.cells #[.int .i64 k] 3)) (.slice (some ⟨wa.heap.size, 0, none⟩) 1 1) [k] from .inr ⟨_, 1, 1, rfl, rfl, fun j y hy => by
              match j, hy with
              | 0, hy =>
                simp at hy
                subst hy
                rw [add_zero]
                simp only [World.cell?]
                rw [heap_alloc_new]
                rfl
              | j + 1, hy => simp at hy⟩)
            have HOA := Lib.hid (hoa.keep ((Below.refl _ _).alloc (Nat.le_refl _) (.cells #[.int .i64 k] 3)))
            have HOAL := Lib.hid hoa.lt
            have HBA := Lib.hid hba
            have HN1E := Lib.hid hn1
            clear hoa hga hba hn1
            go_wp2_with (at_builtin; refine Stop.out ?_)
            refine Stop.mk ?_
            refine wpList_append_N (w').heap.size rfl (.tmp 39) (.tmp 41) 202 rfl i3 (.int .i64 0) Tryz.underlying202 HI3.out HZ3.out HS3.out HB3.out rfl (.slice A1 n1 c1') (.slice (some ⟨wa.heap.size, 0, none⟩) 1 1) rfl rfl HOA.out HSB.out ?e1 ?e2 ?_
            case e1 => have := HN1.out; have := HN1E.out; simp only [List.length_cons, List.length_nil]; omega
            case e2 => exact (HBA.out.alloc HBA.out.size _).size
            intro vb wb hob hgb
            have hbb : Below (w').heap.size (w') wb := (HBA.out.alloc HBA.out.size _).grown hgb (HBA.out.alloc HBA.out.size (.cells #[.int .i64 k] 3)).size (fun q hq => (HOAL.out q hq).1)
            obtain ⟨n2, hn2⟩ : ∃ n2, n2 = (R.take (m + 1) ++ [k]).length := ⟨_, rfl⟩
            obtain ⟨A2, c2', hvb, _⟩ := hob.form
            rw [← hn2] at hvb
            subst hvb
            have HN2 := Lib.hid (show n2 ≤ k + 1 by rw [hn2, List.length_append]; have := HN1.out; have := HN1E.out; simp only [List.length_cons, List.length_nil]; omega)
            have HOBL := Lib.hid hob.lt
            have HOB := Lib.hid hob
            have HBB := Lib.hid hbb
            have HN2E := Lib.hid hn2
            have HO5 := HO2.out.keep (HBX.out.trans (hbb.mono HBX.out.size))
            clear hob hgb hbb hn2
            rcases HO5.addr with ⟨hA', hk0, hc0', _⟩ | ⟨g9, hA', _, hg⟩
            · exfalso; omega
            · cases hA'
              have HG := Lib.hid hg
              clear hg
              by_cases hcm : c' = (m + 1)
              · subst hcm
                have HSC := Lib.hid (show SrcN wb (Value.slice (some ⟨g, 0, none⟩) 0 0) (R.drop (m + 1)) from .inr ⟨⟨g, 0, none⟩, _, _, rfl, by rw [List.length_drop, HLR.out]; omega, fun j y hy => by
                    have h1 := (List.getElem?_eq_some_iff.1 hy).1
                    rw [List.length_drop, HLR.out] at h1
                    omega⟩)
                go_wp2_with (at_builtin; refine Stop.out ?_)
                refine Stop.mk ?_
                refine wpList_append_N (w').heap.size rfl (.tmp 43) (.tmp 46) 202 rfl i3 (.int .i64 0) Tryz.underlying202 HI3.out HZ3.out HS3.out HB3.out rfl (.slice A2 n2 c2') (Value.slice (some ⟨g, 0, none⟩) 0 0) rfl rfl HOB.out HSC.out ?f1 ?f2 ?_
                case f1 => have := HN2.out; have := HN2E.out; have := HLR.out; simp only [List.length_drop]; omega
                case f2 => exact HBB.out.size
                intro vc wc hoc hgc
                have hbc := HBB.out.grown hgc HBB.out.size (fun q hq => (HOBL.out q hq).1)
                have hoc' := OwnN.base hoc (show w.heap.size ≤ (w').heap.size from HSZ.out)
                rw [List.append_assoc] at hoc'
                have HOC := Lib.hid hoc'
                have HBC := Lib.hid (below_trans HB2.out (below_trans HBX.out hbc))
                clear hoc hgc hbc hoc'
                go_wp2_with fail
                go_roundw
                case rel => exact ⟨k + 1, _, by omega, by go_num, HOC.out, HRK'.out, HBC.out⟩
                case measure => simp [intOf]; omega
              · have hcm' : ¬ (m + 1) = c' := fun h => hcm h.symm
                have HSC := Lib.hid (show SrcN wb (Value.slice (some ⟨g, (m + 1), none⟩) (k - (m + 1)) (c' - (m + 1))) (R.drop (m + 1)) from .inr ⟨⟨g, (m + 1), none⟩, _, _, rfl, by rw [List.length_drop, HLR.out], fun j y hy => by
                    have e : (⟨g, (m + 1), none⟩ : Addr).add j = ⟨g, (m + 1) + j, none⟩ := by
                      simp only [Addr.add]
                      split
                      · rename_i e; subst e; rfl
                      · rfl
                    rw [e]
                    exact HG.out _ y (by rw [List.getElem?_drop] at hy; exact hy)⟩)
                go_wp2_with (at_builtin; refine Stop.out ?_)
                refine Stop.mk ?_
                refine wpList_append_N (w').heap.size rfl (.tmp 43) (.tmp 46) 202 rfl i3 (.int .i64 0) Tryz.underlying202 HI3.out HZ3.out HS3.out HB3.out rfl (.slice A2 n2 c2') (Value.slice (some ⟨g, (m + 1), none⟩) (k - (m + 1)) (c' - (m + 1))) rfl rfl HOB.out HSC.out ?g1 ?g2 ?_
                case g1 => have := HN2.out; have := HN2E.out; have := HLR.out; simp only [List.length_drop]; omega
                case g2 => exact HBB.out.size
                intro vc wc hoc hgc
                have hbc := HBB.out.grown hgc HBB.out.size (fun q hq => (HOBL.out q hq).1)
                have hoc' := OwnN.base hoc (show w.heap.size ≤ (w').heap.size from HSZ.out)
                rw [List.append_assoc] at hoc'
                have HOC := Lib.hid hoc'
                have HBC := Lib.hid (below_trans HB2.out (below_trans HBX.out hbc))
                clear hoc hgc hbc hoc'
                go_wp2_with fail
                go_roundw
                case rel => exact ⟨k + 1, _, by omega, by go_num, HOC.out, HRK'.out, HBC.out⟩
                case measure => simp [intOf]; omega
    · have hkn : k = n := by omega
      subst hkn
      have HO := Lib.hid ho
      have HRK := Lib.hid hrk
      have HBL := Lib.hid hbl
      obtain ⟨A', c', hu, hle⟩ := ho.form
      subst hu
      clear ho hrk hbl hlt hle
      go_wp2_with fail
      go_ret
      exact ⟨_, R, rfl, HO.out, HRK.out, HBL.out⟩
/-- The elements in order. -/
def SortedPost (ok : Nat → Prop) (l : List V) (w : World) (e : Ending) (w' : World) : Prop := ∃ (A' : Option Addr) (c' : Nat) (g : Nat → List Value) (L : List V), e = .returned (.slice A' L.length c') ∧ L.length ≤ c' ∧ RowAt w' (fun b => w.heap.size ≤ b ∨ (ok b ∧ b < w.heap.size)) 6 A' L.length g ∧ (∀ (i : Nat) (v : V), L[i]? = some v → Vr w' (fun b => w.heap.size ≤ b ∨ (ok b ∧ b < w.heap.size)) v (g i)) ∧ SortedL l L ∧ Below w.heap.size w w'
set_option maxHeartbeats 4000000 in
theorem sorted_any (l : List V) (n : Nat) (hn : l.length = n) (ok : Nat → Prop) (A : Option Addr) (c : Nat) (f : Nat → List Value) (w : World) (wl : ∀ v, v ∈ l → WF v) (r : RowAt w ok 6 A n f) (e : ∀ (i : Nat) (v : V), l[i]? = some v → Vr w ok v (f i)) (bn : n ≤ 1000000) :
    Calls Tryz.prog 132 #[.slice A n c, .slice A n c] w (SortedPost ok l w) := by
  have HRK := Lib.hid (ranks_any l n hn ok A c f w wl r e bn)
  have HN := Lib.hid hn
  have HE := Lib.hid (fun (i : Nat) (v : V) (hv : l[i]? = some v) => (e i v hv).bound)
  have HR := Lib.hid r
  obtain ⟨i0, hi, hzz⟩ := Option.map_eq_some_iff.1 info26
  simp only [Prod.mk.injEq] at hzz
  obtain ⟨hz, hsz, hby⟩ := hzz
  have HI := Lib.hid hi
  have HZ := Lib.hid hz
  have HS := Lib.hid hsz
  have HB := Lib.hid hby
  clear hi hz hsz hby hn e r
  go_enter Tryz.func132, Tryz.ntmps132
  go_wp2_with fail
  refine HRK.out.mono ?_
  rintro e' w1 ⟨u, R, rfl, hoR, hrk, hb1⟩
  obtain ⟨AR, cR, hu, _⟩ := hoR.form
  rw [hrk.1] at hu
  subst hu
  have HB1 := Lib.hid hb1
  have HOR := Lib.hid hoR
  have HRk := Lib.hid hrk
  clear hoR hrk hb1
  go_wp2_with fail
  go_loopw [5, 11] (fun o i wr => ∃ k : Nat, k ≤ n ∧ i = .int .i64 k ∧ Own kV 26 wr w1.heap.size (fun b => ok b ∧ b < w.heap.size) o ((R.take k).map fun j => l.getD j zeroV0) ∧ Below w1.heap.size w1 wr) (fun o i _ => n - (intOf i).toNat)
  case atStart => exact ⟨0, Nat.zero_le _, rfl, Own.nil _ _ _ _ _, Below.refl _ _⟩
  case round =>
    obtain ⟨k, hk, rfl, ho, hbl⟩ := hrel
    by_cases hlt : k < n
    · obtain ⟨j, hj⟩ := at_lt (l := R) (p := k) (by rw [HRk.out.1]; exact hlt)
      have hjn := HRk.out.2.2.1 j (List.mem_of_getElem? hj)
      obtain ⟨v, hv⟩ := at_lt (l := l) (p := j) (by rw [HN.out]; exact hjn)
      obtain ⟨ad, hA, _, hc0⟩ := HR.out (by omega)
      subst hA
      have hbw := below_trans HB1.out hbl
      have hV := (HE.out j v hv).keep hbw
      have hc := fun q u hu => cell_kept hbw (hc0 j q u hjn hu)
      obtain ⟨c0, c1, cs, C3, C4, C5, x3, y3, x4, y4, x5, y5, hfk⟩ : ∃ (c0 c1 : Int) (cs : ByteArray) (C3 C4 C5 : Option Addr) (x3 y3 x4 y4 x5 y5 : Nat), f j = [.int .i64 c0, .int .i64 c1, .string cs, .slice C3 x3 y3, .slice C4 x4 y4, .slice C5 x5 y5] := by
        generalize f j = fk at hV
        cases hV
        exact ⟨_, _, _, _, _, _, _, _, _, _, _, _, rfl⟩
      rw [hfk] at hV hc
      obtain ⟨s0, s1, s2, s3, s4, s5⟩ := cells6 hc
      obtain ⟨gr, hAR, hgr⟩ : ∃ g, AR = some ⟨g, 0, none⟩ ∧ wr.cell? ⟨g, k, none⟩ = some (.int .i64 (j : Int)) := by
        rcases HOR.out.addr with ⟨_, h2, _, _⟩ | ⟨g, hA', _, hg⟩
        · exfalso; omega
        · exact ⟨g, hA', cell_kept hbl (hg k j hj)⟩
      subst hAR
      obtain ⟨A1, cc, hu, hle⟩ := ho.form
      rw [show ((R.take k).map fun j => l.getD j zeroV0).length = k by rw [List.length_map, List.length_take, HRk.out.1]; omega] at hu hle
      subst hu
      have hnext : (R.take (k + 1)).map (fun j => l.getD j zeroV0) = (R.take k).map (fun j => l.getD j zeroV0) ++ [v] := by
        rw [List.take_add_one, hj]
        simp [List.getD_eq_getElem?_getD, hv]
      have hown0 := ho.lt
      have HOB := Lib.hid (show ∀ b, ok b ∧ b < w.heap.size → (ok b ∧ b < w.heap.size) ∧ some b ≠ (Value.slice A1 k cc).ownBlock from fun b hb => ⟨hb, fun he => by have := (hown0 b he.symm).1; have := HB1.out.size; have := hb.2; omega⟩)
      obtain ⟨W3, hW3⟩ : ∃ W3, W3 = wr.alloc (.cells #[.int .i64 c0, .int .i64 c1, .string cs, .slice C3 x3 y3, .slice C4 x4 y4, .slice C5 x5 y5] 26) := ⟨_, rfl⟩
      have hb3 : Below wr.heap.size wr W3 := by rw [hW3]; exact (Below.refl _ _).alloc (Nat.le_refl _) _
      have hc3 : W3.heap[wr.heap.size]? = some (.cells #[.int .i64 c0, .int .i64 c1, .string cs, .slice C3 x3 y3, .slice C4 x4 y4, .slice C5 x5 y5] 26) := by rw [hW3]; exact heap_alloc_new wr _
      have HC3 := Lib.hid hc3
      have HO3 := Lib.hid (ho.keep hb3)
      have HV3 := Lib.hid (hV.keep hb3)
      have HBX := Lib.hid (below_trans hbl hb3)
      have HW3 := Lib.hid hW3
      have HNX := Lib.hid hnext
      have HLT := Lib.hid hown0
      have q0 : (0 : Int) ≤ (k : Int) := Int.natCast_nonneg _
      have q1 : (k : Int) < (n : Int) := by omega
      have q2 : (0 : Int) ≤ (j : Int) := Int.natCast_nonneg _
      have q3 : (j : Int) < (n : Int) := by omega
      clear hc0 hbw hV hc hfk hj hv hbl ho hle hnext hown0 hW3 hb3 hc3
      go_wp2_with (at_builtin; refine Stop.out ?_)
      refine Stop.mk ?_
      rw [← HW3.out]
      refine wpList_append_Own (ok := fun b => ok b ∧ b < w.heap.size) kV 26 w1.heap.size rfl (.tmp 15) (.tmp 20) 23 rfl i0 (.agg #[.int .i64 0, .int .i64 0, .string ⟨#[]⟩, .slice none 0 0, .slice none 0 0, .slice none 0 0]) 104 Tryz.underlying23 HI.out HZ.out HS.out HB.out rfl (by decide) (.slice A1 k cc) _ rfl HO3.out ⟨wr.heap.size, 0, none⟩ 1 [.int .i64 c0, .int .i64 c1, .string cs, .slice C3 x3 y3, .slice C4 x4 y4, .slice C5 x5 y5] v rfl (cells_six HC3.out) ?c2 ?c3 ?c4 HBX.out.size ?_
      case c2 => exact HV3.out.mono HOB.out
      case c3 => rw [List.length_map, List.length_take]; simp only [maxLen]; omega
      case c4 => rw [List.length_map, List.length_take]; omega
      intro v4 w4 hown4 hgr4 _
      have hb4 := HBX.out.grown hgr4 HBX.out.size (fun b h => (HLT.out b h).1)
      rw [← HNX.out] at hown4
      obtain ⟨A3, c3, hv3, hle3⟩ := hown4.form
      rw [show ((R.take (k + 1)).map fun j => l.getD j zeroV0).length = k + 1 by rw [List.length_map, List.length_take, HRk.out.1]; omega] at hv3
      subst hv3
      have HO4 := Lib.hid hown4
      have HB4 := Lib.hid hb4
      clear hown4 hgr4 hb4 hle3
      go_wp2_with fail
      go_roundw
      case rel => exact ⟨k + 1, by omega, by go_num, HO4.out, HB4.out⟩
      case measure => simp [intOf]; omega
    · have hkn : k = n := by omega
      subst hkn
      obtain ⟨A1, cc, hu, hle⟩ := ho.form
      subst hu
      have HO := Lib.hid ho
      have HBL := Lib.hid hbl
      have HLE := Lib.hid hle
      have HRN := Lib.hid (show R.take k = R from List.take_of_length_le (by rw [HRk.out.1]; exact Nat.le_refl _))
      clear ho hbl hle hlt
      go_wp2_with fail
      go_ret
      obtain ⟨g, hr, he⟩ := HO.out.reads (ok' := fun b => w.heap.size ≤ b ∨ (ok b ∧ b < w.heap.size)) (fun b h => .inr h) (fun b h _ => .inl (Nat.le_trans HB1.out.size h)) (by decide)
      refine ⟨A1, cc, g, _, rfl, HLE.out, hr, he, ?_, below_trans HB1.out HBL.out⟩
      rw [HRN.out]
      have := HRk.out
      rw [← HN.out] at this
      exact rk_sorted this
end Go.Proofs.YtpamlgdcnmcedaaGreatDoor

set_option linter.unusedVariables false
set_option linter.unusedSimpArgs false
set_option maxRecDepth 100000
namespace Go.Proofs.YtpamlgdcnmcedaaGreatDoor
open Go Go.RowKit
/-- A value and how it ended. -/
def SpecPost (ok : Nat → Prop) (T : V → Int → Prop) (w : World) (e : Ending) (w' : World) : Prop :=
  ∃ (d : V) (a0 a1 : Int) (s : ByteArray) (S3 S4 S5 : Option Addr) (n3 m3 n4 m4 n5 m5 : Nat) (code : Int), e = .returned (.tuple #[.agg #[.int .i64 a0, .int .i64 a1, .string s, .slice S3 n3 m3, .slice S4 n4 m4, .slice S5 n5 m5], .int .i64 code]) ∧
    Vr w' (fun b => w.heap.size ≤ b ∨ (ok b ∧ b < w.heap.size)) d [.int .i64 a0, .int .i64 a1, .string s, .slice S3 n3 m3, .slice S4 n4 m4, .slice S5 n5 m5] ∧ T d code ∧ Below w.heap.size w w'
/-- What the reference says of min (max). -/
def MinS (mx : Bool) (v d : V) (code : Int) : Prop := (code = 1 ∧ v.kind ≠ 5 ∧ d = zeroV0) ∨ (code = 0 ∧ v.kind = 5 ∧ ((v.list = [] ∧ d = zeroV0) ∨ ∃ L, SortedL v.list L ∧ L[if mx then L.length - 1 else 0]? = some d))
theorem set6 {w wa : World} {R : Nat} {d : V} {ok ok' : Nat → Prop} {rs : List Value} (u0 u1 u2 u3 u4 u5 : Value) (h : Vr wa ok d rs) (hr : ∀ b, ok b → b ≠ R ∧ ok' b) :
    Vr ((((((wa.setCell ⟨R, 0, none⟩ u0).setCell ⟨R, 1, none⟩ u1).setCell ⟨R, 2, none⟩ u2).setCell ⟨R, 3, none⟩ u3).setCell ⟨R, 4, none⟩ u4).setCell ⟨R, 5, none⟩ u5) ok' d rs :=
  (h.move fun b hb => (by
    have hne := (hr b hb).1
    have q : ∀ (W : World) (i : Nat) (u : Value), (W.setCell ⟨R, i, none⟩ u).heap[b]? = W.heap[b]? := fun W i u => Below.heap_setCell _ _ _ _ hne
    rw [q, q, q, q, q, q])).mono fun b hb => (hr b hb).2
theorem below6 {w wa : World} {R : Nat} (u0 u1 u2 u3 u4 u5 : Value) (h : Below w.heap.size w wa) (hR : w.heap.size ≤ R) :
    Below w.heap.size w ((((((wa.setCell ⟨R, 0, none⟩ u0).setCell ⟨R, 1, none⟩ u1).setCell ⟨R, 2, none⟩ u2).setCell ⟨R, 3, none⟩ u3).setCell ⟨R, 4, none⟩ u4).setCell ⟨R, 5, none⟩ u5) :=
  (((((h.setCell hR _).setCell hR _).setCell hR _).setCell hR _).setCell hR _).setCell hR _
theorem sorted_len {l L : List V} (h : SortedL l L) : L.length = l.length := h.1
set_option maxHeartbeats 4000000 in
theorem specArray_min (v : V) (ok : Nat → Prop) (cs : List Value) (w : World) (hv : Vr w ok v cs) (wv : WF v) (sm : v.list.length ≤ 1000000) : Calls Tryz.prog 79 #[.string { data := #[109, 105, 110] }, .agg cs.toArray] w (SpecPost ok (MinS false v) w) := by
  have HV := Lib.hid hv
  have HW := Lib.hid wv
  have HSM := Lib.hid sm
  obtain ⟨k, h, t, l, ks, vs, A1, c1, A2, c2, A3, c3, f, g, ht, h1, h2, h3, b1, b2, b3, hk', hh', hs', r1, e1, r2, r3, e3⟩ := hv
  obtain ⟨W2, hW2⟩ : ∃ W2, W2 = (w.alloc (.cells #[.int .i64 k, .int .i64 h, .string t, .slice A1 l.length c1, .slice A2 ks.length c2, .slice A3 vs.length c3] 26)).alloc (.cells #[.int .i64 0, .int .i64 0, .string ⟨#[]⟩, .slice none 0 0, .slice none 0 0, .slice none 0 0] 26) := ⟨_, rfl⟩
  have hB : Below w.heap.size w W2 := by rw [hW2]; exact ((Below.refl _ _).alloc (Nat.le_refl _) _).alloc (by simp) _
  have hS2 : W2.heap.size = w.heap.size + 2 := by rw [hW2]; simp
  have hC2 : W2.heap[w.heap.size]? = some (.cells #[.int .i64 k, .int .i64 h, .string t, .slice A1 l.length c1, .slice A2 ks.length c2, .slice A3 vs.length c3] 26) := by
    rw [hW2, heap_alloc_old _ _ (by simp)]
    exact heap_alloc_new w _
  have hR2 : W2.heap[w.heap.size + 1]? = some (.cells #[.int .i64 0, .int .i64 0, .string ⟨#[]⟩, .slice none 0 0, .slice none 0 0, .slice none 0 0] 26) := by
    rw [hW2]
    have := heap_alloc_new (w.alloc (.cells #[.int .i64 k, .int .i64 h, .string t, .slice A1 l.length c1, .slice A2 ks.length c2, .slice A3 vs.length c3] 26)) (.cells #[.int .i64 0, .int .i64 0, .string ⟨#[]⟩, .slice none 0 0, .slice none 0 0, .slice none 0 0] 26)
    rw [show (w.alloc (.cells #[.int .i64 k, .int .i64 h, .string t, .slice A1 l.length c1, .slice A2 ks.length c2, .slice A3 vs.length c3] 26)).heap.size = w.heap.size + 1 from by simp] at this
    exact this
  have HFAR := Lib.hid (show ∀ W, Below W2.heap.size W2 W → W.heap[w.heap.size]? = some (.cells #[.int .i64 k, .int .i64 h, .string t, .slice A1 l.length c1, .slice A2 ks.length c2, .slice A3 vs.length c3] 26) ∧ W.heap[w.heap.size + 1]? = some (.cells #[.int .i64 0, .int .i64 0, .string ⟨#[]⟩, .slice none 0 0, .slice none 0 0, .slice none 0 0] 26) from fun W hb => ⟨(hb.block _ (by omega)).trans hC2, (hb.block _ (by omega)).trans hR2⟩)
  have HW2 := Lib.hid hW2
  have HB := Lib.hid hB
  have HS2 := Lib.hid hS2
  have hbR : w.heap.size ≤ w.heap.size + 1 := Nat.le_succ _
  by_cases h5 : k = 5
  · subst h5
    obtain ⟨n, hn⟩ : ∃ n, n = l.length := ⟨_, rfl⟩
    have wl : ∀ u, u ∈ l → WF u := by
      obtain ⟨_, _, _, _, _, _, _, _, _, _, _, _, _, _, _, wl, _⟩ := wv
      exact wl
    have hrow : RowAt W2 (fun b => ok b ∧ b < w.heap.size) 6 A1 n f := hn ▸ ((r1.bound fun i hi => by have := (e1 i _ (List.getElem?_eq_getElem hi)).len; omega).move fun b hb => hB.block b hb.2)
    have HSO := Lib.hid (sorted_any l n hn.symm (fun b => ok b ∧ b < w.heap.size) A1 c1 f W2 wl hrow (fun i u hu => (e1 i u hu).bound.move fun b hb => hB.block b hb.2) (by rw [hn]; exact sm))
    have HN := Lib.hid hn
    rw [← hn] at HFAR HW2 HV hW2 ⊢
    clear r1 e1 r2 r3 e3 hs' hW2 hB hS2 hC2 hR2 wl hrow hn sm wv
    go_enter Tryz.func79, Tryz.ntmps79
    go_wp2_with fail
    rw [← HW2.out]
    refine HSO.out.mono ?_
    rintro e' w4 ⟨A', c', gg, L, rfl, hle, hrow, hel, hso, hb4⟩
    have hr4 := (HFAR.out w4 hb4).2
    have y0 : w4.cell? ⟨w.heap.size + 1, 0, none⟩ = some (.int .i64 0) := by simp [World.cell?, hr4]
    have y1 : w4.cell? ⟨w.heap.size + 1, 1, none⟩ = some (.int .i64 0) := by simp [World.cell?, hr4]
    have y2 : w4.cell? ⟨w.heap.size + 1, 2, none⟩ = some (.string ⟨#[]⟩) := by simp [World.cell?, hr4]
    have y3 : w4.cell? ⟨w.heap.size + 1, 3, none⟩ = some (.slice none 0 0) := by simp [World.cell?, hr4]
    have y4 : w4.cell? ⟨w.heap.size + 1, 4, none⟩ = some (.slice none 0 0) := by simp [World.cell?, hr4]
    have y5 : w4.cell? ⟨w.heap.size + 1, 5, none⟩ = some (.slice none 0 0) := by simp [World.cell?, hr4]
    have yf : ∀ i, w4.frozen? ⟨w.heap.size + 1, i, none⟩ = false := fun i => by simp [World.frozen?, hr4]
    have HB4 := Lib.hid (below_trans HB.out hb4)
    have HB24 := Lib.hid hb4
    have HSL := Lib.hid hso
    clear hb4 hr4
    by_cases hL : L = []
    · subst hL
      clear hrow hel hle hso
      go_wp2_with fail
      refine bodyPost_ret (v := .tuple #[.agg #[.int .i64 0, .int .i64 0, .string ⟨#[]⟩, .slice none 0 0, .slice none 0 0, .slice none 0 0], .int .i64 0]) (by simp [results, Tryz.results79, go_sem, y0, y1, y2, y3, y4, y5]) rfl ?_
      refine ⟨zeroV0, 0, 0, ⟨#[]⟩, none, none, none, 0, 0, 0, 0, 0, 0, 0, rfl, vr_plain' 0 0 (by decide) (by decide), .inr ⟨rfl, rfl, .inl ⟨?_, rfl⟩⟩, below6 _ _ _ _ _ _ HB4.out hbR⟩
      exact List.eq_nil_of_length_eq_zero (sorted_len HSL.out).symm
    · obtain ⟨d, hd⟩ := at_lt (l := L) (p := 0) (by have := List.length_pos_iff.2 hL; omega)
      obtain ⟨ad, hA, _, hc0⟩ := hrow (List.length_pos_iff.2 hL)
      subst hA
      have hV := hel _ d hd
      obtain ⟨a0, a1, s, S3, S4, S5, n3, m3, n4, m4, n5, m5, hfj⟩ : ∃ (a0 a1 : Int) (s : ByteArray) (S3 S4 S5 : Option Addr) (n3 m3 n4 m4 n5 m5 : Nat), gg 0 = [.int .i64 a0, .int .i64 a1, .string s, .slice S3 n3 m3, .slice S4 n4 m4, .slice S5 n5 m5] := by
        generalize gg 0 = fk at hV
        cases hV
        exact ⟨_, _, _, _, _, _, _, _, _, _, _, _, rfl⟩
      rw [hfj] at hV
      have hcc := fun (j : Nat) (u : Value) (hu : [.int .i64 a0, .int .i64 a1, .string s, .slice S3 n3 m3, .slice S4 n4 m4, .slice S5 n5 m5][j]? = some u) => hc0 0 j u (by have := List.length_pos_iff.2 hL; omega) (by rw [hfj]; exact hu)
      obtain ⟨x0, x1, x2, x3, x4, x5⟩ := cells6 hcc
      have hpos := List.length_pos_iff.2 hL
      obtain ⟨p, hp⟩ : ∃ p, L.length = p + 1 := ⟨L.length - 1, by omega⟩
      have HV6 := Lib.hid hV
      have HD := Lib.hid hd
      have HP := Lib.hid hp
      rw [show ad.add (0 * 6) = ad by simp [Addr.add]] at x0 x1 x2 x3 x4 x5
      rw [hp] at hle ⊢
      have hsm : l.length ≤ 1000000 := HSM.out
      have i5 : p ≤ 1000000 := by have := sorted_len HSL.out; omega
      have i1 : ((p + 1 : Nat) : Int) ≠ 0 := by omega
      have i2 : (p : Int) < ((p + 1 : Nat) : Int) := by omega
      have i3 : (0 : Int) ≤ (p : Int) := Int.natCast_nonneg _
      have i4 : (0 : Int) < ((p + 1 : Nat) : Int) := by omega
      clear hV hcc hc0 hrow hel hd hso hfj hL hpos hp hsm
      go_wp2_with fail
      refine bodyPost_ret (v := .tuple #[.agg #[.int .i64 a0, .int .i64 a1, .string s, .slice S3 n3 m3, .slice S4 n4 m4, .slice S5 n5 m5], .int .i64 0]) (by simp [results, Tryz.results79, go_sem, y0, y1, y2, y3, y4, y5]) rfl ?_
      refine ⟨d, a0, a1, s, S3, S4, S5, n3, m3, n4, m4, n5, m5, 0, rfl, set6 (w := w) _ _ _ _ _ _ HV6.out (fun b hb => ?_), .inr ⟨rfl, rfl, .inr ⟨L, HSL.out, by simpa using HD.out⟩⟩, below6 _ _ _ _ _ _ HB4.out hbR⟩
      have hs := HS2.out
      rcases hb with hb | ⟨hb, _⟩
      · exact ⟨by omega, .inl (by omega)⟩
      · exact ⟨by omega, .inr hb⟩
  · have hz : Vr w (fun b => w.heap.size ≤ b ∨ (ok b ∧ b < w.heap.size)) zeroV0 [.int .i64 0, .int .i64 0, .string ⟨#[]⟩, .slice none 0 0, .slice none 0 0, .slice none 0 0] := vr_plain' 0 0 (by decide) (by decide)
    have wk : 0 ≤ k ∧ k ≤ 6 := by
      obtain ⟨_, _, _, _, _, _, hk, _, _, _, _, _, _, _, _, _, _⟩ := wv
      exact hk
    have hr4 := (HFAR.out W2 (Below.refl _ _)).2
    have y0 : W2.cell? ⟨w.heap.size + 1, 0, none⟩ = some (.int .i64 0) := by simp [World.cell?, hr4]
    have y1 : W2.cell? ⟨w.heap.size + 1, 1, none⟩ = some (.int .i64 0) := by simp [World.cell?, hr4]
    have y2 : W2.cell? ⟨w.heap.size + 1, 2, none⟩ = some (.string ⟨#[]⟩) := by simp [World.cell?, hr4]
    have y3 : W2.cell? ⟨w.heap.size + 1, 3, none⟩ = some (.slice none 0 0) := by simp [World.cell?, hr4]
    have y4 : W2.cell? ⟨w.heap.size + 1, 4, none⟩ = some (.slice none 0 0) := by simp [World.cell?, hr4]
    have y5 : W2.cell? ⟨w.heap.size + 1, 5, none⟩ = some (.slice none 0 0) := by simp [World.cell?, hr4]
    have yf : ∀ i, W2.frozen? ⟨w.heap.size + 1, i, none⟩ = false := fun i => by simp [World.frozen?, hr4]
    clear r1 e1 r2 r3 e3 hs' hW2 hB hS2 hC2 hR2 sm wv hr4
    have hkk : k = 0 ∨ k = 1 ∨ k = 2 ∨ k = 3 ∨ k = 4 ∨ k = 6 := by omega
    clear wk
    rcases hkk with rfl | rfl | rfl | rfl | rfl | rfl
    all_goals
      clear h5
      go_enter Tryz.func79, Tryz.ntmps79
      go_wp2_with fail
      rw [← HW2.out]
      refine bodyPost_ret (v := .tuple #[.agg #[.int .i64 0, .int .i64 0, .string ⟨#[]⟩, .slice none 0 0, .slice none 0 0, .slice none 0 0], .int .i64 1]) (by simp [results, Tryz.results79, go_sem, y0, y1, y2, y3, y4, y5]) rfl ?_
      exact ⟨zeroV0, 0, 0, ⟨#[]⟩, none, none, none, 0, 0, 0, 0, 0, 0, 1, rfl, vr_plain' 0 0 (by decide) (by decide), .inl ⟨rfl, by simp [V.kind], rfl⟩, HB.out⟩

set_option maxHeartbeats 4000000 in
theorem specAlone_min (v : V) (ok : Nat → Prop) (cs : List Value) (w : World) (hv : Vr w ok v cs) (wv : WF v) (sm : v.list.length ≤ 1000000) : Calls Tryz.prog 43 #[.string { data := #[109, 105, 110] }, .agg cs.toArray] w (SpecPost ok (MinS false v) w) := by
  have HV := Lib.hid hv
  have HW := Lib.hid wv
  have HSM := Lib.hid sm
  obtain ⟨k, h, t, l, ks, vs, A1, c1, A2, c2, A3, c3, f, g, ht, h1, h2, h3, b1, b2, b3, hk', hh', hs', r1, e1, r2, r3, e3⟩ := hv
  obtain ⟨W2, hW2⟩ : ∃ W2, W2 = (w.alloc (.cells #[.int .i64 k, .int .i64 h, .string t, .slice A1 l.length c1, .slice A2 ks.length c2, .slice A3 vs.length c3] 26)).alloc (.cells #[.int .i64 0, .int .i64 0, .string ⟨#[]⟩, .slice none 0 0, .slice none 0 0, .slice none 0 0] 26) := ⟨_, rfl⟩
  have hB : Below w.heap.size w W2 := by rw [hW2]; exact ((Below.refl _ _).alloc (Nat.le_refl _) _).alloc (by simp) _
  have hS2 : W2.heap.size = w.heap.size + 2 := by rw [hW2]; simp
  have hC2 : W2.heap[w.heap.size]? = some (.cells #[.int .i64 k, .int .i64 h, .string t, .slice A1 l.length c1, .slice A2 ks.length c2, .slice A3 vs.length c3] 26) := by
    rw [hW2, heap_alloc_old _ _ (by simp)]
    exact heap_alloc_new w _
  have hR2 : W2.heap[w.heap.size + 1]? = some (.cells #[.int .i64 0, .int .i64 0, .string ⟨#[]⟩, .slice none 0 0, .slice none 0 0, .slice none 0 0] 26) := by
    rw [hW2]
    have := heap_alloc_new (w.alloc (.cells #[.int .i64 k, .int .i64 h, .string t, .slice A1 l.length c1, .slice A2 ks.length c2, .slice A3 vs.length c3] 26)) (.cells #[.int .i64 0, .int .i64 0, .string ⟨#[]⟩, .slice none 0 0, .slice none 0 0, .slice none 0 0] 26)
    rw [show (w.alloc (.cells #[.int .i64 k, .int .i64 h, .string t, .slice A1 l.length c1, .slice A2 ks.length c2, .slice A3 vs.length c3] 26)).heap.size = w.heap.size + 1 from by simp] at this
    exact this
  have HFAR := Lib.hid (show ∀ W, Below W2.heap.size W2 W → W.heap[w.heap.size]? = some (.cells #[.int .i64 k, .int .i64 h, .string t, .slice A1 l.length c1, .slice A2 ks.length c2, .slice A3 vs.length c3] 26) ∧ W.heap[w.heap.size + 1]? = some (.cells #[.int .i64 0, .int .i64 0, .string ⟨#[]⟩, .slice none 0 0, .slice none 0 0, .slice none 0 0] 26) from fun W hb => ⟨(hb.block _ (by omega)).trans hC2, (hb.block _ (by omega)).trans hR2⟩)
  have HW2 := Lib.hid hW2
  have HB := Lib.hid hB
  have HS2 := Lib.hid hS2
  have hbR : w.heap.size ≤ w.heap.size + 1 := Nat.le_succ _
  clear r1 e1 r2 r3 e3 hs' hW2 hB hS2 hC2 hR2 sm wv
  go_enter Tryz.func43, Tryz.ntmps43
  go_wp2_with fail
  rw [← HW2.out]
  refine (specArray_min (V.mk k h t l ks vs) (fun b => ok b ∧ b < w.heap.size) _ W2 (HV.out.bound.move fun b hb => HB.out.block b hb.2) HW.out HSM.out).mono ?_
  rintro e' w4 ⟨d, a0, a1, s, S3, S4, S5, n3, m3, n4, m4, n5, m5, code, rfl, hvd, hTd, hb4⟩
  have HB24 := Lib.hid hb4
  have HSZ := Lib.hid (Nat.le_refl W2.heap.size)
  clear hb4
  have hr4 := (HFAR.out w4 HB24.out).2
  have y0 : w4.cell? ⟨w.heap.size + 1, 0, none⟩ = some (.int .i64 0) := by simp [World.cell?, hr4]
  have y1 : w4.cell? ⟨w.heap.size + 1, 1, none⟩ = some (.int .i64 0) := by simp [World.cell?, hr4]
  have y2 : w4.cell? ⟨w.heap.size + 1, 2, none⟩ = some (.string ⟨#[]⟩) := by simp [World.cell?, hr4]
  have y3 : w4.cell? ⟨w.heap.size + 1, 3, none⟩ = some (.slice none 0 0) := by simp [World.cell?, hr4]
  have y4 : w4.cell? ⟨w.heap.size + 1, 4, none⟩ = some (.slice none 0 0) := by simp [World.cell?, hr4]
  have y5 : w4.cell? ⟨w.heap.size + 1, 5, none⟩ = some (.slice none 0 0) := by simp [World.cell?, hr4]
  have yf : ∀ i, w4.frozen? ⟨w.heap.size + 1, i, none⟩ = false := fun i => by simp [World.frozen?, hr4]
  have HVD := Lib.hid hvd
  have HTD := Lib.hid hTd
  clear hr4 hvd hTd
  go_wp2_with fail
  refine bodyPost_ret (v := .tuple #[.agg #[.int .i64 a0, .int .i64 a1, .string s, .slice S3 n3 m3, .slice S4 n4 m4, .slice S5 n5 m5], .int .i64 code]) (by simp [results, Tryz.results43, go_sem, y0, y1, y2, y3, y4, y5]) rfl ?_
  refine ⟨d, a0, a1, s, S3, S4, S5, n3, m3, n4, m4, n5, m5, code, rfl, set6 (w := w) _ _ _ _ _ _ HVD.out (fun b hb => ?_), HTD.out, below6 _ _ _ _ _ _ (below_trans HB.out HB24.out) hbR⟩
  have hs := HS2.out
  have hsz := HSZ.out
  rcases hb with hb | ⟨⟨hb, hb2⟩, _⟩
  · exact ⟨by omega, .inl (by omega)⟩
  · exact ⟨by omega, .inr ⟨hb, hb2⟩⟩
set_option maxHeartbeats 4000000 in
theorem specCall_min (v : V) (ok : Nat → Prop) (cs : List Value) (w : World) (hv : Vr w ok v cs) (wv : WF v) (sm : v.list.length ≤ 1000000) : Calls Tryz.prog 12 #[.string { data := #[109, 105, 110] }, .agg cs.toArray, .slice none 0 0] w (SpecPost ok (MinS false v) w) := by
  have HV := Lib.hid hv
  have HW := Lib.hid wv
  have HSM := Lib.hid sm
  obtain ⟨k, h, t, l, ks, vs, A1, c1, A2, c2, A3, c3, f, g, ht, h1, h2, h3, b1, b2, b3, hk', hh', hs', r1, e1, r2, r3, e3⟩ := hv
  obtain ⟨W2, hW2⟩ : ∃ W2, W2 = (w.alloc (.cells #[.int .i64 k, .int .i64 h, .string t, .slice A1 l.length c1, .slice A2 ks.length c2, .slice A3 vs.length c3] 26)).alloc (.cells #[.int .i64 0, .int .i64 0, .string ⟨#[]⟩, .slice none 0 0, .slice none 0 0, .slice none 0 0] 26) := ⟨_, rfl⟩
  have hB : Below w.heap.size w W2 := by rw [hW2]; exact ((Below.refl _ _).alloc (Nat.le_refl _) _).alloc (by simp) _
  have hS2 : W2.heap.size = w.heap.size + 2 := by rw [hW2]; simp
  have hC2 : W2.heap[w.heap.size]? = some (.cells #[.int .i64 k, .int .i64 h, .string t, .slice A1 l.length c1, .slice A2 ks.length c2, .slice A3 vs.length c3] 26) := by
    rw [hW2, heap_alloc_old _ _ (by simp)]
    exact heap_alloc_new w _
  have hR2 : W2.heap[w.heap.size + 1]? = some (.cells #[.int .i64 0, .int .i64 0, .string ⟨#[]⟩, .slice none 0 0, .slice none 0 0, .slice none 0 0] 26) := by
    rw [hW2]
    have := heap_alloc_new (w.alloc (.cells #[.int .i64 k, .int .i64 h, .string t, .slice A1 l.length c1, .slice A2 ks.length c2, .slice A3 vs.length c3] 26)) (.cells #[.int .i64 0, .int .i64 0, .string ⟨#[]⟩, .slice none 0 0, .slice none 0 0, .slice none 0 0] 26)
    rw [show (w.alloc (.cells #[.int .i64 k, .int .i64 h, .string t, .slice A1 l.length c1, .slice A2 ks.length c2, .slice A3 vs.length c3] 26)).heap.size = w.heap.size + 1 from by simp] at this
    exact this
  have HFAR := Lib.hid (show ∀ W, Below W2.heap.size W2 W → W.heap[w.heap.size]? = some (.cells #[.int .i64 k, .int .i64 h, .string t, .slice A1 l.length c1, .slice A2 ks.length c2, .slice A3 vs.length c3] 26) ∧ W.heap[w.heap.size + 1]? = some (.cells #[.int .i64 0, .int .i64 0, .string ⟨#[]⟩, .slice none 0 0, .slice none 0 0, .slice none 0 0] 26) from fun W hb => ⟨(hb.block _ (by omega)).trans hC2, (hb.block _ (by omega)).trans hR2⟩)
  have HW2 := Lib.hid hW2
  have HB := Lib.hid hB
  have HS2 := Lib.hid hS2
  have hbR : w.heap.size ≤ w.heap.size + 1 := Nat.le_succ _
  clear r1 e1 r2 r3 e3 hs' hW2 hB hS2 hC2 hR2 sm wv
  go_enter Tryz.func12, Tryz.ntmps12
  go_wp2_with fail
  rw [← HW2.out]
  refine (vague_any (V.mk k h t l ks vs) ok _ W2 HW.out (HV.out.keep HB.out)).mono ?_
  rintro e' w5 ⟨rfl, hb5⟩
  have HB5 := Lib.hid hb5
  clear hb5
  go_wp2_with fail
  refine (array_any _ _ _ w5).mono ?_
  rintro e' w6 ⟨rfl, hb6⟩
  have HB6 := Lib.hid (below_trans HB5.out hb6)
  clear hb6
  go_wp2_with fail
  refine (vague_any (V.mk 5 0 ⟨#[]⟩ [] [] []) (fun _ => True) _ w6 (wf_list5 fun u hu => by cases hu) (vr_plain' 5 0 (by decide) (by decide))).mono ?_
  rintro e' w7 ⟨rfl, hb7⟩
  have HB7 := Lib.hid (below_trans HB6.out hb7)
  clear hb7
  have hr7 := (HFAR.out w7 HB7.out).1
  have z0 : w7.cell? ⟨w.heap.size, 0, none⟩ = some (.int .i64 k) := by simp [World.cell?, hr7]
  have z1 : w7.cell? ⟨w.heap.size, 1, none⟩ = some (.int .i64 h) := by simp [World.cell?, hr7]
  have z2 : w7.cell? ⟨w.heap.size, 2, none⟩ = some (.string t) := by simp [World.cell?, hr7]
  have z3 : w7.cell? ⟨w.heap.size, 3, none⟩ = some (.slice A1 l.length c1) := by simp [World.cell?, hr7]
  have z4 : w7.cell? ⟨w.heap.size, 4, none⟩ = some (.slice A2 ks.length c2) := by simp [World.cell?, hr7]
  have z5 : w7.cell? ⟨w.heap.size, 5, none⟩ = some (.slice A3 vs.length c3) := by simp [World.cell?, hr7]
  clear hr7
  go_wp2_with fail
  refine (specAlone_min (V.mk k h t l ks vs) (fun b => ok b ∧ b < w.heap.size) _ w7 (HV.out.bound.move fun b hb => (below_trans HB.out HB7.out).block b hb.2) HW.out HSM.out).mono ?_
  rintro e' w4 ⟨d, a0, a1, s, S3, S4, S5, n3, m3, n4, m4, n5, m5, code, rfl, hvd, hTd, hb4⟩
  have HB24 := Lib.hid (below_trans HB7.out hb4)
  have HSZ := Lib.hid HB7.out.size
  clear hb4 z0 z1 z2 z3 z4 z5
  have hr4 := (HFAR.out w4 HB24.out).2
  have y0 : w4.cell? ⟨w.heap.size + 1, 0, none⟩ = some (.int .i64 0) := by simp [World.cell?, hr4]
  have y1 : w4.cell? ⟨w.heap.size + 1, 1, none⟩ = some (.int .i64 0) := by simp [World.cell?, hr4]
  have y2 : w4.cell? ⟨w.heap.size + 1, 2, none⟩ = some (.string ⟨#[]⟩) := by simp [World.cell?, hr4]
  have y3 : w4.cell? ⟨w.heap.size + 1, 3, none⟩ = some (.slice none 0 0) := by simp [World.cell?, hr4]
  have y4 : w4.cell? ⟨w.heap.size + 1, 4, none⟩ = some (.slice none 0 0) := by simp [World.cell?, hr4]
  have y5 : w4.cell? ⟨w.heap.size + 1, 5, none⟩ = some (.slice none 0 0) := by simp [World.cell?, hr4]
  have yf : ∀ i, w4.frozen? ⟨w.heap.size + 1, i, none⟩ = false := fun i => by simp [World.frozen?, hr4]
  have HVD := Lib.hid hvd
  have HTD := Lib.hid hTd
  clear hr4 hvd hTd
  go_wp2_with fail
  refine bodyPost_ret (v := .tuple #[.agg #[.int .i64 a0, .int .i64 a1, .string s, .slice S3 n3 m3, .slice S4 n4 m4, .slice S5 n5 m5], .int .i64 code]) (by simp [results, Tryz.results12, go_sem, y0, y1, y2, y3, y4, y5]) rfl ?_
  refine ⟨d, a0, a1, s, S3, S4, S5, n3, m3, n4, m4, n5, m5, code, rfl, set6 (w := w) _ _ _ _ _ _ HVD.out (fun b hb => ?_), HTD.out, below6 _ _ _ _ _ _ (below_trans HB.out HB24.out) hbR⟩
  have hs := HS2.out
  have hsz := HSZ.out
  rcases hb with hb | ⟨⟨hb, hb2⟩, _⟩
  · exact ⟨by omega, .inl (by omega)⟩
  · exact ⟨by omega, .inr ⟨hb, hb2⟩⟩
set_option maxHeartbeats 4000000 in
theorem specArray_max (v : V) (ok : Nat → Prop) (cs : List Value) (w : World) (hv : Vr w ok v cs) (wv : WF v) (sm : v.list.length ≤ 1000000) : Calls Tryz.prog 79 #[.string { data := #[109, 97, 120] }, .agg cs.toArray] w (SpecPost ok (MinS true v) w) := by
  have HV := Lib.hid hv
  have HW := Lib.hid wv
  have HSM := Lib.hid sm
  obtain ⟨k, h, t, l, ks, vs, A1, c1, A2, c2, A3, c3, f, g, ht, h1, h2, h3, b1, b2, b3, hk', hh', hs', r1, e1, r2, r3, e3⟩ := hv
  obtain ⟨W2, hW2⟩ : ∃ W2, W2 = (w.alloc (.cells #[.int .i64 k, .int .i64 h, .string t, .slice A1 l.length c1, .slice A2 ks.length c2, .slice A3 vs.length c3] 26)).alloc (.cells #[.int .i64 0, .int .i64 0, .string ⟨#[]⟩, .slice none 0 0, .slice none 0 0, .slice none 0 0] 26) := ⟨_, rfl⟩
  have hB : Below w.heap.size w W2 := by rw [hW2]; exact ((Below.refl _ _).alloc (Nat.le_refl _) _).alloc (by simp) _
  have hS2 : W2.heap.size = w.heap.size + 2 := by rw [hW2]; simp
  have hC2 : W2.heap[w.heap.size]? = some (.cells #[.int .i64 k, .int .i64 h, .string t, .slice A1 l.length c1, .slice A2 ks.length c2, .slice A3 vs.length c3] 26) := by
    rw [hW2, heap_alloc_old _ _ (by simp)]
    exact heap_alloc_new w _
  have hR2 : W2.heap[w.heap.size + 1]? = some (.cells #[.int .i64 0, .int .i64 0, .string ⟨#[]⟩, .slice none 0 0, .slice none 0 0, .slice none 0 0] 26) := by
    rw [hW2]
    have := heap_alloc_new (w.alloc (.cells #[.int .i64 k, .int .i64 h, .string t, .slice A1 l.length c1, .slice A2 ks.length c2, .slice A3 vs.length c3] 26)) (.cells #[.int .i64 0, .int .i64 0, .string ⟨#[]⟩, .slice none 0 0, .slice none 0 0, .slice none 0 0] 26)
    rw [show (w.alloc (.cells #[.int .i64 k, .int .i64 h, .string t, .slice A1 l.length c1, .slice A2 ks.length c2, .slice A3 vs.length c3] 26)).heap.size = w.heap.size + 1 from by simp] at this
    exact this
  have HFAR := Lib.hid (show ∀ W, Below W2.heap.size W2 W → W.heap[w.heap.size]? = some (.cells #[.int .i64 k, .int .i64 h, .string t, .slice A1 l.length c1, .slice A2 ks.length c2, .slice A3 vs.length c3] 26) ∧ W.heap[w.heap.size + 1]? = some (.cells #[.int .i64 0, .int .i64 0, .string ⟨#[]⟩, .slice none 0 0, .slice none 0 0, .slice none 0 0] 26) from fun W hb => ⟨(hb.block _ (by omega)).trans hC2, (hb.block _ (by omega)).trans hR2⟩)
  have HW2 := Lib.hid hW2
  have HB := Lib.hid hB
  have HS2 := Lib.hid hS2
  have hbR : w.heap.size ≤ w.heap.size + 1 := Nat.le_succ _
  by_cases h5 : k = 5
  · subst h5
    obtain ⟨n, hn⟩ : ∃ n, n = l.length := ⟨_, rfl⟩
    have wl : ∀ u, u ∈ l → WF u := by
      obtain ⟨_, _, _, _, _, _, _, _, _, _, _, _, _, _, _, wl, _⟩ := wv
      exact wl
    have hrow : RowAt W2 (fun b => ok b ∧ b < w.heap.size) 6 A1 n f := hn ▸ ((r1.bound fun i hi => by have := (e1 i _ (List.getElem?_eq_getElem hi)).len; omega).move fun b hb => hB.block b hb.2)
    have HSO := Lib.hid (sorted_any l n hn.symm (fun b => ok b ∧ b < w.heap.size) A1 c1 f W2 wl hrow (fun i u hu => (e1 i u hu).bound.move fun b hb => hB.block b hb.2) (by rw [hn]; exact sm))
    have HN := Lib.hid hn
    rw [← hn] at HFAR HW2 HV hW2 ⊢
    clear r1 e1 r2 r3 e3 hs' hW2 hB hS2 hC2 hR2 wl hrow hn sm wv
    go_enter Tryz.func79, Tryz.ntmps79
    go_wp2_with fail
    rw [← HW2.out]
    refine HSO.out.mono ?_
    rintro e' w4 ⟨A', c', gg, L, rfl, hle, hrow, hel, hso, hb4⟩
    have hr4 := (HFAR.out w4 hb4).2
    have y0 : w4.cell? ⟨w.heap.size + 1, 0, none⟩ = some (.int .i64 0) := by simp [World.cell?, hr4]
    have y1 : w4.cell? ⟨w.heap.size + 1, 1, none⟩ = some (.int .i64 0) := by simp [World.cell?, hr4]
    have y2 : w4.cell? ⟨w.heap.size + 1, 2, none⟩ = some (.string ⟨#[]⟩) := by simp [World.cell?, hr4]
    have y3 : w4.cell? ⟨w.heap.size + 1, 3, none⟩ = some (.slice none 0 0) := by simp [World.cell?, hr4]
    have y4 : w4.cell? ⟨w.heap.size + 1, 4, none⟩ = some (.slice none 0 0) := by simp [World.cell?, hr4]
    have y5 : w4.cell? ⟨w.heap.size + 1, 5, none⟩ = some (.slice none 0 0) := by simp [World.cell?, hr4]
    have yf : ∀ i, w4.frozen? ⟨w.heap.size + 1, i, none⟩ = false := fun i => by simp [World.frozen?, hr4]
    have HB4 := Lib.hid (below_trans HB.out hb4)
    have HB24 := Lib.hid hb4
    have HSL := Lib.hid hso
    clear hb4 hr4
    by_cases hL : L = []
    · subst hL
      clear hrow hel hle hso
      go_wp2_with fail
      refine bodyPost_ret (v := .tuple #[.agg #[.int .i64 0, .int .i64 0, .string ⟨#[]⟩, .slice none 0 0, .slice none 0 0, .slice none 0 0], .int .i64 0]) (by simp [results, Tryz.results79, go_sem, y0, y1, y2, y3, y4, y5]) rfl ?_
      refine ⟨zeroV0, 0, 0, ⟨#[]⟩, none, none, none, 0, 0, 0, 0, 0, 0, 0, rfl, vr_plain' 0 0 (by decide) (by decide), .inr ⟨rfl, rfl, .inl ⟨?_, rfl⟩⟩, below6 _ _ _ _ _ _ HB4.out hbR⟩
      exact List.eq_nil_of_length_eq_zero (sorted_len HSL.out).symm
    · obtain ⟨d, hd⟩ := at_lt (l := L) (p := (L.length - 1)) (by have := List.length_pos_iff.2 hL; omega)
      obtain ⟨ad, hA, _, hc0⟩ := hrow (List.length_pos_iff.2 hL)
      subst hA
      have hV := hel _ d hd
      obtain ⟨a0, a1, s, S3, S4, S5, n3, m3, n4, m4, n5, m5, hfj⟩ : ∃ (a0 a1 : Int) (s : ByteArray) (S3 S4 S5 : Option Addr) (n3 m3 n4 m4 n5 m5 : Nat), gg (L.length - 1) = [.int .i64 a0, .int .i64 a1, .string s, .slice S3 n3 m3, .slice S4 n4 m4, .slice S5 n5 m5] := by
        generalize gg (L.length - 1) = fk at hV
        cases hV
        exact ⟨_, _, _, _, _, _, _, _, _, _, _, _, rfl⟩
      rw [hfj] at hV
      have hcc := fun (j : Nat) (u : Value) (hu : [.int .i64 a0, .int .i64 a1, .string s, .slice S3 n3 m3, .slice S4 n4 m4, .slice S5 n5 m5][j]? = some u) => hc0 (L.length - 1) j u (by have := List.length_pos_iff.2 hL; omega) (by rw [hfj]; exact hu)
      obtain ⟨x0, x1, x2, x3, x4, x5⟩ := cells6 hcc
      have hpos := List.length_pos_iff.2 hL
      obtain ⟨p, hp⟩ : ∃ p, L.length = p + 1 := ⟨L.length - 1, by omega⟩
      have HV6 := Lib.hid hV
      have HD := Lib.hid hd
      have HP := Lib.hid hp
      rw [show L.length - 1 = p by omega] at x0 x1 x2 x3 x4 x5
      rw [hp] at hle ⊢
      have hsm : l.length ≤ 1000000 := HSM.out
      have i5 : p ≤ 1000000 := by have := sorted_len HSL.out; omega
      have i1 : ((p + 1 : Nat) : Int) ≠ 0 := by omega
      have i2 : (p : Int) < ((p + 1 : Nat) : Int) := by omega
      have i3 : (0 : Int) ≤ (p : Int) := Int.natCast_nonneg _
      have i4 : (0 : Int) < ((p + 1 : Nat) : Int) := by omega
      clear hV hcc hc0 hrow hel hd hso hfj hL hpos hp hsm
      go_wp2_with fail
      refine bodyPost_ret (v := .tuple #[.agg #[.int .i64 a0, .int .i64 a1, .string s, .slice S3 n3 m3, .slice S4 n4 m4, .slice S5 n5 m5], .int .i64 0]) (by simp [results, Tryz.results79, go_sem, y0, y1, y2, y3, y4, y5]) rfl ?_
      refine ⟨d, a0, a1, s, S3, S4, S5, n3, m3, n4, m4, n5, m5, 0, rfl, set6 (w := w) _ _ _ _ _ _ HV6.out (fun b hb => ?_), .inr ⟨rfl, rfl, .inr ⟨L, HSL.out, by simpa using HD.out⟩⟩, below6 _ _ _ _ _ _ HB4.out hbR⟩
      have hs := HS2.out
      rcases hb with hb | ⟨hb, _⟩
      · exact ⟨by omega, .inl (by omega)⟩
      · exact ⟨by omega, .inr hb⟩
  · have hz : Vr w (fun b => w.heap.size ≤ b ∨ (ok b ∧ b < w.heap.size)) zeroV0 [.int .i64 0, .int .i64 0, .string ⟨#[]⟩, .slice none 0 0, .slice none 0 0, .slice none 0 0] := vr_plain' 0 0 (by decide) (by decide)
    have wk : 0 ≤ k ∧ k ≤ 6 := by
      obtain ⟨_, _, _, _, _, _, hk, _, _, _, _, _, _, _, _, _, _⟩ := wv
      exact hk
    have hr4 := (HFAR.out W2 (Below.refl _ _)).2
    have y0 : W2.cell? ⟨w.heap.size + 1, 0, none⟩ = some (.int .i64 0) := by simp [World.cell?, hr4]
    have y1 : W2.cell? ⟨w.heap.size + 1, 1, none⟩ = some (.int .i64 0) := by simp [World.cell?, hr4]
    have y2 : W2.cell? ⟨w.heap.size + 1, 2, none⟩ = some (.string ⟨#[]⟩) := by simp [World.cell?, hr4]
    have y3 : W2.cell? ⟨w.heap.size + 1, 3, none⟩ = some (.slice none 0 0) := by simp [World.cell?, hr4]
    have y4 : W2.cell? ⟨w.heap.size + 1, 4, none⟩ = some (.slice none 0 0) := by simp [World.cell?, hr4]
    have y5 : W2.cell? ⟨w.heap.size + 1, 5, none⟩ = some (.slice none 0 0) := by simp [World.cell?, hr4]
    have yf : ∀ i, W2.frozen? ⟨w.heap.size + 1, i, none⟩ = false := fun i => by simp [World.frozen?, hr4]
    clear r1 e1 r2 r3 e3 hs' hW2 hB hS2 hC2 hR2 sm wv hr4
    have hkk : k = 0 ∨ k = 1 ∨ k = 2 ∨ k = 3 ∨ k = 4 ∨ k = 6 := by omega
    clear wk
    rcases hkk with rfl | rfl | rfl | rfl | rfl | rfl
    all_goals
      clear h5
      go_enter Tryz.func79, Tryz.ntmps79
      go_wp2_with fail
      rw [← HW2.out]
      refine bodyPost_ret (v := .tuple #[.agg #[.int .i64 0, .int .i64 0, .string ⟨#[]⟩, .slice none 0 0, .slice none 0 0, .slice none 0 0], .int .i64 1]) (by simp [results, Tryz.results79, go_sem, y0, y1, y2, y3, y4, y5]) rfl ?_
      exact ⟨zeroV0, 0, 0, ⟨#[]⟩, none, none, none, 0, 0, 0, 0, 0, 0, 1, rfl, vr_plain' 0 0 (by decide) (by decide), .inl ⟨rfl, by simp [V.kind], rfl⟩, HB.out⟩

set_option maxHeartbeats 4000000 in
theorem specAlone_max (v : V) (ok : Nat → Prop) (cs : List Value) (w : World) (hv : Vr w ok v cs) (wv : WF v) (sm : v.list.length ≤ 1000000) : Calls Tryz.prog 43 #[.string { data := #[109, 97, 120] }, .agg cs.toArray] w (SpecPost ok (MinS true v) w) := by
  have HV := Lib.hid hv
  have HW := Lib.hid wv
  have HSM := Lib.hid sm
  obtain ⟨k, h, t, l, ks, vs, A1, c1, A2, c2, A3, c3, f, g, ht, h1, h2, h3, b1, b2, b3, hk', hh', hs', r1, e1, r2, r3, e3⟩ := hv
  obtain ⟨W2, hW2⟩ : ∃ W2, W2 = (w.alloc (.cells #[.int .i64 k, .int .i64 h, .string t, .slice A1 l.length c1, .slice A2 ks.length c2, .slice A3 vs.length c3] 26)).alloc (.cells #[.int .i64 0, .int .i64 0, .string ⟨#[]⟩, .slice none 0 0, .slice none 0 0, .slice none 0 0] 26) := ⟨_, rfl⟩
  have hB : Below w.heap.size w W2 := by rw [hW2]; exact ((Below.refl _ _).alloc (Nat.le_refl _) _).alloc (by simp) _
  have hS2 : W2.heap.size = w.heap.size + 2 := by rw [hW2]; simp
  have hC2 : W2.heap[w.heap.size]? = some (.cells #[.int .i64 k, .int .i64 h, .string t, .slice A1 l.length c1, .slice A2 ks.length c2, .slice A3 vs.length c3] 26) := by
    rw [hW2, heap_alloc_old _ _ (by simp)]
    exact heap_alloc_new w _
  have hR2 : W2.heap[w.heap.size + 1]? = some (.cells #[.int .i64 0, .int .i64 0, .string ⟨#[]⟩, .slice none 0 0, .slice none 0 0, .slice none 0 0] 26) := by
    rw [hW2]
    have := heap_alloc_new (w.alloc (.cells #[.int .i64 k, .int .i64 h, .string t, .slice A1 l.length c1, .slice A2 ks.length c2, .slice A3 vs.length c3] 26)) (.cells #[.int .i64 0, .int .i64 0, .string ⟨#[]⟩, .slice none 0 0, .slice none 0 0, .slice none 0 0] 26)
    rw [show (w.alloc (.cells #[.int .i64 k, .int .i64 h, .string t, .slice A1 l.length c1, .slice A2 ks.length c2, .slice A3 vs.length c3] 26)).heap.size = w.heap.size + 1 from by simp] at this
    exact this
  have HFAR := Lib.hid (show ∀ W, Below W2.heap.size W2 W → W.heap[w.heap.size]? = some (.cells #[.int .i64 k, .int .i64 h, .string t, .slice A1 l.length c1, .slice A2 ks.length c2, .slice A3 vs.length c3] 26) ∧ W.heap[w.heap.size + 1]? = some (.cells #[.int .i64 0, .int .i64 0, .string ⟨#[]⟩, .slice none 0 0, .slice none 0 0, .slice none 0 0] 26) from fun W hb => ⟨(hb.block _ (by omega)).trans hC2, (hb.block _ (by omega)).trans hR2⟩)
  have HW2 := Lib.hid hW2
  have HB := Lib.hid hB
  have HS2 := Lib.hid hS2
  have hbR : w.heap.size ≤ w.heap.size + 1 := Nat.le_succ _
  clear r1 e1 r2 r3 e3 hs' hW2 hB hS2 hC2 hR2 sm wv
  go_enter Tryz.func43, Tryz.ntmps43
  go_wp2_with fail
  rw [← HW2.out]
  refine (specArray_max (V.mk k h t l ks vs) (fun b => ok b ∧ b < w.heap.size) _ W2 (HV.out.bound.move fun b hb => HB.out.block b hb.2) HW.out HSM.out).mono ?_
  rintro e' w4 ⟨d, a0, a1, s, S3, S4, S5, n3, m3, n4, m4, n5, m5, code, rfl, hvd, hTd, hb4⟩
  have HB24 := Lib.hid hb4
  have HSZ := Lib.hid (Nat.le_refl W2.heap.size)
  clear hb4
  have hr4 := (HFAR.out w4 HB24.out).2
  have y0 : w4.cell? ⟨w.heap.size + 1, 0, none⟩ = some (.int .i64 0) := by simp [World.cell?, hr4]
  have y1 : w4.cell? ⟨w.heap.size + 1, 1, none⟩ = some (.int .i64 0) := by simp [World.cell?, hr4]
  have y2 : w4.cell? ⟨w.heap.size + 1, 2, none⟩ = some (.string ⟨#[]⟩) := by simp [World.cell?, hr4]
  have y3 : w4.cell? ⟨w.heap.size + 1, 3, none⟩ = some (.slice none 0 0) := by simp [World.cell?, hr4]
  have y4 : w4.cell? ⟨w.heap.size + 1, 4, none⟩ = some (.slice none 0 0) := by simp [World.cell?, hr4]
  have y5 : w4.cell? ⟨w.heap.size + 1, 5, none⟩ = some (.slice none 0 0) := by simp [World.cell?, hr4]
  have yf : ∀ i, w4.frozen? ⟨w.heap.size + 1, i, none⟩ = false := fun i => by simp [World.frozen?, hr4]
  have HVD := Lib.hid hvd
  have HTD := Lib.hid hTd
  clear hr4 hvd hTd
  go_wp2_with fail
  refine bodyPost_ret (v := .tuple #[.agg #[.int .i64 a0, .int .i64 a1, .string s, .slice S3 n3 m3, .slice S4 n4 m4, .slice S5 n5 m5], .int .i64 code]) (by simp [results, Tryz.results43, go_sem, y0, y1, y2, y3, y4, y5]) rfl ?_
  refine ⟨d, a0, a1, s, S3, S4, S5, n3, m3, n4, m4, n5, m5, code, rfl, set6 (w := w) _ _ _ _ _ _ HVD.out (fun b hb => ?_), HTD.out, below6 _ _ _ _ _ _ (below_trans HB.out HB24.out) hbR⟩
  have hs := HS2.out
  have hsz := HSZ.out
  rcases hb with hb | ⟨⟨hb, hb2⟩, _⟩
  · exact ⟨by omega, .inl (by omega)⟩
  · exact ⟨by omega, .inr ⟨hb, hb2⟩⟩
set_option maxHeartbeats 4000000 in
theorem specCall_max (v : V) (ok : Nat → Prop) (cs : List Value) (w : World) (hv : Vr w ok v cs) (wv : WF v) (sm : v.list.length ≤ 1000000) : Calls Tryz.prog 12 #[.string { data := #[109, 97, 120] }, .agg cs.toArray, .slice none 0 0] w (SpecPost ok (MinS true v) w) := by
  have HV := Lib.hid hv
  have HW := Lib.hid wv
  have HSM := Lib.hid sm
  obtain ⟨k, h, t, l, ks, vs, A1, c1, A2, c2, A3, c3, f, g, ht, h1, h2, h3, b1, b2, b3, hk', hh', hs', r1, e1, r2, r3, e3⟩ := hv
  obtain ⟨W2, hW2⟩ : ∃ W2, W2 = (w.alloc (.cells #[.int .i64 k, .int .i64 h, .string t, .slice A1 l.length c1, .slice A2 ks.length c2, .slice A3 vs.length c3] 26)).alloc (.cells #[.int .i64 0, .int .i64 0, .string ⟨#[]⟩, .slice none 0 0, .slice none 0 0, .slice none 0 0] 26) := ⟨_, rfl⟩
  have hB : Below w.heap.size w W2 := by rw [hW2]; exact ((Below.refl _ _).alloc (Nat.le_refl _) _).alloc (by simp) _
  have hS2 : W2.heap.size = w.heap.size + 2 := by rw [hW2]; simp
  have hC2 : W2.heap[w.heap.size]? = some (.cells #[.int .i64 k, .int .i64 h, .string t, .slice A1 l.length c1, .slice A2 ks.length c2, .slice A3 vs.length c3] 26) := by
    rw [hW2, heap_alloc_old _ _ (by simp)]
    exact heap_alloc_new w _
  have hR2 : W2.heap[w.heap.size + 1]? = some (.cells #[.int .i64 0, .int .i64 0, .string ⟨#[]⟩, .slice none 0 0, .slice none 0 0, .slice none 0 0] 26) := by
    rw [hW2]
    have := heap_alloc_new (w.alloc (.cells #[.int .i64 k, .int .i64 h, .string t, .slice A1 l.length c1, .slice A2 ks.length c2, .slice A3 vs.length c3] 26)) (.cells #[.int .i64 0, .int .i64 0, .string ⟨#[]⟩, .slice none 0 0, .slice none 0 0, .slice none 0 0] 26)
    rw [show (w.alloc (.cells #[.int .i64 k, .int .i64 h, .string t, .slice A1 l.length c1, .slice A2 ks.length c2, .slice A3 vs.length c3] 26)).heap.size = w.heap.size + 1 from by simp] at this
    exact this
  have HFAR := Lib.hid (show ∀ W, Below W2.heap.size W2 W → W.heap[w.heap.size]? = some (.cells #[.int .i64 k, .int .i64 h, .string t, .slice A1 l.length c1, .slice A2 ks.length c2, .slice A3 vs.length c3] 26) ∧ W.heap[w.heap.size + 1]? = some (.cells #[.int .i64 0, .int .i64 0, .string ⟨#[]⟩, .slice none 0 0, .slice none 0 0, .slice none 0 0] 26) from fun W hb => ⟨(hb.block _ (by omega)).trans hC2, (hb.block _ (by omega)).trans hR2⟩)
  have HW2 := Lib.hid hW2
  have HB := Lib.hid hB
  have HS2 := Lib.hid hS2
  have hbR : w.heap.size ≤ w.heap.size + 1 := Nat.le_succ _
  clear r1 e1 r2 r3 e3 hs' hW2 hB hS2 hC2 hR2 sm wv
  go_enter Tryz.func12, Tryz.ntmps12
  go_wp2_with fail
  rw [← HW2.out]
  refine (vague_any (V.mk k h t l ks vs) ok _ W2 HW.out (HV.out.keep HB.out)).mono ?_
  rintro e' w5 ⟨rfl, hb5⟩
  have HB5 := Lib.hid hb5
  clear hb5
  go_wp2_with fail
  refine (array_any _ _ _ w5).mono ?_
  rintro e' w6 ⟨rfl, hb6⟩
  have HB6 := Lib.hid (below_trans HB5.out hb6)
  clear hb6
  go_wp2_with fail
  refine (vague_any (V.mk 5 0 ⟨#[]⟩ [] [] []) (fun _ => True) _ w6 (wf_list5 fun u hu => by cases hu) (vr_plain' 5 0 (by decide) (by decide))).mono ?_
  rintro e' w7 ⟨rfl, hb7⟩
  have HB7 := Lib.hid (below_trans HB6.out hb7)
  clear hb7
  have hr7 := (HFAR.out w7 HB7.out).1
  have z0 : w7.cell? ⟨w.heap.size, 0, none⟩ = some (.int .i64 k) := by simp [World.cell?, hr7]
  have z1 : w7.cell? ⟨w.heap.size, 1, none⟩ = some (.int .i64 h) := by simp [World.cell?, hr7]
  have z2 : w7.cell? ⟨w.heap.size, 2, none⟩ = some (.string t) := by simp [World.cell?, hr7]
  have z3 : w7.cell? ⟨w.heap.size, 3, none⟩ = some (.slice A1 l.length c1) := by simp [World.cell?, hr7]
  have z4 : w7.cell? ⟨w.heap.size, 4, none⟩ = some (.slice A2 ks.length c2) := by simp [World.cell?, hr7]
  have z5 : w7.cell? ⟨w.heap.size, 5, none⟩ = some (.slice A3 vs.length c3) := by simp [World.cell?, hr7]
  clear hr7
  go_wp2_with fail
  refine (specAlone_max (V.mk k h t l ks vs) (fun b => ok b ∧ b < w.heap.size) _ w7 (HV.out.bound.move fun b hb => (below_trans HB.out HB7.out).block b hb.2) HW.out HSM.out).mono ?_
  rintro e' w4 ⟨d, a0, a1, s, S3, S4, S5, n3, m3, n4, m4, n5, m5, code, rfl, hvd, hTd, hb4⟩
  have HB24 := Lib.hid (below_trans HB7.out hb4)
  have HSZ := Lib.hid HB7.out.size
  clear hb4 z0 z1 z2 z3 z4 z5
  have hr4 := (HFAR.out w4 HB24.out).2
  have y0 : w4.cell? ⟨w.heap.size + 1, 0, none⟩ = some (.int .i64 0) := by simp [World.cell?, hr4]
  have y1 : w4.cell? ⟨w.heap.size + 1, 1, none⟩ = some (.int .i64 0) := by simp [World.cell?, hr4]
  have y2 : w4.cell? ⟨w.heap.size + 1, 2, none⟩ = some (.string ⟨#[]⟩) := by simp [World.cell?, hr4]
  have y3 : w4.cell? ⟨w.heap.size + 1, 3, none⟩ = some (.slice none 0 0) := by simp [World.cell?, hr4]
  have y4 : w4.cell? ⟨w.heap.size + 1, 4, none⟩ = some (.slice none 0 0) := by simp [World.cell?, hr4]
  have y5 : w4.cell? ⟨w.heap.size + 1, 5, none⟩ = some (.slice none 0 0) := by simp [World.cell?, hr4]
  have yf : ∀ i, w4.frozen? ⟨w.heap.size + 1, i, none⟩ = false := fun i => by simp [World.frozen?, hr4]
  have HVD := Lib.hid hvd
  have HTD := Lib.hid hTd
  clear hr4 hvd hTd
  go_wp2_with fail
  refine bodyPost_ret (v := .tuple #[.agg #[.int .i64 a0, .int .i64 a1, .string s, .slice S3 n3 m3, .slice S4 n4 m4, .slice S5 n5 m5], .int .i64 code]) (by simp [results, Tryz.results12, go_sem, y0, y1, y2, y3, y4, y5]) rfl ?_
  refine ⟨d, a0, a1, s, S3, S4, S5, n3, m3, n4, m4, n5, m5, code, rfl, set6 (w := w) _ _ _ _ _ _ HVD.out (fun b hb => ?_), HTD.out, below6 _ _ _ _ _ _ (below_trans HB.out HB24.out) hbR⟩
  have hs := HS2.out
  have hsz := HSZ.out
  rcases hb with hb | ⟨⟨hb, hb2⟩, _⟩
  · exact ⟨by omega, .inl (by omega)⟩
  · exact ⟨by omega, .inr ⟨hb, hb2⟩⟩
end Go.Proofs.YtpamlgdcnmcedaaGreatDoor

set_option linter.unusedVariables false
set_option linter.unusedSimpArgs false
set_option maxRecDepth 100000
namespace Go.Proofs.YtpamlgdcnmcedaaGreatDoor
open Go Go.RowKit
theorem sm_len {v : V} (h : Sm v) : v.list.length ≤ 1000000 := by
  cases h
  assumption
theorem wf_elems {v : V} (h : WF v) : ∀ u, u ∈ v.list → WF u := by
  obtain ⟨_, _, _, _, _, _, _, _, _, _, _, _, _, _, _, wl, _⟩ := h
  exact wl
theorem wf_zero0 : WF zeroV0 := wf_plain 0 0 (by decide) (.inr rfl) ⟨by decide, .inl (by decide)⟩
theorem min_told {mx b : Bool} (hb : b = !mx) {v u d : V} {c code : Int} (hw : WF v) (h1 : MinS mx v d code) (h2 : MinT b v u c) : ToldOK u c d code := by
  rcases h1 with ⟨hc, hk, _⟩ | ⟨hc, hk, h1⟩
  · rcases h2 with ⟨_, h2⟩ | ⟨h2, _⟩
    · exact .inr (.inl ⟨hc, h2⟩)
    · exact absurd h2 hk
  · rcases h2 with ⟨h2, _⟩ | ⟨_, hc2, h2⟩
    · exact absurd hk h2
    · refine .inr (.inr ⟨hc, hc2, ?_⟩)
      rcases h1 with ⟨hl, hd⟩ | ⟨L, hs, hd⟩
      · rcases h2 with ⟨_, hu⟩ | ⟨hu, _⟩
        · rw [hu, hd]
          exact ⟨wf_zero0, wf_zero0, cmpV_self _⟩
        · rw [hl] at hu; cases hu
      · have hdm := hs.2.2.1 d (List.mem_of_getElem? hd)
        rcases h2 with ⟨hl, _⟩ | ⟨hu, hbest⟩
        · rw [hl] at hdm; cases hdm
        · refine ⟨wf_elems hw _ hu, wf_elems hw _ hdm, ?_⟩
          cases mx
          · rw [hb] at hbest
            exact best_min hs (by simpa using hd) hu hbest
          · rw [hb] at hbest
            exact best_max hs (by simpa using hd) hu hbest
set_option maxHeartbeats 4000000 in
theorem lawCall_min (v u : V) (c : Int) (ok : Nat → Prop) (cs : List Value) (a0 a1 : Int) (s : ByteArray) (S3 S4 S5 : Option Addr) (n3 m3 n4 m4 n5 m5 : Nat) (w : World) (hv : Vr w ok v cs) (hu : Vr w ok u [.int .i64 a0, .int .i64 a1, .string s, .slice S3 n3 m3, .slice S4 n4 m4, .slice S5 n5 m5]) (wv : WF v) (sm : v.list.length ≤ 1000000) (hT : MinT true v u c) :
    Calls Tryz.prog 16 #[.string { data := #[109, 105, 110] }, .agg cs.toArray, .agg #[.int .i64 a0, .int .i64 a1, .string s, .slice S3 n3 m3, .slice S4 n4 m4, .slice S5 n5 m5, .int .i64 c]] w fun e w' => e = .returned (.bool true) ∧ Below w.heap.size w w' := by
  have HV := Lib.hid hv
  have HU := Lib.hid hu
  have HW := Lib.hid wv
  have HSM := Lib.hid sm
  have HT := Lib.hid hT
  obtain ⟨k, h, t, l, ks, vs, A1, c1, A2, c2, A3, c3, f, g, ht, h1, h2, h3, b1, b2, b3, hk', hh', hs', r1, e1, r2, r3, e3⟩ := hv
  obtain ⟨W2, hW2⟩ : ∃ W2, W2 = (w.alloc (.cells #[.int .i64 k, .int .i64 h, .string t, .slice A1 l.length c1, .slice A2 ks.length c2, .slice A3 vs.length c3] 26)).alloc (.cells #[.int .i64 a0, .int .i64 a1, .string s, .slice S3 n3 m3, .slice S4 n4 m4, .slice S5 n5 m5, .int .i64 c] 34) := ⟨_, rfl⟩
  have hB : Below w.heap.size w W2 := by rw [hW2]; exact ((Below.refl _ _).alloc (Nat.le_refl _) _).alloc (by simp) _
  have hS2 : W2.heap.size = w.heap.size + 2 := by rw [hW2]; simp
  have hC2 : W2.heap[w.heap.size]? = some (.cells #[.int .i64 k, .int .i64 h, .string t, .slice A1 l.length c1, .slice A2 ks.length c2, .slice A3 vs.length c3] 26) := by
    rw [hW2, heap_alloc_old _ _ (by simp)]
    exact heap_alloc_new w _
  have hR2 : W2.heap[w.heap.size + 1]? = some (.cells #[.int .i64 a0, .int .i64 a1, .string s, .slice S3 n3 m3, .slice S4 n4 m4, .slice S5 n5 m5, .int .i64 c] 34) := by
    rw [hW2]
    have := heap_alloc_new (w.alloc (.cells #[.int .i64 k, .int .i64 h, .string t, .slice A1 l.length c1, .slice A2 ks.length c2, .slice A3 vs.length c3] 26)) (.cells #[.int .i64 a0, .int .i64 a1, .string s, .slice S3 n3 m3, .slice S4 n4 m4, .slice S5 n5 m5, .int .i64 c] 34)
    rw [show (w.alloc (.cells #[.int .i64 k, .int .i64 h, .string t, .slice A1 l.length c1, .slice A2 ks.length c2, .slice A3 vs.length c3] 26)).heap.size = w.heap.size + 1 from by simp] at this
    exact this
  have HFAR := Lib.hid (show ∀ W, Below W2.heap.size W2 W → W.heap[w.heap.size]? = some (.cells #[.int .i64 k, .int .i64 h, .string t, .slice A1 l.length c1, .slice A2 ks.length c2, .slice A3 vs.length c3] 26) ∧ W.heap[w.heap.size + 1]? = some (.cells #[.int .i64 a0, .int .i64 a1, .string s, .slice S3 n3 m3, .slice S4 n4 m4, .slice S5 n5 m5, .int .i64 c] 34) from fun W hb => ⟨(hb.block _ (by omega)).trans hC2, (hb.block _ (by omega)).trans hR2⟩)
  have HW2 := Lib.hid hW2
  have HB := Lib.hid hB
  have HS2 := Lib.hid hS2
  clear hW2 hB hS2 hC2 hR2 r1 e1 r2 r3 e3 hs' wv sm hu hT
  go_enter Tryz.func16, Tryz.ntmps16
  go_wp2_with fail
  rw [← HW2.out]
  refine (specCall_min (V.mk k h t l ks vs) ok _ W2 (HV.out.keep HB.out) HW.out HSM.out).mono ?_
  rintro e' w4 ⟨d, e0, e1, es, E3, E4, E5, g3, j3, g4, j4, g5, j5, code, rfl, hvd, hTd, hb4⟩
  obtain ⟨W5, hW5⟩ : ∃ W5, W5 = w4.alloc (.cells #[.int .i64 e0, .int .i64 e1, .string es, .slice E3 g3 j3, .slice E4 g4 j4, .slice E5 g5 j5] 26) := ⟨_, rfl⟩
  have hb5 : Below w4.heap.size w4 W5 := by rw [hW5]; exact (Below.refl _ _).alloc (Nat.le_refl _) _
  have hc5 : W5.heap[w4.heap.size]? = some (.cells #[.int .i64 e0, .int .i64 e1, .string es, .slice E3 g3 j3, .slice E4 g4 j4, .slice E5 g5 j5] 26) := by rw [hW5]; exact heap_alloc_new w4 _
  have hq := (HFAR.out W5 (below_trans hb4 hb5)).2
  have x0 : W5.cell? ⟨w.heap.size + 1, 0, none⟩ = some (.int .i64 a0) := by simp [World.cell?, hq]
  have x1 : W5.cell? ⟨w.heap.size + 1, 1, none⟩ = some (.int .i64 a1) := by simp [World.cell?, hq]
  have x2 : W5.cell? ⟨w.heap.size + 1, 2, none⟩ = some (.string s) := by simp [World.cell?, hq]
  have x3 : W5.cell? ⟨w.heap.size + 1, 3, none⟩ = some (.slice S3 n3 m3) := by simp [World.cell?, hq]
  have x4 : W5.cell? ⟨w.heap.size + 1, 4, none⟩ = some (.slice S4 n4 m4) := by simp [World.cell?, hq]
  have x5 : W5.cell? ⟨w.heap.size + 1, 5, none⟩ = some (.slice S5 n5 m5) := by simp [World.cell?, hq]
  have x6 : W5.cell? ⟨w.heap.size + 1, 6, none⟩ = some (.int .i64 c) := by simp [World.cell?, hq]
  have y0 : W5.cell? ⟨w4.heap.size, 0, none⟩ = some (.int .i64 e0) := by simp [World.cell?, hc5]
  have y1 : W5.cell? ⟨w4.heap.size, 1, none⟩ = some (.int .i64 e1) := by simp [World.cell?, hc5]
  have y2 : W5.cell? ⟨w4.heap.size, 2, none⟩ = some (.string es) := by simp [World.cell?, hc5]
  have y3 : W5.cell? ⟨w4.heap.size, 3, none⟩ = some (.slice E3 g3 j3) := by simp [World.cell?, hc5]
  have y4 : W5.cell? ⟨w4.heap.size, 4, none⟩ = some (.slice E4 g4 j4) := by simp [World.cell?, hc5]
  have y5 : W5.cell? ⟨w4.heap.size, 5, none⟩ = some (.slice E5 g5 j5) := by simp [World.cell?, hc5]
  have HB5 := Lib.hid (below_trans HB.out (below_trans hb4 hb5))
  have HTOLD := Lib.hid (told_any u d c code (fun _ => True) a0 a1 s S3 S4 S5 n3 m3 n4 m4 n5 m5 [.int .i64 e0, .int .i64 e1, .string es, .slice E3 g3 j3, .slice E4 g4 j4, .slice E5 g5 j5] W5 ((HU.out.mono fun _ _ => trivial).keep HB5.out) ((hvd.mono fun _ _ => trivial).keep hb5) (min_told rfl HW.out hTd HT.out))
  have HW5 := Lib.hid hW5
  clear hW5 hb5 hc5 hq hvd hTd hb4
  go_upto_region 2 with fail
  rw [← HW5.out]
  go_wp2_with fail
  refine HTOLD.out.mono ?_
  rintro e' w6 ⟨rfl, hb6⟩
  have HB6 := Lib.hid (below_trans HB5.out hb6)
  clear hb6
  go_wp2_with fail
  go_ret
  exact ⟨rfl, HB6.out⟩
set_option maxHeartbeats 4000000 in
theorem lawCall_max (v u : V) (c : Int) (ok : Nat → Prop) (cs : List Value) (a0 a1 : Int) (s : ByteArray) (S3 S4 S5 : Option Addr) (n3 m3 n4 m4 n5 m5 : Nat) (w : World) (hv : Vr w ok v cs) (hu : Vr w ok u [.int .i64 a0, .int .i64 a1, .string s, .slice S3 n3 m3, .slice S4 n4 m4, .slice S5 n5 m5]) (wv : WF v) (sm : v.list.length ≤ 1000000) (hT : MinT false v u c) :
    Calls Tryz.prog 16 #[.string { data := #[109, 97, 120] }, .agg cs.toArray, .agg #[.int .i64 a0, .int .i64 a1, .string s, .slice S3 n3 m3, .slice S4 n4 m4, .slice S5 n5 m5, .int .i64 c]] w fun e w' => e = .returned (.bool true) ∧ Below w.heap.size w w' := by
  have HV := Lib.hid hv
  have HU := Lib.hid hu
  have HW := Lib.hid wv
  have HSM := Lib.hid sm
  have HT := Lib.hid hT
  obtain ⟨k, h, t, l, ks, vs, A1, c1, A2, c2, A3, c3, f, g, ht, h1, h2, h3, b1, b2, b3, hk', hh', hs', r1, e1, r2, r3, e3⟩ := hv
  obtain ⟨W2, hW2⟩ : ∃ W2, W2 = (w.alloc (.cells #[.int .i64 k, .int .i64 h, .string t, .slice A1 l.length c1, .slice A2 ks.length c2, .slice A3 vs.length c3] 26)).alloc (.cells #[.int .i64 a0, .int .i64 a1, .string s, .slice S3 n3 m3, .slice S4 n4 m4, .slice S5 n5 m5, .int .i64 c] 34) := ⟨_, rfl⟩
  have hB : Below w.heap.size w W2 := by rw [hW2]; exact ((Below.refl _ _).alloc (Nat.le_refl _) _).alloc (by simp) _
  have hS2 : W2.heap.size = w.heap.size + 2 := by rw [hW2]; simp
  have hC2 : W2.heap[w.heap.size]? = some (.cells #[.int .i64 k, .int .i64 h, .string t, .slice A1 l.length c1, .slice A2 ks.length c2, .slice A3 vs.length c3] 26) := by
    rw [hW2, heap_alloc_old _ _ (by simp)]
    exact heap_alloc_new w _
  have hR2 : W2.heap[w.heap.size + 1]? = some (.cells #[.int .i64 a0, .int .i64 a1, .string s, .slice S3 n3 m3, .slice S4 n4 m4, .slice S5 n5 m5, .int .i64 c] 34) := by
    rw [hW2]
    have := heap_alloc_new (w.alloc (.cells #[.int .i64 k, .int .i64 h, .string t, .slice A1 l.length c1, .slice A2 ks.length c2, .slice A3 vs.length c3] 26)) (.cells #[.int .i64 a0, .int .i64 a1, .string s, .slice S3 n3 m3, .slice S4 n4 m4, .slice S5 n5 m5, .int .i64 c] 34)
    rw [show (w.alloc (.cells #[.int .i64 k, .int .i64 h, .string t, .slice A1 l.length c1, .slice A2 ks.length c2, .slice A3 vs.length c3] 26)).heap.size = w.heap.size + 1 from by simp] at this
    exact this
  have HFAR := Lib.hid (show ∀ W, Below W2.heap.size W2 W → W.heap[w.heap.size]? = some (.cells #[.int .i64 k, .int .i64 h, .string t, .slice A1 l.length c1, .slice A2 ks.length c2, .slice A3 vs.length c3] 26) ∧ W.heap[w.heap.size + 1]? = some (.cells #[.int .i64 a0, .int .i64 a1, .string s, .slice S3 n3 m3, .slice S4 n4 m4, .slice S5 n5 m5, .int .i64 c] 34) from fun W hb => ⟨(hb.block _ (by omega)).trans hC2, (hb.block _ (by omega)).trans hR2⟩)
  have HW2 := Lib.hid hW2
  have HB := Lib.hid hB
  have HS2 := Lib.hid hS2
  clear hW2 hB hS2 hC2 hR2 r1 e1 r2 r3 e3 hs' wv sm hu hT
  go_enter Tryz.func16, Tryz.ntmps16
  go_wp2_with fail
  rw [← HW2.out]
  refine (specCall_max (V.mk k h t l ks vs) ok _ W2 (HV.out.keep HB.out) HW.out HSM.out).mono ?_
  rintro e' w4 ⟨d, e0, e1, es, E3, E4, E5, g3, j3, g4, j4, g5, j5, code, rfl, hvd, hTd, hb4⟩
  obtain ⟨W5, hW5⟩ : ∃ W5, W5 = w4.alloc (.cells #[.int .i64 e0, .int .i64 e1, .string es, .slice E3 g3 j3, .slice E4 g4 j4, .slice E5 g5 j5] 26) := ⟨_, rfl⟩
  have hb5 : Below w4.heap.size w4 W5 := by rw [hW5]; exact (Below.refl _ _).alloc (Nat.le_refl _) _
  have hc5 : W5.heap[w4.heap.size]? = some (.cells #[.int .i64 e0, .int .i64 e1, .string es, .slice E3 g3 j3, .slice E4 g4 j4, .slice E5 g5 j5] 26) := by rw [hW5]; exact heap_alloc_new w4 _
  have hq := (HFAR.out W5 (below_trans hb4 hb5)).2
  have x0 : W5.cell? ⟨w.heap.size + 1, 0, none⟩ = some (.int .i64 a0) := by simp [World.cell?, hq]
  have x1 : W5.cell? ⟨w.heap.size + 1, 1, none⟩ = some (.int .i64 a1) := by simp [World.cell?, hq]
  have x2 : W5.cell? ⟨w.heap.size + 1, 2, none⟩ = some (.string s) := by simp [World.cell?, hq]
  have x3 : W5.cell? ⟨w.heap.size + 1, 3, none⟩ = some (.slice S3 n3 m3) := by simp [World.cell?, hq]
  have x4 : W5.cell? ⟨w.heap.size + 1, 4, none⟩ = some (.slice S4 n4 m4) := by simp [World.cell?, hq]
  have x5 : W5.cell? ⟨w.heap.size + 1, 5, none⟩ = some (.slice S5 n5 m5) := by simp [World.cell?, hq]
  have x6 : W5.cell? ⟨w.heap.size + 1, 6, none⟩ = some (.int .i64 c) := by simp [World.cell?, hq]
  have y0 : W5.cell? ⟨w4.heap.size, 0, none⟩ = some (.int .i64 e0) := by simp [World.cell?, hc5]
  have y1 : W5.cell? ⟨w4.heap.size, 1, none⟩ = some (.int .i64 e1) := by simp [World.cell?, hc5]
  have y2 : W5.cell? ⟨w4.heap.size, 2, none⟩ = some (.string es) := by simp [World.cell?, hc5]
  have y3 : W5.cell? ⟨w4.heap.size, 3, none⟩ = some (.slice E3 g3 j3) := by simp [World.cell?, hc5]
  have y4 : W5.cell? ⟨w4.heap.size, 4, none⟩ = some (.slice E4 g4 j4) := by simp [World.cell?, hc5]
  have y5 : W5.cell? ⟨w4.heap.size, 5, none⟩ = some (.slice E5 g5 j5) := by simp [World.cell?, hc5]
  have HB5 := Lib.hid (below_trans HB.out (below_trans hb4 hb5))
  have HTOLD := Lib.hid (told_any u d c code (fun _ => True) a0 a1 s S3 S4 S5 n3 m3 n4 m4 n5 m5 [.int .i64 e0, .int .i64 e1, .string es, .slice E3 g3 j3, .slice E4 g4 j4, .slice E5 g5 j5] W5 ((HU.out.mono fun _ _ => trivial).keep HB5.out) ((hvd.mono fun _ _ => trivial).keep hb5) (min_told rfl HW.out hTd HT.out))
  have HW5 := Lib.hid hW5
  clear hW5 hb5 hc5 hq hvd hTd hb4
  go_upto_region 2 with fail
  rw [← HW5.out]
  go_wp2_with fail
  refine HTOLD.out.mono ?_
  rintro e' w6 ⟨rfl, hb6⟩
  have HB6 := Lib.hid (below_trans HB5.out hb6)
  clear hb6
  go_wp2_with fail
  go_ret
  exact ⟨rfl, HB6.out⟩
set_option maxHeartbeats 8000000 in
theorem min_law (v1 : V) (ok : Nat → Prop) (cs1 : List Value) (w : World) (hv1 : Vr w ok v1 cs1) (hT : Lib.Utf8Tabs 0 1 w) :
    Calls Tryz.prog 4 #[.agg cs1.toArray] w (LawP w) := by
  have HV1 := Lib.hid hv1
  have HT := Lib.hid hT
  obtain ⟨k1, h1, t1, l1, ks1, vs1, P1, p1, Q1, q1, R1, r1, f1, g1, i1, i2, i3, i4, i5, i6, i7, i8, i9, i10, i11, i12, i13, i14, i15⟩ := hv1
  clear i1 i2 i3 i4 i5 i6 i7 i8 i9 i10 i11 i12 i13 i14 i15 hT
  obtain ⟨W0, hW0⟩ : ∃ W0, W0 = w.alloc (.cells #[.int .i64 k1, .int .i64 h1, .string t1, .slice P1 l1.length p1, .slice Q1 ks1.length q1, .slice R1 vs1.length r1] 26) := ⟨_, rfl⟩
  have hBW0 : Below w.heap.size w W0 := by rw [hW0]; exact (Below.refl _ _).alloc (Nat.le_refl _) _
  have hSW0 : W0.heap.size = w.heap.size + 1 := by rw [hW0]; simp
  have hD0 : W0.heap[w.heap.size]? = some (.cells #[.int .i64 k1, .int .i64 h1, .string t1, .slice P1 l1.length p1, .slice Q1 ks1.length q1, .slice R1 vs1.length r1] 26) := by rw [hW0]; exact heap_alloc_new w _
  have hfar : ∀ W, Below W0.heap.size W0 W → W.cell? ⟨w.heap.size, 0, none⟩ = some (.int .i64 k1) ∧ W.cell? ⟨w.heap.size, 1, none⟩ = some (.int .i64 h1) ∧ W.cell? ⟨w.heap.size, 2, none⟩ = some (.string t1) ∧ W.cell? ⟨w.heap.size, 3, none⟩ = some (.slice P1 l1.length p1) ∧ W.cell? ⟨w.heap.size, 4, none⟩ = some (.slice Q1 ks1.length q1) ∧ W.cell? ⟨w.heap.size, 5, none⟩ = some (.slice R1 vs1.length r1) := fun W hb => by
    have q1 := (hb.block _ (by omega)).trans hD0
    refine ⟨?_, ?_, ?_, ?_, ?_, ?_⟩ <;> simp [World.cell?, q1]
  have HK0 := Lib.hid hfar
  have HW0 := Lib.hid hW0
  have HBW0 := Lib.hid hBW0
  clear hfar hW0 hBW0 hSW0 hD0
  go_enter Tryz.func4, Tryz.ntmps4
  go_wp2_with fail
  rw [← HW0.out]
  refine (zzFits1_any (V.mk k1 h1 t1 l1 ks1 vs1) ok _ W0 (HV1.out.keep HBW0.out)).mono ?_
  rintro e' w3 ⟨⟨r, rfl⟩, hb3⟩
  have HB3 := Lib.hid hb3
  clear hb3
  obtain ⟨z0, z1, z2, z3, z4, z5⟩ := HK0.out w3 HB3.out
  cases r
  · go_wp2_with fail
    go_ret
    exact ⟨rfl, below_trans HBW0.out HB3.out⟩
  go_wp2_with fail
  refine (fit_any (V.mk k1 h1 t1 l1 ks1 vs1) ok _ w3 (HV1.out.keep (below_trans HBW0.out HB3.out)) (Utf8Tabs_below HT.out (below_trans HBW0.out HB3.out))).mono ?_
  rintro e' w4 ⟨hb4, r, rfl, hf⟩
  have HB4 := Lib.hid (below_trans HB3.out hb4)
  have HF := Lib.hid hf
  clear hb4 hf z0 z1 z2 z3 z4 z5
  obtain ⟨z0, z1, z2, z3, z4, z5⟩ := HK0.out w4 HB4.out
  cases r
  · go_wp2_with fail
    go_ret
    exact ⟨rfl, below_trans HBW0.out HB4.out⟩
  have WV := Lib.hid (HF.out rfl)
  have HSM := Lib.hid (sm_of (v := (V.mk k1 h1 t1 l1 ks1 vs1)) (by have := WV.out.2; omega))
  have HJN := Lib.hid (jn_of HV1.out WV.out.1 (by have := WV.out.2; omega))
  have HVK := Lib.hid (fun (W : World) (hb : Below w4.heap.size w4 W) => (HV1.out.mono (ok' := fun _ => True) fun _ _ => trivial).keep (below_trans HBW0.out (below_trans HB4.out hb)))
  have HMIN := Lib.hid (fun (W : World) (hb : Below w4.heap.size w4 W) => implMin (V.mk k1 h1 t1 l1 ks1 vs1) HJN.out (fun _ => True) _ W (HVK.out W hb) WV.out.1 HSM.out)
  have HMAX := Lib.hid (fun (W : World) (hb : Below w4.heap.size w4 W) => implMax (V.mk k1 h1 t1 l1 ks1 vs1) HJN.out (fun _ => True) _ W (HVK.out W hb) WV.out.1 HSM.out)
  have HKB := Lib.hid (show ∀ W : World, Below w4.heap.size w4 W → W.cell? ⟨w.heap.size, 0, none⟩ = some (.int .i64 k1) ∧ W.cell? ⟨w.heap.size, 1, none⟩ = some (.int .i64 h1) ∧ W.cell? ⟨w.heap.size, 2, none⟩ = some (.string t1) ∧ W.cell? ⟨w.heap.size, 3, none⟩ = some (.slice P1 l1.length p1) ∧ W.cell? ⟨w.heap.size, 4, none⟩ = some (.slice Q1 ks1.length q1) ∧ W.cell? ⟨w.heap.size, 5, none⟩ = some (.slice R1 vs1.length r1) from fun W hb => HK0.out W (below_trans HB4.out hb))
  have HB0 := Lib.hid ((Below.refl w4.heap.size w4).drew)
  have HS := Lib.hid (HKB.out w4.drew HB0.out)
  go_upto_region 5 with fail
  clear z0 z1 z2 z3 z4 z5
  refine wp_region_held_drew (S := fun W => W.cell? ⟨w.heap.size, 0, none⟩ = some (.int .i64 k1) ∧ W.cell? ⟨w.heap.size, 1, none⟩ = some (.int .i64 h1) ∧ W.cell? ⟨w.heap.size, 2, none⟩ = some (.string t1) ∧ W.cell? ⟨w.heap.size, 3, none⟩ = some (.slice P1 l1.length p1) ∧ W.cell? ⟨w.heap.size, 4, none⟩ = some (.slice Q1 ks1.length q1) ∧ W.cell? ⟨w.heap.size, 5, none⟩ = some (.slice R1 vs1.length r1)) (by kernel_rfl) HS.out (fun _ => ?_)
  refine wpAnyH_take (i := 0) (v := .agg #[.int .i64 k1, .int .i64 h1, .string t1, .slice P1 l1.length p1, .slice Q1 ks1.length q1, .slice R1 vs1.length r1]) rfl (by kernel_rfl) (by kernel_rfl) (by kernel_rfl) (fun _ _ _ h => h) (Or.inl ⟨by rfl, ?_⟩) HS.out ?_
  · intro W hSw
    obtain ⟨z0, z1, z2, z3, z4, z5⟩ := hSw
    go_simp
  simp only [List.getElem_toArray, List.getElem_cons_zero, List.getElem_cons_succ, Act.put, List.setIfInBounds_toArray, List.set_cons_zero, List.set_cons_succ]
  refine wpAnyH_take (i := 1) (v := .agg #[.int .i64 k1, .int .i64 h1, .string t1, .slice P1 l1.length p1, .slice Q1 ks1.length q1, .slice R1 vs1.length r1]) rfl (by kernel_rfl) (by kernel_rfl) (by kernel_rfl) (fun _ _ _ h => h) (Or.inl ⟨by rfl, ?_⟩) HS.out ?_
  · intro W hSw
    obtain ⟨z0, z1, z2, z3, z4, z5⟩ := hSw
    go_simp
  simp only [List.getElem_toArray, List.getElem_cons_zero, List.getElem_cons_succ, Act.put, List.setIfInBounds_toArray, List.set_cons_zero, List.set_cons_succ]
  refine wpAnyH_ready (rs := [2]) (by kernel_rfl) (by simp) ?_
  refine AllReadyH.cons rfl (fun K hK => ?_) AllReadyH.nil
  go_simp
  refine (HMIN.out _ HB0.out).mono ?_
  rintro e' wa1 h1'
  obtain ⟨u1, a1, b1, s1, S1, T1, U1, c1, d1, e1, f1, g1, i1, j1, rfl, hu1, hT1, hb1⟩ := resPost_shape h1'
  have hB1 := below_trans HB0.out hb1
  have hS1 := HKB.out wa1 hB1
  refine hK.out _ _ hS1 (fun _ => ?_)
  clear hK K h1'
  refine wpAnyH_ready (rs := [3]) (by kernel_rfl) (by simp) ?_
  refine AllReadyH.cons rfl (fun K hK => ?_) AllReadyH.nil
  go_simp
  refine (lawCall_min (V.mk k1 h1 t1 l1 ks1 vs1) u1 j1 (fun _ => True) [.int .i64 k1, .int .i64 h1, .string t1, .slice P1 l1.length p1, .slice Q1 ks1.length q1, .slice R1 vs1.length r1] a1 b1 s1 S1 T1 U1 c1 d1 e1 f1 g1 i1 wa1 (HVK.out wa1 hB1) (hu1.mono fun _ _ => trivial) WV.out.1 (sm_len HSM.out) hT1).mono ?_
  rintro e' wb1 ⟨rfl, hc1'⟩
  have hD1 := below_trans hB1 hc1'
  have hQ1 := HKB.out wb1 hD1
  refine hK.out _ _ hQ1 (fun _ => ?_)
  clear hK K
  refine wpAnyH_take (i := 4) (v := .bool true) rfl (by kernel_rfl) (by kernel_rfl) (by kernel_rfl) (fun _ _ _ h => h) (Or.inl ⟨by rfl, ?_⟩) hQ1 ?_
  · intro W hSw
    obtain ⟨z0, z1, z2, z3, z4, z5⟩ := hSw
    go_simp
  simp only [List.getElem_toArray, List.getElem_cons_zero, List.getElem_cons_succ, Act.put, List.setIfInBounds_toArray, List.set_cons_zero, List.set_cons_succ]
  refine wpAnyH_take (i := 5) (v := .agg #[.int .i64 k1, .int .i64 h1, .string t1, .slice P1 l1.length p1, .slice Q1 ks1.length q1, .slice R1 vs1.length r1]) rfl (by kernel_rfl) (by kernel_rfl) (by kernel_rfl) (fun _ _ _ h => h) (Or.inl ⟨by rfl, ?_⟩) hQ1 ?_
  · intro W hSw
    obtain ⟨z0, z1, z2, z3, z4, z5⟩ := hSw
    go_simp
  simp only [List.getElem_toArray, List.getElem_cons_zero, List.getElem_cons_succ, Act.put, List.setIfInBounds_toArray, List.set_cons_zero, List.set_cons_succ]
  refine wpAnyH_take (i := 6) (v := .agg #[.int .i64 k1, .int .i64 h1, .string t1, .slice P1 l1.length p1, .slice Q1 ks1.length q1, .slice R1 vs1.length r1]) rfl (by kernel_rfl) (by kernel_rfl) (by kernel_rfl) (fun _ _ _ h => h) (Or.inl ⟨by rfl, ?_⟩) hQ1 ?_
  · intro W hSw
    obtain ⟨z0, z1, z2, z3, z4, z5⟩ := hSw
    go_simp
  simp only [List.getElem_toArray, List.getElem_cons_zero, List.getElem_cons_succ, Act.put, List.setIfInBounds_toArray, List.set_cons_zero, List.set_cons_succ]
  refine wpAnyH_ready (rs := [7]) (by kernel_rfl) (by simp) ?_
  refine AllReadyH.cons rfl (fun K hK => ?_) AllReadyH.nil
  go_simp
  refine (HMAX.out _ hD1).mono ?_
  rintro e' wa2 h2'
  obtain ⟨u2, a2, b2, s2, S2, T2, U2, c2, d2, e2, f2, g2, i2, j2, rfl, hu2, hT2, hb2⟩ := resPost_shape h2'
  have hB2 := below_trans hD1 hb2
  have hS2 := HKB.out wa2 hB2
  refine hK.out _ _ hS2 (fun _ => ?_)
  clear hK K h2'
  refine wpAnyH_ready (rs := [8]) (by kernel_rfl) (by simp) ?_
  refine AllReadyH.cons rfl (fun K hK => ?_) AllReadyH.nil
  go_simp
  refine (lawCall_max (V.mk k1 h1 t1 l1 ks1 vs1) u2 j2 (fun _ => True) [.int .i64 k1, .int .i64 h1, .string t1, .slice P1 l1.length p1, .slice Q1 ks1.length q1, .slice R1 vs1.length r1] a2 b2 s2 S2 T2 U2 c2 d2 e2 f2 g2 i2 wa2 (HVK.out wa2 hB2) (hu2.mono fun _ _ => trivial) WV.out.1 (sm_len HSM.out) hT2).mono ?_
  rintro e' wb2 ⟨rfl, hc2'⟩
  have hD2 := below_trans hB2 hc2'
  have hQ2 := HKB.out wb2 hD2
  refine hK.out _ _ hQ2 (fun _ => ?_)
  clear hK K
  refine wpAnyH_take (i := 9) (v := .bool true) rfl (by kernel_rfl) (by kernel_rfl) (by kernel_rfl) (fun _ _ _ h => h) (Or.inl ⟨by rfl, ?_⟩) hQ2 ?_
  · intro W hSw
    obtain ⟨z0, z1, z2, z3, z4, z5⟩ := hSw
    go_simp
  simp only [List.getElem_toArray, List.getElem_cons_zero, List.getElem_cons_succ, Act.put, List.setIfInBounds_toArray, List.set_cons_zero, List.set_cons_succ]
  refine wpAnyH_take (i := 10) (v := .bool true) rfl (by kernel_rfl) (by kernel_rfl) (by kernel_rfl) (fun _ _ _ h => h) (Or.inl ⟨by rfl, ?_⟩) hQ2 ?_
  · intro W hSw
    obtain ⟨z0, z1, z2, z3, z4, z5⟩ := hSw
    go_simp
  simp only [List.getElem_toArray, List.getElem_cons_zero, List.getElem_cons_succ, Act.put, List.setIfInBounds_toArray, List.set_cons_zero, List.set_cons_succ]
  refine wpAnyH_done (by kernel_rfl) ?_ _
  have HBD := Lib.hid hD2
  clear hQ2 hS2 hS1 hQ1
  go_wp2_with fail
  go_ret
  exact ⟨rfl, below_trans HBW0.out (below_trans HB4.out HBD.out)⟩
end Go.Proofs.YtpamlgdcnmcedaaGreatDoor
