/- A jq value in memory, no slice of great capacity: what toGo makes. impl.listToGo, with the capacities. impl.mapToGo, impl.toGo. impl.toGo. -/
import Derived.Test.YtpamlgdcnmcedaaGreatDoorD
import Derived.Test.YtpamlgdcnmcedaaGreatDoorC1
import Derived.Test.YtpamlgdcnmcedaaGreatDoorW2
import Derived.Deep.OwnRows
import Derived.Test.YtpamlgdcnmcedaaGreatDoorG3
import Derived.Test.YtpamlgdcnmcedaaGreatDoorS
set_option linter.unusedVariables false
set_option linter.unusedSimpArgs false
namespace Go.Proofs.YtpamlgdcnmcedaaGreatDoor
open Go Go.RowKit
section
variable {w w' : World} {ok ok' : Nat → Prop}
/-- What a jq value is in memory, in blocks that are ok, no slice of great capacity. -/
inductive Jk (w : World) (ok : Nat → Prop) : J → Value → Prop
  | null : Jk w ok .null .nilIface
  | bool (b : Bool) : Jk w ok (.bool b) (.iface 4 (.bool b))
  | int (n : Int) : Jk w ok (.int n) (.iface 3 (.int .i64 n))
  | hf (h : Int) : Jk w ok (.hf h) (.iface 82 (.float .f64 (Fl.hw h)))
  | str (s : ByteArray) : Jk w ok (.str s) (.iface 9 (.string s))
  | arr (l : List J) (A : Option Addr) (c : Nat) (f : Nat → Value) (hc : l.length ≤ c) (hk : c ≤ 1000000)
      (r : RowAt w ok 1 A l.length fun i => [f i]) (e : ∀ (i : Nat) (j : J), l[i]? = some j → Jk w ok j (f i)) : Jk w ok (.arr l) (.iface 62 (.slice A l.length c))
  | obj (ks : List ByteArray) (vs : List J) (b : Nat) (es : Array MapEntry) (clock : Nat) (f : Nat → Value) (ho : ok b)
      (hb : w.heap[b]? = some (.map es clock)) (hn : es.size = ks.length) (hv : vs.length = ks.length) (hnd : ks.Nodup)
      (he : ∀ e, e ∈ es.toList → ∃ s, e.key = .string s ∧ s ∈ ks)
      (hg : ∀ (i : Nat) (s : ByteArray), ks[i]? = some s → getS es.toList s = some (f i)) (hst : MapKept.Stamped es clock)
      (e : ∀ (i : Nat) (j : J), vs[i]? = some j → Jk w ok j (f i)) : Jk w ok (.obj ks vs) (.iface 85 (.map (some b)))

theorem Jk.move (hm : ∀ b, ok b → w'.heap[b]? = w.heap[b]?) {j : J} {x : Value} (h : Jk w ok j x) : Jk w' ok j x := by
  induction h with
  | null => exact .null
  | bool b => exact .bool b
  | int n => exact .int n
  | hf h => exact .hf h
  | str s => exact .str s
  | arr l A c f hc hk r e ih => exact .arr l A c f hc hk (r.move hm) ih
  | obj ks vs b es clock f ho hb hn hv hnd he hg hst e ih => exact .obj ks vs b es clock f ho ((hm b ho).trans hb) hn hv hnd he hg hst ih
theorem Jk.mono (hm : ∀ b, ok b → ok' b) {j : J} {x : Value} (h : Jk w ok j x) : Jk w ok' j x := by
  induction h with
  | null => exact .null
  | bool b => exact .bool b
  | int n => exact .int n
  | hf h => exact .hf h
  | str s => exact .str s
  | arr l A c f hc hk r e ih => exact .arr l A c f hc hk (r.mono hm) ih
  | obj ks vs b es clock f ho hb hn hv hnd he hg hst e ih => exact .obj ks vs b es clock f (hm b ho) hb hn hv hnd he hg hst ih
theorem Jk.bound {j : J} {x : Value} (h : Jk w ok j x) : Jk w (fun b => ok b ∧ b < w.heap.size) j x := by
  induction h with
  | null => exact .null
  | bool b => exact .bool b
  | int n => exact .int n
  | hf h => exact .hf h
  | str s => exact .str s
  | arr l A c f hc hk r e ih => exact .arr l A c f hc hk (r.bound fun i hi => by simp) ih
  | obj ks vs b es clock f ho hb hn hv hnd he hg hst e ih =>
    refine .obj ks vs b es clock f ⟨ho, ?_⟩ hb hn hv hnd he hg hst ih
    rcases Nat.lt_or_ge b w.heap.size with h | h
    · exact h
    · rw [Array.getElem?_eq_none h] at hb; cases hb
theorem Jk.form {j : J} {x : Value} (h : Jk w ok j x) : x = .nilIface ∨ ∃ t y, x = .iface t y := by
  cases h <;> first | exact .inl rfl | exact .inr ⟨_, _, rfl⟩
theorem Jk.keep (hb : Below w.heap.size w w') {j : J} {x : Value} (h : Jk w ok j x) : Jk w' ok j x :=
  (h.bound.move fun b hb' => hb.block b hb'.2).mono fun _ h => h.1
end
theorem Jk.jr {w : World} {ok : Nat → Prop} {j : J} {x : Value} (h : Jk w ok j x) : Jr w ok j x := by
  induction h with
  | null => exact .null
  | bool b => exact .bool b
  | int n => exact .int n
  | hf h => exact .hf h
  | str s => exact .str s
  | arr l A c f hc hk r e ih => exact .arr l A c f hc r ih
  | obj ks vs b es clock f ho hb hn hv hnd he hg hst e ih => exact .obj ks vs b es clock f ho hb hn hv hnd he hg hst ih
end Go.Proofs.YtpamlgdcnmcedaaGreatDoor

set_option linter.unusedVariables false
set_option linter.unusedSimpArgs false
set_option maxRecDepth 100000
namespace Go.Proofs.YtpamlgdcnmcedaaGreatDoor.K
open Go Go.RowKit

theorem info20 : (Tryz.prog.info? 20).map (fun i => (i.zero, i.size, i.bytes)) = some (some .nilIface, 1, 16) := by kernel_rfl

/-- A []any of the call's own, filled up to k. -/
structure Filled (w : World) (g n k : Nat) (js : List J) (wr : World) : Prop where
  below : Below w.heap.size w wr
  hg : w.heap.size ≤ g
  blk : ∃ arr : Array Value, wr.heap[g]? = some (.cells arr 20 (0, 0)) ∧ arr.size = n ∧ ∀ (i : Nat) (j : J), i < k → js[i]? = some j → ∃ x, arr[i]? = some x ∧ Jk wr (fun b => g < b) j x
theorem heap_lt {w : World} {g : Nat} {o : Obj} (h : w.heap[g]? = some o) : g < w.heap.size := (Array.getElem?_eq_some_iff.1 h).1
theorem Filled.start (w : World) (n : Nat) (js : List J) : Filled w w.heap.size n 0 js (w.alloc (.cells (madeCells #[.nilIface] n) 20)) :=
  ⟨(Below.refl _ _).alloc (Nat.le_refl _) _, Nat.le_refl _, _, heap_alloc_new w _, size_madeCells _ _, fun i j hi => by omega⟩
section
variable {w wr w' : World} {g n k : Nat} {js : List J}
theorem Filled.lt (h : Filled w g n k js wr) : g < wr.heap.size := by
  obtain ⟨arr, ha, _⟩ := h.blk
  exact heap_lt ha
theorem Filled.cell (h : Filled w g n k js wr) (hb : Below wr.heap.size wr w') (hk : k < n) : ∃ u, w'.cell? ⟨g, k, none⟩ = some u := by
  obtain ⟨arr, ha, hs, _⟩ := h.blk
  have ha' := (hb.block g (heap_lt ha)).trans ha
  refine ⟨arr[k], ?_⟩
  simp [World.cell?, ha', hs, hk]
theorem Filled.frozen (h : Filled w g n k js wr) (hb : Below wr.heap.size wr w') : w'.frozen? ⟨g, k, none⟩ = false := by
  obtain ⟨arr, ha, hs, _⟩ := h.blk
  have ha' := (hb.block g (heap_lt ha)).trans ha
  simp [World.frozen?, ha']
theorem heap_setCell_row {w : World} {g i : Nat} {arr : Array Value} {t : TypeId} {fz : Nat × Nat} (h : w.heap[g]? = some (.cells arr t fz)) (x : Value) : (w.setCell ⟨g, i, none⟩ x).heap[g]? = some (.cells (arr.setIfInBounds i x) t fz) := by
  simp [World.setCell, Array.getElem?_modify, h]
theorem Filled.step (h : Filled w g n k js wr) (hb : Below wr.heap.size wr w') (hk : k < n) {x : Value} (hx : ∀ j, js[k]? = some j → Jk w' (fun b => g < b) j x) :
    Filled w g n (k + 1) js (w'.setCell ⟨g, k, none⟩ x) := by
  obtain ⟨arr, ha, hs, hf⟩ := h.blk
  have ha' := (hb.block g (heap_lt ha)).trans ha
  have hmv : ∀ b, g < b → (w'.setCell ⟨g, k, none⟩ x).heap[b]? = w'.heap[b]? := fun b hb => Below.heap_setCell _ _ _ _ (by show b ≠ g; omega)
  refine ⟨(below_trans h.below hb).setCell h.hg _, h.hg, _, heap_setCell_row ha' x, by simp [hs], fun i j hi hj => ?_⟩
  by_cases hik : i = k
  · subst hik
    exact ⟨x, by simp [Array.getElem?_setIfInBounds, hs, hk], (hx j hj).move hmv⟩
  · obtain ⟨y, hy, hJ⟩ := hf i j (by omega) hj
    refine ⟨y, ?_, (hJ.keep hb).move hmv⟩
    rw [Array.getElem?_setIfInBounds, if_neg (by omega)]
    exact hy
theorem Filled.done (h : Filled w g n n js wr) (hn : js.length = n) : ∃ f' : Nat → Value, RowAt wr (fun b => w.heap.size ≤ b) 1 (some ⟨g, 0, none⟩) n (fun i => [f' i]) ∧ ∀ (i : Nat) (j : J), js[i]? = some j → Jk wr (fun b => w.heap.size ≤ b) j (f' i) := by
  obtain ⟨arr, ha, hs, hf⟩ := h.blk
  have hg := h.hg
  refine ⟨fun i => arr.getD i undef, fun _ => ⟨_, rfl, hg, fun i j u hi hu => ?_⟩, fun i j hj => ?_⟩
  · match j, hu with
    | 0, hu =>
      simp only [List.getElem?_cons_zero, Option.some.injEq] at hu
      subst hu
      have e : (⟨g, 0, none⟩ : Addr).add (i * 1 + 0) = ⟨g, i, none⟩ := by
        unfold Addr.add
        split
        · rename_i h0; have : i = 0 := by omega
          subst this; rfl
        · simp
      rw [e]
      simp [World.cell?, ha, hs, hi]
    | j + 1, hu => simp at hu
  · have hi : i < n := by
      rw [← hn]; exact (List.getElem?_eq_some_iff.1 hj).1
    obtain ⟨x, hx, hJ⟩ := hf i j hi hj
    have : arr.getD i undef = x := by simp [Array.getD_eq_getD_getElem?, hx]
    simp only [this]
    exact hJ.mono fun b hb => by omega
end

def ToGoPost (v : V) (w : World) (e : Ending) (w' : World) : Prop := ∃ x, e = .returned (.tuple #[x, .bool true]) ∧ Jk w' (fun b => w.heap.size ≤ b) v.j x ∧ Below w.heap.size w w'
def ToGoIH (n : Nat) : Prop := ∀ v ok cs w, SizeOf.sizeOf v < n → WF v → Sm v → Vr w ok v cs → Calls Tryz.prog 47 #[.agg cs.toArray] w (ToGoPost v w)
def ListToGoPost (l : List V) (w : World) (e : Ending) (w' : World) : Prop := ∃ (A' : Option Addr) (f' : Nat → Value), e = .returned (.tuple #[.slice A' l.length l.length, .bool true]) ∧
      RowAt w' (fun b => w.heap.size ≤ b) 1 A' l.length (fun i => [f' i]) ∧ (∀ (i : Nat) (j : J), (V.js l)[i]? = some j → Jk w' (fun b => w.heap.size ≤ b) j (f' i)) ∧ Below w.heap.size w w'

theorem js_get {l : List V} {i : Nat} {j : J} (h : (V.js l)[i]? = some j) {v : V} (hv : l[i]? = some v) : j = v.j := by
  rw [V.js_map, List.getElem?_map, hv] at h
  simpa using h.symm
theorem js_len (l : List V) : (V.js l).length = l.length := by rw [V.js_map, List.length_map]

theorem listToGo_one (n : Nat) (ih : ToGoIH n)
    (l : List V) (ok : Nat → Prop) (A : Option Addr) (c : Nat) (f : Nat → List Value) (w : World) (hn : ∀ v, v ∈ l → SizeOf.sizeOf v < n) (hw : ∀ v, v ∈ l → WF v) (hp : l.length ≤ 1000000) (hsm : ∀ v, v ∈ l → Sm v)
    (r : RowAt w ok 6 A l.length f) (e : ∀ (i : Nat) (v : V), l[i]? = some v → Vr w ok v (f i)) :
    Calls Tryz.prog 91 #[.slice A l.length c] w (ListToGoPost l w) := by
  have hmk := run_make_row' (P := Tryz.prog) 62 20 .nilIface 16 Tryz.underlying62 info20 rfl .i64 .i64 l.length (by omega) (by omega)
  go_enter Tryz.func91, Tryz.ntmps91
  go_wp2_with fail
  go_loopw [14] (fun i wr => ∃ k : Nat, k ≤ l.length ∧ i = .int .i64 k ∧ Filled w w.heap.size l.length k (V.js l) wr) (fun i _ => l.length - (intOf i).toNat)
  case atStart => exact ⟨0, Nat.zero_le _, rfl, Filled.start _ _ _⟩
  case round =>
    obtain ⟨k, hk, rfl, hrel⟩ := hrel
    by_cases hlt : k < l.length
    · have hl : l[k]? = some l[k] := List.getElem?_eq_getElem hlt
      have hV := e k _ hl
      obtain ⟨ad, hA, _, hc0⟩ := r (by omega)
      subst hA
      have hc := fun j u hu => cell_kept hrel.below (hc0 k j u hlt hu)
      clear hc0
      have hV := Vr.keep hrel.below hV
      generalize f k = cs at hV hc
      generalize l[k] = v at hV hl
      have HV := Lib.hid hV
      have HL := Lib.hid hl
      clear hl
      obtain ⟨k', h', t', l', ks', vs', A1, c1, A2, c2, A3, c3, f1, g1, ht, h1, h2, h3, b1, b2, b3, hk', hh', hs', r1, e1, r2, r3, e3⟩ := hV
      obtain ⟨q0, q1, q2, q3, q4, q5⟩ := cells6 hc
      clear hc
      go_wp2_with fail
      refine (ih _ _ _ _ (hn _ (List.mem_of_getElem? HL.out)) (hw _ (List.mem_of_getElem? HL.out)) (hsm _ (List.mem_of_getElem? HL.out)) (Vr.keep ((Below.refl _ _).alloc (Nat.le_refl _) _) HV.out)).mono ?_
      rintro e' w' ⟨x, rfl, hx, hb⟩
      have hb1 := below_trans ((Below.refl wr.heap.size wr).alloc (Nat.le_refl _) _) hb
      obtain ⟨u, hcell⟩ := hrel.cell hb1 hlt
      have hfr := hrel.frozen (k := k) hb1
      have hstep := hrel.step hb1 hlt (x := x) (fun j hj => by
        rw [js_get hj HL.out]
        refine hx.mono fun b hb => ?_
        have := hrel.lt
        simp at hb
        omega)
      clear q0 q1 q2 q3 q4 q5
      rcases hx.form with rfl | ⟨t, y, rfl⟩
      all_goals
        go_wp2_with fail
        go_roundw
        case rel => exact ⟨k + 1, by omega, by go_num, hstep⟩
        case measure => simp [intOf]; omega
    · have hkn : k = l.length := by omega
      subst hkn
      go_wp2_with fail
      go_ret2
      obtain ⟨f', hr, hj⟩ := hrel.done (js_len l)
      exact ⟨_, f', rfl, hr, hj, hrel.below⟩
end Go.Proofs.YtpamlgdcnmcedaaGreatDoor.K

set_option linter.unusedVariables false
set_option linter.unusedSimpArgs false
set_option maxRecDepth 100000
namespace Go.Proofs.YtpamlgdcnmcedaaGreatDoor.K
open Go Go.RowKit

/-- A map of the call's own that holds the first k keys. -/
structure MFilled (w : World) (b k : Nat) (ks : List ByteArray) (js : List J) (wr : World) : Prop where
  below : Below w.heap.size w wr
  hb : w.heap.size ≤ b
  blk : ∃ (es : Array MapEntry) (clock : Nat), wr.heap[b]? = some (.map es clock) ∧ es.size = k ∧ MapKept.Stamped es clock ∧
    (∀ (i : Nat) (e : MapEntry), es[i]? = some e → ∃ s, ks[i]? = some s ∧ e.key = .string s) ∧
    (∀ (i : Nat) (e : MapEntry) (j : J), es[i]? = some e → js[i]? = some j → Jk wr (fun c => b < c) j e.val)
section
variable {w wr w' : World} {b k : Nat} {ks : List ByteArray} {js : List J}
theorem MFilled.start (w : World) (ks : List ByteArray) (js : List J) : MFilled w w.heap.size 0 ks js (w.alloc (.map #[] 0)) :=
  ⟨(Below.refl _ _).alloc (Nat.le_refl _) _, Nat.le_refl _, #[], 0, heap_alloc_new w _, rfl, MapKept.stamped_empty 0, fun i e h => by simp at h, fun i e j h => by simp at h⟩
theorem MFilled.lt (h : MFilled w b k ks js wr) : b < wr.heap.size := by
  obtain ⟨es, cl, ha, _⟩ := h.blk
  exact heap_lt ha
/-- A round: the store's run, and what holds behind it. -/
theorem MFilled.step (h : MFilled w b k ks js wr) (hbl : Below wr.heap.size wr w') {s : ByteArray} (hs : ks[k]? = some s) (hnd : ks.Nodup) {x : Value} (hx : ∀ j, js[k]? = some j → Jk w' (fun c => b < c) j x) :
    ∃ W2, (Instr.mapUpdate 85 (.map (some b)) (.string s) x).run Tryz.prog w' = .ok () W2 ∧ MFilled w b (k + 1) ks js W2 := by
  obtain ⟨es, cl, ha, hsz, hst, hk, hj⟩ := h.blk
  have ha' := (hbl.block b (heap_lt ha)).trans ha
  have hall : AllS es.toList := fun e he => by
    obtain ⟨i, hi⟩ := List.getElem?_of_mem he
    obtain ⟨s', _, he'⟩ := hk i e (by rw [← hi]; simp)
    exact ⟨s', he'⟩
  have hn : ∀ e, e ∈ es.toList → e.key ≠ .string s := fun e he hes => by
    obtain ⟨i, hi⟩ := List.getElem?_of_mem he
    have hi' : es[i]? = some e := by rw [← hi]; simp
    obtain ⟨s', hs', he'⟩ := hk i e hi'
    rw [he'] at hes
    injection hes with hes
    subst hes
    have hik : i < k := by rw [← hsz]; exact (Array.getElem?_eq_some_iff.1 hi').1
    have := (List.getElem?_inj (List.getElem?_eq_some_iff.1 hs').1 hnd).1 (hs'.trans hs.symm)
    omega
  refine ⟨_, run_mapUpdate_new ha' hall hn x, ?_⟩
  have hmv : ∀ (o : Obj) (c : Nat), b < c → (World.put w' b o).heap[c]? = w'.heap[c]? := fun o c hc => heap_put_other (by omega)
  refine ⟨below_put (below_trans h.below hbl) h.hb _, h.hb, _, _, heap_put (heap_lt ha'), by simp [hsz], MapKept.stamped_push hst hn, fun i e he => ?_, fun i e j he hjj => ?_⟩
  · rw [Array.getElem?_push] at he
    split at he
    · rename_i hi
      injection he with he; subst he
      exact ⟨s, by rw [hi, hsz]; exact hs, rfl⟩
    · exact hk i e he
  · rw [Array.getElem?_push] at he
    split at he
    · rename_i hi
      injection he with he; subst he
      exact (hx j (by rw [← hsz, ← hi]; exact hjj)).move (hmv _)
    · exact ((hj i e j he hjj).keep hbl).move (hmv _)
theorem getS_at : ∀ (es : List MapEntry) (ks : List ByteArray) (i : Nat) (s : ByteArray) (e : MapEntry), (∀ (i : Nat) (e : MapEntry), es[i]? = some e → ∃ s, ks[i]? = some s ∧ e.key = .string s) → ks.Nodup → ks[i]? = some s → es[i]? = some e → getS es s = some e.val
  | [], _, _, _, _, _, _, _, he => by simp at he
  | a :: es, [], i, s, e, _, _, hs, _ => by simp at hs
  | a :: es, k :: ks, 0, s, e, hk, hnd, hs, he => by
    simp at hs he
    subst hs he
    obtain ⟨s', h1, h2⟩ := hk 0 _ rfl
    simp at h1
    subst h1
    simp [getS, h2]
  | a :: es, k :: ks, i + 1, s, e, hk, hnd, hs, he => by
    have hs' : ks[i]? = some s := by simpa using hs
    have he' : es[i]? = some e := by simpa using he
    obtain ⟨s', h1, h2⟩ := hk 0 _ rfl
    simp at h1
    subst h1
    rw [List.nodup_cons] at hnd
    have hne : s ≠ k := fun h => hnd.1 (h ▸ List.mem_of_getElem? hs')
    simp only [getS, h2, if_neg hne]
    exact getS_at es ks i s e (fun i e h => by
      obtain ⟨s', h1, h2⟩ := hk (i + 1) e (by simpa using h)
      exact ⟨s', by simpa using h1, h2⟩) hnd.2 hs' he'
theorem MFilled.done (h : MFilled w b ks.length ks js wr) (hnd : ks.Nodup) (hl : js.length = ks.length) : Jk wr (fun c => w.heap.size ≤ c) (.obj ks js) (.iface 85 (.map (some b))) := by
  obtain ⟨es, cl, ha, hsz, hst, hk, hj⟩ := h.blk
  have hb := h.hb
  refine .obj ks js b es cl (fun i => (es.getD i default).val) hb ha hsz hl hnd (fun e he => ?_) (fun i s hs => ?_) hst (fun i j hjj => ?_)
  · obtain ⟨i, hi⟩ := List.getElem?_of_mem he
    obtain ⟨s', h1, he'⟩ := hk i e (by rw [← hi]; simp)
    exact ⟨s', he', List.mem_of_getElem? h1⟩
  · have hi : i < es.size := by rw [hsz]; exact (List.getElem?_eq_some_iff.1 hs).1
    have hg := getS_at es.toList ks i s es[i] (fun i e h => hk i e (by simpa using h)) hnd hs (by simp [hi])
    rw [hg]
    simp [Array.getD_eq_getD_getElem?, hi]
  · have hi : i < es.size := by rw [hsz, ← hl]; exact (List.getElem?_eq_some_iff.1 hjj).1
    have := hj i es[i] j (Array.getElem?_eq_getElem hi) hjj
    have e : (es.getD i default).val = es[i].val := by simp [Array.getD_eq_getD_getElem?, hi]
    simp only [e]
    exact this.mono fun c hc => by omega
end

theorem at_lt {α : Type} {l : List α} {p : Nat} (h : p < l.length) : ∃ a, l[p]? = some a := ⟨l[p], List.getElem?_eq_getElem h⟩
theorem strs_at {w : World} {ok : Nat → Prop} {A : Option Addr} {m : Nat} {ks : List ByteArray} (r : RowAt w ok 1 A m (strCell ks)) (hm : 0 < m) : ∃ ad, A = some ad ∧ ∀ i s, i < m → ks[i]? = some s → w.cell? (ad.add i) = some (.string s) := by
  obtain ⟨ad, hA, _, hc⟩ := r hm
  refine ⟨ad, hA, fun i s hi hs => ?_⟩
  have := hc i 0 (.string s) hi (by simp [strCell, List.getD_eq_getElem?_getD, hs])
  simpa using this
theorem run_makeMap_hint (n : Int) (w : World) : (Instr.makeMap 85 (some (.int .i64 n))).run Tryz.prog w = .ok (.map (some w.heap.size)) (w.alloc (.map #[] 0)) := by
  simp [Instr.makeMap, run_underlying Tryz.underlying85]; rfl

def MapToGoPost (ks : List ByteArray) (vs : List V) (w : World) (e : Ending) (w' : World) : Prop := ∃ b, e = .returned (.tuple #[.map (some b), .bool true]) ∧ Jk w' (fun c => w.heap.size ≤ c) (.obj ks (V.js vs)) (.iface 85 (.map (some b))) ∧ Below w.heap.size w w'
theorem mapToGo_one (n : Nat) (ih : ToGoIH n) (k h : Int) (t : ByteArray) (ks : List ByteArray) (vs : List V) (ok : Nat → Prop) (A1 A2 A3 : Option Addr) (n1 c1 c2 c3 m : Nat) (g : Nat → List Value)
    (w : World) (hn : ∀ v, v ∈ vs → SizeOf.sizeOf v < n) (hw : ∀ v, v ∈ vs → WF v) (hp : vs.length ≤ 1000000) (hsm : ∀ v, v ∈ vs → Sm v) (hk : ks.length = m) (hv : vs.length = m) (hsort : sortedS ks) (hnd : ks.Nodup)
    (r2 : RowAt w ok 1 A2 m (strCell ks)) (r3 : RowAt w ok 6 A3 m g) (e3 : ∀ (i : Nat) (v : V), vs[i]? = some v → Vr w ok v (g i)) :
    Calls Tryz.prog 92 #[.agg #[.int .i64 k, .int .i64 h, .string t, .slice A1 n1 c1, .slice A2 m c2, .slice A3 m c3]] w (MapToGoPost ks vs w) := by
  have hlv : m ≤ 1000000 := by omega
  have hmm := run_makeMap_hint (m : Int)
  have HK := Lib.hid hk
  have HV := Lib.hid hv
  clear hk hv
  go_enter Tryz.func92, Tryz.ntmps92
  go_wp2_with fail
  obtain ⟨w1, hw1⟩ : ∃ w1, w1 = w.alloc (.cells #[.int .i64 k, .int .i64 h, .string t, .slice A1 n1 c1, .slice A2 m c2, .slice A3 m c3] 26) := ⟨_, rfl⟩
  have hbw : Below w.heap.size w w1 := by rw [hw1]; exact (Below.refl _ _).alloc (Nat.le_refl _) _
  have hx4 : w1.cell? ⟨w.heap.size, 4, none⟩ = some (.slice A2 m c2) := by rw [hw1]; simp
  have hx5 : w1.cell? ⟨w.heap.size, 5, none⟩ = some (.slice A3 m c3) := by rw [hw1]; simp
  have hsz1 : w1.heap.size = w.heap.size + 1 := by rw [hw1]; simp
  have HST : Hid (MFilled w1 (w.heap.size + 1) 0 ks (V.js vs) ((w.alloc (.cells #[.int .i64 k, .int .i64 h, .string t, .slice A1 n1 c1, .slice A2 m c2, .slice A3 m c3] 26)).alloc (.map #[] 0))) := by
    rw [← hsz1, ← hw1]; exact MFilled.start w1 ks _
  have HW := Lib.hid hw1
  have HZ := Lib.hid hsz1
  clear hw1 hsz1
  go_loopw [23] (fun i wr => ∃ p : Nat, p ≤ m ∧ i = .int .i64 p ∧ MFilled w1 (w.heap.size + 1) p ks (V.js vs) wr) (fun i _ => m - (intOf i).toNat)
  case atStart => exact ⟨0, Nat.zero_le _, rfl, HST.out⟩
  case round =>
    obtain ⟨p, hp', rfl, hrel⟩ := hrel
    have hx4 := cell_kept hrel.below hx4
    have hx5 := cell_kept hrel.below hx5
    by_cases hlt : p < m
    · obtain ⟨s, hs⟩ := at_lt (l := ks) (p := p) (by rw [HK.out]; exact hlt)
      obtain ⟨v, hv⟩ := at_lt (l := vs) (p := p) (by rw [HV.out]; exact hlt)
      obtain ⟨ad2, hA2, hc2⟩ := strs_at r2 (by omega)
      obtain ⟨ad3, hA3, _, hc3⟩ := r3 (by omega)
      subst hA2 hA3
      have hbr := below_trans hbw hrel.below
      have hks := cell_kept hbr (hc2 p s hlt hs)
      have hc := fun j u hu => cell_kept hbr (hc3 p j u hlt hu)
      have hV := Vr.keep hbr (e3 p v hv)
      generalize g p = cs at hV hc
      have HVR := Lib.hid hV
      have HS := Lib.hid hs
      have HVV := Lib.hid hv
      have hprev : 0 < p → ∃ s0, wr.cell? (ad2.add (p - 1)) = some (.string s0) ∧ Op.bytesLess s0.toList s.toList = true := fun h0 => by
        obtain ⟨s0, hs0⟩ := at_lt (l := ks) (p := p - 1) (by rw [HK.out]; omega)
        exact ⟨s0, cell_kept hbr (hc2 (p - 1) s0 (by omega) hs0), hsort (p - 1) s0 s hs0 (by rw [show p - 1 + 1 = p from by omega]; exact hs)⟩
      clear hs hv hc2 hc3
      obtain ⟨k', h', t', l', ks', vs', B1, d1, B2, d2, B3, d3, f1, g1, ht, h1, h2, h3, b1, b2, b3, hk', hh', hs', q1, e1, q2, q3, e3'⟩ := hV
      obtain ⟨z0, z1, z2, z3, z4, z5⟩ := cells6 hc
      clear hc
      by_cases hp0 : 0 < p
      · obtain ⟨s0, hs0, hless⟩ := hprev hp0
        go_wp2_with fail
        refine (ih _ _ _ _ (hn _ (List.mem_of_getElem? HVV.out)) (hw _ (List.mem_of_getElem? HVV.out)) (hsm _ (List.mem_of_getElem? HVV.out)) HVR.out).mono ?_
        rintro e' w' ⟨x, rfl, hx, hb⟩
        obtain ⟨W2, hrun, hstep⟩ := hrel.step hb HS.out hnd (x := x) (fun j hj => by
          rw [js_get hj HVV.out]
          refine hx.mono fun b hb => ?_
          have := hrel.lt
          omega)
        clear hx4 hx5 hks z0 z1 z2 z3 z4 z5
        go_wp2_with fail
        go_roundw
        case rel => exact ⟨p + 1, by omega, by go_num, hstep⟩
        case measure => simp [intOf]; omega
      · go_wp2_with fail
        refine (ih _ _ _ _ (hn _ (List.mem_of_getElem? HVV.out)) (hw _ (List.mem_of_getElem? HVV.out)) (hsm _ (List.mem_of_getElem? HVV.out)) HVR.out).mono ?_
        rintro e' w' ⟨x, rfl, hx, hb⟩
        obtain ⟨W2, hrun, hstep⟩ := hrel.step hb HS.out hnd (x := x) (fun j hj => by
          rw [js_get hj HVV.out]
          refine hx.mono fun b hb => ?_
          have := hrel.lt
          omega)
        clear hx4 hx5 hks z0 z1 z2 z3 z4 z5
        go_wp2_with fail
        go_roundw
        case rel => exact ⟨p + 1, by omega, by go_num, hstep⟩
        case measure => simp [intOf]; omega
    · have hkn : p = m := by omega
      subst hkn
      go_wp2_with fail
      go_ret2
      refine ⟨_, rfl, ?_, below_trans hbw hrel.below⟩
      have := MFilled.done (ks := ks) (js := V.js vs) (by rw [HK.out]; exact hrel) hnd (by rw [js_len, HK.out, HV.out])
      exact this.mono fun c hc => by have := HZ.out; omega
end Go.Proofs.YtpamlgdcnmcedaaGreatDoor.K

set_option linter.unusedVariables false
set_option linter.unusedSimpArgs false
set_option maxRecDepth 100000
namespace Go.Proofs.YtpamlgdcnmcedaaGreatDoor.K
open Go Go.RowKit
theorem toGo_step (n : Nat) (ih : ToGoIH n) : ToGoIH (n + 1) := by
  intro v ok cs w hn hw hp hv
  obtain ⟨k, h, t, l, ks, vs, hk, hh, ht, hl, hks, hlen, hb, ho, hs, wl, wv⟩ := hw
  obtain ⟨_, _, _, _, _, _, A1, c1, A2, c2, A3, c3, f, g, ht', h1, h2, h3, b1, b2, b3, hk', hh', hs', r1, e1, r2, r3, e3⟩ := hv
  obtain ⟨_, _, _, _, _, _, pl1, pl2, sml, smv⟩ := hp
  have hbl : Below w.heap.size w (w.alloc (.cells #[.int .i64 k, .int .i64 h, .string t, .slice A1 l.length c1, .slice A2 ks.length c2, .slice A3 vs.length c3] 26)) := (Below.refl _ _).alloc (Nat.le_refl _) _
  have hcase : k = 0 ∨ k = 1 ∨ k = 2 ∨ k = 3 ∨ k = 4 ∨ k = 5 ∨ k = 6 := by omega
  have HL := Lib.hid hlen
  have HSO := Lib.hid hs
  clear hh ht hl hks hlen hs
  rcases hcase with rfl | rfl | rfl | rfl | rfl | rfl | rfl
  · go_enter Tryz.func47, Tryz.ntmps47
    go_wp2_with fail
    go_ret2
    exact ⟨_, rfl, .null, hbl⟩
  · go_enter Tryz.func47, Tryz.ntmps47
    go_wp2_with fail
    go_ret2
    exact ⟨_, rfl, .bool false, hbl⟩
  · go_enter Tryz.func47, Tryz.ntmps47
    go_wp2_with fail
    go_ret2
    exact ⟨_, rfl, .bool true, hbl⟩
  · by_cases he : h.tmod 2 = 0
    · have hj : (V.mk 3 h t l ks vs).j = .int (h.tdiv 2) := by simp [V.j, he]
      have HJ := Lib.hid hj
      clear hj
      go_enter Tryz.func47, Tryz.ntmps47
      go_wp2_with fail
      go_ret2
      exact ⟨_, rfl, by rw [HJ.out]; exact .int _, hbl⟩
    · have hj : (V.mk 3 h t l ks vs).j = .hf h := by simp [V.j, he]
      have HJ := Lib.hid hj
      have hdiv : ∀ W, (binOp .quo 82 (.float .f64 (floatOfInt .f64 h)) (.float .f64 4611686018427387904)).run Tryz.prog W = .ok (.float .f64 (Fl.hw h)) W := fun W =>
        run_float_arith W .quo 82 .f64 _ _ _ (Fl.div_two h (by rintro rfl; exact he rfl) (by omega))
      have heb : (h.tmod 2 == 0) = false := by simpa using he
      clear hj
      go_enter Tryz.func47, Tryz.ntmps47
      go_wp2_with fail

      go_ret2
      exact ⟨_, rfl, by rw [HJ.out]; exact .hf _, hbl⟩
  · go_enter Tryz.func47, Tryz.ntmps47
    go_wp2_with fail
    go_ret2
    exact ⟨_, rfl, .str t, hbl⟩
  · have H1 := listToGo_one n ih l ok A1 c1 f (w.alloc (.cells #[.int .i64 5, .int .i64 h, .string t, .slice A1 l.length c1, .slice A2 ks.length c2, .slice A3 vs.length c3] 26)) (fun v hv => by have := sizeOf_lt_list (k := 5) (h := h) (t := t) (ks := ks) (vs := vs) hv; omega) wl pl1 sml (r1.bound (fun i hi => by have := (e1 i _ (List.getElem?_eq_getElem hi)).len; omega) |>.move (fun b hb => hbl.block b hb.2) |>.mono (fun _ h => h.1)) (fun i v hv => (e1 i v hv).keep hbl)
    have H1' := Lib.hid H1
    clear H1
    go_enter Tryz.func47, Tryz.ntmps47
    go_wp2_with fail
    refine H1'.out.mono ?_
    rintro e w' ⟨A', f', rfl, hr, hj, hbw⟩
    go_wp2_with fail
    go_ret2
    refine ⟨_, rfl, ?_, below_trans hbl hbw⟩
    have := Jk.arr (w := w') (ok := fun b => w.heap.size ≤ b) (V.js l) A' l.length f' (by rw [js_len]; exact Nat.le_refl _) pl1 (by rw [js_len]; exact hr.mono fun b hb => by simp at hb; omega) (fun i j hj' => (hj i j hj').mono fun b hb => by simp at hb; omega)
    rw [js_len] at this
    exact this
  · obtain ⟨m, hm⟩ : ∃ m, ks.length = m := ⟨_, rfl⟩
    have hm2 : vs.length = m := HL.out.symm.trans hm
    simp only [hm, hm2] at r2 r3 hbl ⊢
    have H1 := mapToGo_one n ih 6 h t ks vs ok A1 A2 A3 l.length c1 c2 c3 m g (w.alloc (.cells #[.int .i64 6, .int .i64 h, .string t, .slice A1 l.length c1, .slice A2 m c2, .slice A3 m c3] 26)) (fun v hv => by have := sizeOf_lt_vals (k := 6) (h := h) (t := t) (ks := ks) (l := l) hv; omega) wv pl2 smv hm hm2 HSO.out (sortedS_nodup HSO.out) (r2.bound (fun i hi => by simp [strCell]) |>.move (fun b hb => hbl.block b hb.2) |>.mono (fun _ h => h.1)) (r3.bound (fun i hi => by have := (e3 i _ (List.getElem?_eq_getElem (by rw [hm2]; exact hi))).len; omega) |>.move (fun b hb => hbl.block b hb.2) |>.mono (fun _ h => h.1)) (fun i v hv => (e3 i v hv).keep hbl)
    have H1' := Lib.hid H1
    clear H1 hm hm2
    go_enter Tryz.func47, Tryz.ntmps47
    go_wp2_with fail
    refine H1'.out.mono ?_
    rintro e w' ⟨b, rfl, hr, hbw⟩
    go_wp2_with fail
    go_ret2
    exact ⟨_, rfl, hr.mono fun b hb => by simp at hb; omega, below_trans hbl hbw⟩
theorem toGo_all : ∀ n, ToGoIH n
  | 0 => fun v ok cs w hn => absurd hn (Nat.not_lt_zero _)
  | n + 1 => toGo_step n (toGo_all n)
theorem toGo_any (v : V) (ok : Nat → Prop) (cs : List Value) (w : World) (hw : WF v) (hp : Sm v) (hv : Vr w ok v cs) : Calls Tryz.prog 47 #[.agg cs.toArray] w (ToGoPost v w) :=
  toGo_all (SizeOf.sizeOf v + 1) v ok cs w (Nat.lt_succ_self _) hw hp hv
end Go.Proofs.YtpamlgdcnmcedaaGreatDoor.K
