/- impl.mapToGo, impl.toGo. -/
import Derived.Test.YtpamlgdcnmcedaaGreatDoorM
set_option linter.unusedVariables false
set_option linter.unusedSimpArgs false
set_option maxRecDepth 100000
namespace Go.Proofs.YtpamlgdcnmcedaaGreatDoor
open Go Go.RowKit

/-- A map of the call's own that holds the first k keys. -/
structure MFilled (w : World) (b k : Nat) (ks : List ByteArray) (js : List J) (wr : World) : Prop where
  below : Below w.heap.size w wr
  hb : w.heap.size ≤ b
  blk : ∃ (es : Array MapEntry) (clock : Nat), wr.heap[b]? = some (.map es clock) ∧ es.size = k ∧ MapKept.Stamped es clock ∧
    (∀ (i : Nat) (e : MapEntry), es[i]? = some e → ∃ s, ks[i]? = some s ∧ e.key = .string s) ∧
    (∀ (i : Nat) (e : MapEntry) (j : J), es[i]? = some e → js[i]? = some j → Jr wr (fun c => b < c) j e.val)
section
variable {w wr w' : World} {b k : Nat} {ks : List ByteArray} {js : List J}
theorem MFilled.start (w : World) (ks : List ByteArray) (js : List J) : MFilled w w.heap.size 0 ks js (w.alloc (.map #[] 0)) :=
  ⟨(Below.refl _ _).alloc (Nat.le_refl _) _, Nat.le_refl _, #[], 0, heap_alloc_new w _, rfl, MapKept.stamped_empty 0, fun i e h => by simp at h, fun i e j h => by simp at h⟩
theorem MFilled.lt (h : MFilled w b k ks js wr) : b < wr.heap.size := by
  obtain ⟨es, cl, ha, _⟩ := h.blk
  exact heap_lt ha
/-- A round: the store's run, and what holds behind it. -/
theorem MFilled.step (h : MFilled w b k ks js wr) (hbl : Below wr.heap.size wr w') {s : ByteArray} (hs : ks[k]? = some s) (hnd : ks.Nodup) {x : Value} (hx : ∀ j, js[k]? = some j → Jr w' (fun c => b < c) j x) :
    ∃ W2, (Instr.mapUpdate 85 (.map (some b)) (.string s) x).run Tryz.prog w' = .ok () W2 ∧ MFilled w b (k + 1) ks js W2 := by
  obtain ⟨es, cl, ha, hsz, hst, hk, hj⟩ := h.blk
  have ha' := (hbl.block b (heap_lt ha)).trans ha
  have hall : AllS es.toList := fun e he => by
    obtain ⟨i, hi⟩ := List.getElem?_of_mem he
    obtain ⟨s', _, he'⟩ := hk i e (by rw [← hi]; simp)
    exact ⟨s', he'⟩
  have hn : ∀ e, e ∈ es.toList → e.key ≠ .string s := fun e he hes => by
    obtain ⟨i, hi⟩ := List.getElem?_of_mem he
    have hi' : es[i]? = some e := by rw [← hi]; simp
    obtain ⟨s', hs', he'⟩ := hk i e hi'
    rw [he'] at hes
    injection hes with hes
    subst hes
    have hik : i < k := by rw [← hsz]; exact (Array.getElem?_eq_some_iff.1 hi').1
    have := (List.getElem?_inj (List.getElem?_eq_some_iff.1 hs').1 hnd).1 (hs'.trans hs.symm)
    omega
  refine ⟨_, run_mapUpdate_new ha' hall hn x, ?_⟩
  have hmv : ∀ (o : Obj) (c : Nat), b < c → (World.put w' b o).heap[c]? = w'.heap[c]? := fun o c hc => heap_put_other (by omega)
  refine ⟨below_put (below_trans h.below hbl) h.hb _, h.hb, _, _, heap_put (heap_lt ha'), by simp [hsz], MapKept.stamped_push hst hn, fun i e he => ?_, fun i e j he hjj => ?_⟩
  · rw [Array.getElem?_push] at he
    split at he
    · rename_i hi
      injection he with he; subst he
      exact ⟨s, by rw [hi, hsz]; exact hs, rfl⟩
    · exact hk i e he
  · rw [Array.getElem?_push] at he
    split at he
    · rename_i hi
      injection he with he; subst he
      exact (hx j (by rw [← hsz, ← hi]; exact hjj)).move (hmv _)
    · exact ((hj i e j he hjj).keep hbl).move (hmv _)
theorem getS_at : ∀ (es : List MapEntry) (ks : List ByteArray) (i : Nat) (s : ByteArray) (e : MapEntry), (∀ (i : Nat) (e : MapEntry), es[i]? = some e → ∃ s, ks[i]? = some s ∧ e.key = .string s) → ks.Nodup → ks[i]? = some s → es[i]? = some e → getS es s = some e.val
  | [], _, _, _, _, _, _, _, he => by simp at he
  | a :: es, [], i, s, e, _, _, hs, _ => by simp at hs
  | a :: es, k :: ks, 0, s, e, hk, hnd, hs, he => by
    simp at hs he
    subst hs he
    obtain ⟨s', h1, h2⟩ := hk 0 _ rfl
    simp at h1
    subst h1
    simp [getS, h2]
  | a :: es, k :: ks, i + 1, s, e, hk, hnd, hs, he => by
    have hs' : ks[i]? = some s := by simpa using hs
    have he' : es[i]? = some e := by simpa using he
    obtain ⟨s', h1, h2⟩ := hk 0 _ rfl
    simp at h1
    subst h1
    rw [List.nodup_cons] at hnd
    have hne : s ≠ k := fun h => hnd.1 (h ▸ List.mem_of_getElem? hs')
    simp only [getS, h2, if_neg hne]
    exact getS_at es ks i s e (fun i e h => by
      obtain ⟨s', h1, h2⟩ := hk (i + 1) e (by simpa using h)
      exact ⟨s', by simpa using h1, h2⟩) hnd.2 hs' he'
theorem MFilled.done (h : MFilled w b ks.length ks js wr) (hnd : ks.Nodup) (hl : js.length = ks.length) : Jr wr (fun c => w.heap.size ≤ c) (.obj ks js) (.iface 85 (.map (some b))) := by
  obtain ⟨es, cl, ha, hsz, hst, hk, hj⟩ := h.blk
  have hb := h.hb
  refine .obj ks js b es cl (fun i => (es.getD i default).val) hb ha hsz hl hnd (fun e he => ?_) (fun i s hs => ?_) hst (fun i j hjj => ?_)
  · obtain ⟨i, hi⟩ := List.getElem?_of_mem he
    obtain ⟨s', h1, he'⟩ := hk i e (by rw [← hi]; simp)
    exact ⟨s', he', List.mem_of_getElem? h1⟩
  · have hi : i < es.size := by rw [hsz]; exact (List.getElem?_eq_some_iff.1 hs).1
    have hg := getS_at es.toList ks i s es[i] (fun i e h => hk i e (by simpa using h)) hnd hs (by simp [hi])
    rw [hg]
    simp [Array.getD_eq_getD_getElem?, hi]
  · have hi : i < es.size := by rw [hsz, ← hl]; exact (List.getElem?_eq_some_iff.1 hjj).1
    have := hj i es[i] j (Array.getElem?_eq_getElem hi) hjj
    have e : (es.getD i default).val = es[i].val := by simp [Array.getD_eq_getD_getElem?, hi]
    simp only [e]
    exact this.mono fun c hc => by omega
end

theorem at_lt {α : Type} {l : List α} {p : Nat} (h : p < l.length) : ∃ a, l[p]? = some a := ⟨l[p], List.getElem?_eq_getElem h⟩
theorem strs_at {w : World} {ok : Nat → Prop} {A : Option Addr} {m : Nat} {ks : List ByteArray} (r : RowAt w ok 1 A m (strCell ks)) (hm : 0 < m) : ∃ ad, A = some ad ∧ ∀ i s, i < m → ks[i]? = some s → w.cell? (ad.add i) = some (.string s) := by
  obtain ⟨ad, hA, _, hc⟩ := r hm
  refine ⟨ad, hA, fun i s hi hs => ?_⟩
  have := hc i 0 (.string s) hi (by simp [strCell, List.getD_eq_getElem?_getD, hs])
  simpa using this
theorem run_makeMap_hint (n : Int) (w : World) : (Instr.makeMap 85 (some (.int .i64 n))).run Tryz.prog w = .ok (.map (some w.heap.size)) (w.alloc (.map #[] 0)) := by
  simp [Instr.makeMap, run_underlying Tryz.underlying85]; rfl

def MapToGoPost (ks : List ByteArray) (vs : List V) (w : World) (e : Ending) (w' : World) : Prop := ∃ b, e = .returned (.tuple #[.map (some b), .bool true]) ∧ Jr w' (fun c => w.heap.size ≤ c) (.obj ks (V.js vs)) (.iface 85 (.map (some b))) ∧ Below w.heap.size w w'
theorem mapToGo_one (n : Nat) (ih : ToGoIH n) (k h : Int) (t : ByteArray) (ks : List ByteArray) (vs : List V) (ok : Nat → Prop) (A1 A2 A3 : Option Addr) (n1 c1 c2 c3 m : Nat) (g : Nat → List Value)
    (w : World) (hn : ∀ v, v ∈ vs → SizeOf.sizeOf v < n) (hw : ∀ v, v ∈ vs → WF v) (hp : vs.length ≤ 1000000) (hsm : ∀ v, v ∈ vs → Sm v) (hk : ks.length = m) (hv : vs.length = m) (hsort : sortedS ks) (hnd : ks.Nodup)
    (r2 : RowAt w ok 1 A2 m (strCell ks)) (r3 : RowAt w ok 6 A3 m g) (e3 : ∀ (i : Nat) (v : V), vs[i]? = some v → Vr w ok v (g i)) :
    Calls Tryz.prog 92 #[.agg #[.int .i64 k, .int .i64 h, .string t, .slice A1 n1 c1, .slice A2 m c2, .slice A3 m c3]] w (MapToGoPost ks vs w) := by
  have hlv : m ≤ 1000000 := by omega
  have hmm := run_makeMap_hint (m : Int)
  have HK := Lib.hid hk
  have HV := Lib.hid hv
  clear hk hv
  go_enter Tryz.func92, Tryz.ntmps92
  go_wp2_with fail
  obtain ⟨w1, hw1⟩ : ∃ w1, w1 = w.alloc (.cells #[.int .i64 k, .int .i64 h, .string t, .slice A1 n1 c1, .slice A2 m c2, .slice A3 m c3] 26) := ⟨_, rfl⟩
  have hbw : Below w.heap.size w w1 := by rw [hw1]; exact (Below.refl _ _).alloc (Nat.le_refl _) _
  have hx4 : w1.cell? ⟨w.heap.size, 4, none⟩ = some (.slice A2 m c2) := by rw [hw1]; simp
  have hx5 : w1.cell? ⟨w.heap.size, 5, none⟩ = some (.slice A3 m c3) := by rw [hw1]; simp
  have hsz1 : w1.heap.size = w.heap.size + 1 := by rw [hw1]; simp
  have HST : Hid (MFilled w1 (w.heap.size + 1) 0 ks (V.js vs) ((w.alloc (.cells #[.int .i64 k, .int .i64 h, .string t, .slice A1 n1 c1, .slice A2 m c2, .slice A3 m c3] 26)).alloc (.map #[] 0))) := by
    rw [← hsz1, ← hw1]; exact MFilled.start w1 ks _
  have HW := Lib.hid hw1
  have HZ := Lib.hid hsz1
  clear hw1 hsz1
  go_loopw [23] (fun i wr => ∃ p : Nat, p ≤ m ∧ i = .int .i64 p ∧ MFilled w1 (w.heap.size + 1) p ks (V.js vs) wr) (fun i _ => m - (intOf i).toNat)
  case atStart => exact ⟨0, Nat.zero_le _, rfl, HST.out⟩
  case round =>
    obtain ⟨p, hp', rfl, hrel⟩ := hrel
    have hx4 := cell_kept hrel.below hx4
    have hx5 := cell_kept hrel.below hx5
    by_cases hlt : p < m
    · obtain ⟨s, hs⟩ := at_lt (l := ks) (p := p) (by rw [HK.out]; exact hlt)
      obtain ⟨v, hv⟩ := at_lt (l := vs) (p := p) (by rw [HV.out]; exact hlt)
      obtain ⟨ad2, hA2, hc2⟩ := strs_at r2 (by omega)
      obtain ⟨ad3, hA3, _, hc3⟩ := r3 (by omega)
      subst hA2 hA3
      have hbr := below_trans hbw hrel.below
      have hks := cell_kept hbr (hc2 p s hlt hs)
      have hc := fun j u hu => cell_kept hbr (hc3 p j u hlt hu)
      have hV := Vr.keep hbr (e3 p v hv)
      generalize g p = cs at hV hc
      have HVR := Lib.hid hV
      have HS := Lib.hid hs
      have HVV := Lib.hid hv
      have hprev : 0 < p → ∃ s0, wr.cell? (ad2.add (p - 1)) = some (.string s0) ∧ Op.bytesLess s0.toList s.toList = true := fun h0 => by
        obtain ⟨s0, hs0⟩ := at_lt (l := ks) (p := p - 1) (by rw [HK.out]; omega)
        exact ⟨s0, cell_kept hbr (hc2 (p - 1) s0 (by omega) hs0), hsort (p - 1) s0 s hs0 (by rw [show p - 1 + 1 = p from by omega]; exact hs)⟩
      clear hs hv hc2 hc3
      obtain ⟨k', h', t', l', ks', vs', B1, d1, B2, d2, B3, d3, f1, g1, ht, h1, h2, h3, b1, b2, b3, hk', hh', hs', q1, e1, q2, q3, e3'⟩ := hV
      obtain ⟨z0, z1, z2, z3, z4, z5⟩ := cells6 hc
      clear hc
      by_cases hp0 : 0 < p
      · obtain ⟨s0, hs0, hless⟩ := hprev hp0
        go_wp2_with fail
        refine (ih _ _ _ _ (hn _ (List.mem_of_getElem? HVV.out)) (hw _ (List.mem_of_getElem? HVV.out)) (hsm _ (List.mem_of_getElem? HVV.out)) HVR.out).mono ?_
        rintro e' w' ⟨x, rfl, hx, hb⟩
        obtain ⟨W2, hrun, hstep⟩ := hrel.step hb HS.out hnd (x := x) (fun j hj => by
          rw [js_get hj HVV.out]
          refine hx.mono fun b hb => ?_
          have := hrel.lt
          omega)
        clear hx4 hx5 hks z0 z1 z2 z3 z4 z5
        go_wp2_with fail
        go_roundw
        case rel => exact ⟨p + 1, by omega, by go_num, hstep⟩
        case measure => simp [intOf]; omega
      · go_wp2_with fail
        refine (ih _ _ _ _ (hn _ (List.mem_of_getElem? HVV.out)) (hw _ (List.mem_of_getElem? HVV.out)) (hsm _ (List.mem_of_getElem? HVV.out)) HVR.out).mono ?_
        rintro e' w' ⟨x, rfl, hx, hb⟩
        obtain ⟨W2, hrun, hstep⟩ := hrel.step hb HS.out hnd (x := x) (fun j hj => by
          rw [js_get hj HVV.out]
          refine hx.mono fun b hb => ?_
          have := hrel.lt
          omega)
        clear hx4 hx5 hks z0 z1 z2 z3 z4 z5
        go_wp2_with fail
        go_roundw
        case rel => exact ⟨p + 1, by omega, by go_num, hstep⟩
        case measure => simp [intOf]; omega
    · have hkn : p = m := by omega
      subst hkn
      go_wp2_with fail
      go_ret2
      refine ⟨_, rfl, ?_, below_trans hbw hrel.below⟩
      have := MFilled.done (ks := ks) (js := V.js vs) (by rw [HK.out]; exact hrel) hnd (by rw [js_len, HK.out, HV.out])
      exact this.mono fun c hc => by have := HZ.out; omega
end Go.Proofs.YtpamlgdcnmcedaaGreatDoor
