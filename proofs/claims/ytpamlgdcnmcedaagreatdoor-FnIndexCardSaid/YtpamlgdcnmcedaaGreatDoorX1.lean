/- An argument of type impl.Value, read off the row's world. -/
import Derived.Test.YtpamlgdcnmcedaaGreatDoorD
import Derived.Deep.Slices
import Derived.Deep.Fields
import Derived.ChangeSame
import Derived.SizedLaws
set_option linter.unusedVariables false
set_option linter.unusedSimpArgs false
namespace Go.Proofs.YtpamlgdcnmcedaaGreatDoor
open Go Go.RowKit Go.ChangeShapes Go.WideShapes Go.Deep
section
variable {H : Type} {enc : TypeId × Value → H} {P : Program} {w : World} {base : Nat} {spare : Nat → Bool} {held : Bool} {T TS TK I B : TypeId} {f0 f1 f2 f3 f4 f5 : Field}
theorem weightsAll_has {e : TypeId} : ∀ {l : List (DataW H)} {i : Nat} {d : DataW H}, l[i]? = some d → ∀ n ∈ d.weights P e, n ∈ DataW.weightsAll P e l
  | d0 :: l, 0, d, hd, n, hn => by
    simp only [List.getElem?_cons_zero, Option.some.injEq] at hd
    subst hd
    simp only [DataW.weightsAll, List.mem_append]
    exact .inl hn
  | d0 :: l, i + 1, d, hd, n, hn => by
    simp only [List.getElem?_cons_succ] at hd
    simp only [DataW.weightsAll, List.mem_append]
    exact .inr (weightsAll_has hd n hn)
  | [], _, _, hd, _, _ => by simp at hd
theorem size_mem (s : ByteArray) {t : TypeId} : s.size ∈ (DataW.lit (.string s.data.toList) : DataW H).weights P t := by
  unfold DataW.weights
  rw [Array.length_toList]
  exact List.mem_singleton.2 rfl
/-- A slice of values, its elements read. -/
theorem read_row {fuel : Nat} {c : Value} {y : DataW H × List MemPlace} (hTS : P.underlying TS = some (.slice T)) (hC : P.cellsOf T = 6) (hb1 : 1 ≤ P.bytesOf T)
    (ih : ∀ (m : Nat) (cs : List Value) (x : DataW H × List MemPlace), m < fuel → DataW.trod enc P w base spare held m T cs = some x → (∀ n, n ∈ x.1.weights P T → n ≤ reachBytes) → ∃ v, Vr w (fun _ => True) v cs)
    (h : DataW.trod enc P w base spare held fuel TS [c] = some y) (hw : ∀ n, n ∈ y.1.weights P TS → n ≤ reachBytes) :
    ∃ (l : List V) (A : Option Addr) (cap : Nat) (f : Nat → List Value), c = .slice A l.length cap ∧ l.length ≤ cap ∧ l.length ≤ 140737488351232 ∧ RowAt w (fun _ => True) 6 A l.length f ∧ ∀ (i : Nat) (v : V), l[i]? = some v → Vr w (fun _ => True) v (f i) := by
  rcases DataW.trod_slice hTS h with ⟨hc, _⟩ | ⟨a, len, cap, elems, rest, n, rfl, hc, rfl, hb, hl, hm, hlen, hel, _, _⟩
  · simp only [List.cons.injEq, and_true] at hc
    subst hc
    exact ⟨[], none, 0, fun _ => [], rfl, Nat.le_refl _, by simp, fun h => absurd h (by simp), fun i v hv => by simp at hv⟩
  · simp only [List.cons.injEq, and_true] at hc
    subst hc
    have hwn : (elems.length + rest.length) * P.bytesOf T ≤ reachBytes := hw _ (by simp [DataW.weights, hTS])
    have hln : len ≤ 140737488351232 := by
      have e : reachBytes = 140737488351232 := rfl
      rw [e] at hwn
      have : len * 1 ≤ (elems.length + rest.length) * P.bytesOf T := Nat.mul_le_mul (by omega) hb1
      omega
    have key : ∀ i, ∃ p : V × List Value, i < len → w.cells? base (a.add (i * 6)) 6 = some p.2 ∧ Vr w (fun _ => True) p.1 p.2 := fun i => by
      by_cases hi : i < len
      · have h1 := hel i hi
        rw [hC, List.getElem?_eq_getElem (by omega)] at h1
        obtain ⟨cs', hc', ht'⟩ := Option.bind_eq_some_iff.1 h1
        obtain ⟨v, hv⟩ := ih n cs' _ (Nat.lt_succ_self _) ht' fun q hq => hw q (by
          simp only [DataW.weights, hTS, List.mem_cons, List.mem_append]
          exact .inr (.inl (weightsAll_has (i := i) (d := (elems[i]'(by omega)).1) (by rw [List.getElem?_map, List.getElem?_eq_getElem (by omega)]; rfl) q hq)))
        exact ⟨(v, cs'), fun _ => ⟨hc', hv⟩⟩
      · exact ⟨(.mk 0 0 ⟨#[]⟩ [] [] [], []), fun h => absurd h hi⟩
    have F : ∀ i, { p : V × List Value // i < len → w.cells? base (a.add (i * 6)) 6 = some p.2 ∧ Vr w (fun _ => True) p.1 p.2 } := fun i => ⟨Classical.choose (key i), Classical.choose_spec (key i)⟩
    have hll : ((List.range len).map fun i => (F i).1.1).length = len := by simp
    refine ⟨(List.range len).map fun i => (F i).1.1, some a, cap, fun i => (F i).1.2, by rw [hll], by rw [hll]; exact hl, by rw [hll]; exact hln, fun hn => ⟨a, rfl, trivial, fun i j u hi hu => ?_⟩, fun i v hv => ?_⟩
    · rw [hll] at hi
      obtain ⟨h1, _⟩ := (F i).2 hi
      obtain ⟨_, hcl, hat⟩ := World.cells?_some h1
      have hu' : ((F i).1.2)[j]? = some u := hu
      have hj : j < 6 := by have := (List.getElem?_eq_some_iff.1 hu').1; omega
      rw [← Go.Deep.add_add, hat j hj]
      exact hu'
    · have hi : i < len := by have := (List.getElem?_eq_some_iff.1 hv).1; omega
      rw [List.getElem?_map, List.getElem?_range hi] at hv
      simp only [Option.map_some, Option.some.injEq] at hv
      subst hv
      exact ((F i).2 hi).2
theorem read_strs {fuel : Nat} {c : Value} {y : DataW H × List MemPlace} (hTK : P.underlying TK = some (.slice B)) (hB : P.underlying B = some .string) (hC : P.cellsOf B = 1) (hb1 : 1 ≤ P.bytesOf B)
    (h : DataW.trod enc P w base spare held fuel TK [c] = some y) (hw : ∀ n, n ∈ y.1.weights P TK → n ≤ reachBytes) :
    ∃ (ks : List ByteArray) (A : Option Addr) (cap : Nat), c = .slice A ks.length cap ∧ ks.length ≤ cap ∧ ks.length ≤ 140737488351232 ∧ RowAt w (fun _ => True) 1 A ks.length (strCell ks) ∧ ∀ (i : Nat) (s : ByteArray), ks[i]? = some s → s.size ≤ 140737488351232 := by
  rcases DataW.trod_slice hTK h with ⟨hc, _⟩ | ⟨a, len, cap, elems, rest, n, rfl, hc, rfl, hb, hl, hm, hlen, hel, _, _⟩
  · simp only [List.cons.injEq, and_true] at hc
    subst hc
    exact ⟨[], none, 0, rfl, Nat.le_refl _, by simp, fun h => absurd h (by simp), fun i v hv => by simp at hv⟩
  · simp only [List.cons.injEq, and_true] at hc
    subst hc
    have hwn : (elems.length + rest.length) * P.bytesOf B ≤ reachBytes := hw _ (by simp [DataW.weights, hTK])
    have hln : len ≤ 140737488351232 := by
      have e : reachBytes = 140737488351232 := rfl
      rw [e] at hwn
      have : len * 1 ≤ (elems.length + rest.length) * P.bytesOf B := Nat.mul_le_mul (by omega) hb1
      omega
    have key : ∀ i, ∃ s : ByteArray, i < len → w.cells? base (a.add (i * 1)) 1 = some [.string s] ∧ s.size ≤ 140737488351232 := fun i => by
      by_cases hi : i < len
      · have h1 := hel i hi
        rw [hC, List.getElem?_eq_getElem (by omega)] at h1
        obtain ⟨cs', hc', ht'⟩ := Option.bind_eq_some_iff.1 h1
        obtain ⟨s, rfl, hs, _⟩ := DataW.trod_string hB ht'
        have := hw s.size (by
          simp only [DataW.weights, hTK, List.mem_cons, List.mem_append]
          refine .inr (.inl (weightsAll_has (i := i) (d := (elems[i]'(by omega)).1) (by rw [List.getElem?_map, List.getElem?_eq_getElem (by omega)]; rfl) _ ?_))
          rw [hs]
          exact size_mem s)
        exact ⟨s, fun _ => ⟨hc', this⟩⟩
      · exact ⟨⟨#[]⟩, fun h => absurd h hi⟩
    have F : ∀ i, { s : ByteArray // i < len → w.cells? base (a.add (i * 1)) 1 = some [.string s] ∧ s.size ≤ 140737488351232 } := fun i => ⟨Classical.choose (key i), Classical.choose_spec (key i)⟩
    have hll : ((List.range len).map fun i => (F i).1).length = len := by simp
    have hgi : ∀ i, i < len → ((List.range len).map fun i => (F i).1)[i]? = some (F i).1 := fun i hi => by rw [List.getElem?_map, List.getElem?_range hi]; rfl
    refine ⟨(List.range len).map fun i => (F i).1, some a, cap, by rw [hll], by rw [hll]; exact hl, by rw [hll]; exact hln, fun hn => ⟨a, rfl, trivial, fun i j u hi hu => ?_⟩, fun i v hv => ?_⟩
    · rw [hll] at hi
      obtain ⟨h1, _⟩ := (F i).2 hi
      obtain ⟨_, hcl, hat⟩ := World.cells?_some h1
      have hj : j < 1 := by have := (List.getElem?_eq_some_iff.1 hu).1; simpa [strCell] using this
      have hj0 : j = 0 := by omega
      subst hj0
      rw [← Go.Deep.add_add, hat 0 (by omega)]
      rw [strCell, List.getD_eq_getElem?_getD, hgi i hi] at hu
      exact hu
    · have hi : i < len := by have := (List.getElem?_eq_some_iff.1 hv).1; omega
      rw [hgi i hi] at hv
      simp only [Option.some.injEq] at hv
      subst hv
      exact ((F i).2 hi).2
/-- A value, read. -/
theorem read_value (hT : P.underlying T = some (.struct #[f0, f1, f2, f3, f4, f5])) (hone : oneCellFields P #[f0, f1, f2, f3, f4, f5] = true) (hC : P.cellsOf T = 6) (hb1 : 1 ≤ P.bytesOf T)
    (hI0 : P.underlying f0.type = some (.int .i64)) (hI1 : P.underlying f1.type = some (.int .i64)) (hS2 : P.underlying f2.type = some .string) (hT3 : P.underlying f3.type = some (.slice T)) (hT4 : P.underlying f4.type = some (.slice B)) (hB : P.underlying B = some .string) (hCB : P.cellsOf B = 1) (hbB : 1 ≤ P.bytesOf B)
    (hT5 : P.underlying f5.type = some (.slice T)) :
    ∀ (fuel : Nat) (cs : List Value) (x : DataW H × List MemPlace), DataW.trod enc P w base spare held fuel T cs = some x → (∀ n, n ∈ x.1.weights P T → n ≤ reachBytes) → ∃ v, Vr w (fun _ => True) v cs := by
  intro fuel
  induction fuel using Nat.strongRecOn with
  | ind fuel ih =>
    intro cs x h hw
    obtain ⟨xs, n, rfl, rfl, hlen, hxl, hg⟩ := DataW.trod_struct hT h
    rw [hC] at hlen
    have ih' : ∀ m cs x, m < n → DataW.trod enc P w base spare held m T cs = some x → (∀ n, n ∈ x.1.weights P T → n ≤ reachBytes) → ∃ v, Vr w (fun _ => True) v cs := fun m cs x hm => ih m (by omega) cs x
    match cs, hlen, xs, hxl with
    | [c0, c1, c2, c3, c4, c5], _, [y0, y1, y2, y3, y4, y5], _ =>
      obtain ⟨o0, k0⟩ := hone_of hone 0 f0 rfl
      obtain ⟨o1, k1⟩ := hone_of hone 1 f1 rfl
      obtain ⟨o2, k2⟩ := hone_of hone 2 f2 rfl
      obtain ⟨o3, k3⟩ := hone_of hone 3 f3 rfl
      obtain ⟨o4, k4⟩ := hone_of hone 4 f4 rfl
      obtain ⟨o5, k5⟩ := hone_of hone 5 f5 rfl
      have g0 : DataW.trod enc P w base spare held n f0.type [c0] = some y0 := by simpa [o0, k0] using hg 0 f0 rfl
      have g1 : DataW.trod enc P w base spare held n f1.type [c1] = some y1 := by simpa [o1, k1] using hg 1 f1 rfl
      have g2 : DataW.trod enc P w base spare held n f2.type [c2] = some y2 := by simpa [o2, k2] using hg 2 f2 rfl
      have g3 : DataW.trod enc P w base spare held n f3.type [c3] = some y3 := by simpa [o3, k3] using hg 3 f3 rfl
      have g4 : DataW.trod enc P w base spare held n f4.type [c4] = some y4 := by simpa [o4, k4] using hg 4 f4 rfl
      have g5 : DataW.trod enc P w base spare held n f5.type [c5] = some y5 := by simpa [o5, k5] using hg 5 f5 rfl
      have hm : ∀ (j : Nat) (f : Field) (y : DataW H × List MemPlace), #[f0, f1, f2, f3, f4, f5][j]? = some f → [y0, y1, y2, y3, y4, y5][j]? = some y → ∀ q, q ∈ y.1.weights P f.type → q ≤ reachBytes := fun j f y hf hy q hq => hw q (by
        simp only [DataW.weights, hT]
        exact DataW.weights_mem_each (j := j) (by rw [List.getElem?_map, Array.getElem?_toList, hf]; rfl) (by rw [List.getElem?_map, hy]; rfl) q hq)
      obtain ⟨k, e0, _, w0⟩ := DataW.trod_int hI0 g0
      obtain ⟨h', e1, _, w1⟩ := DataW.trod_int hI1 g1
      obtain ⟨t, e2, hx2, _⟩ := DataW.trod_string hS2 g2
      have ht : t.size ≤ 140737488351232 := hm 2 f2 y2 rfl rfl _ (by rw [hx2]; exact size_mem t)
      obtain ⟨l, A1, p1, fl, e3, q1, q2, q3, q4⟩ := read_row hT3 hC hb1 ih' g3 (hm 3 f3 y3 rfl rfl)
      obtain ⟨ks, A2, p2, e4, s1, s2, s3, s4⟩ := read_strs hT4 hB hCB hbB g4 (hm 4 f4 y4 rfl rfl)
      obtain ⟨vs, A3, p3, fv, e5, u1, u2, u3, u4⟩ := read_row hT5 hC hb1 ih' g5 (hm 5 f5 y5 rfl rfl)
      simp only [List.cons.injEq, and_true] at e0 e1 e2
      subst e0 e1 e2 e3 e4 e5
      simp only [Lit.wf, Bool.and_eq_true, decide_eq_true_eq] at w0 w1
      exact ⟨.mk k h' t l ks vs, .mk k h' t l ks vs A1 p1 A2 p2 A3 p3 fl fv ht q1 s1 u1 q2 s2 u2 (by simpa [IntKind.min, IntKind.max, IntKind.signed, IntKind.bits] using w0) (by simpa [IntKind.min, IntKind.max, IntKind.signed, IntKind.bits] using w1) s4 q3 q4 s3 u3 u4⟩
end
end Go.Proofs.YtpamlgdcnmcedaaGreatDoor
