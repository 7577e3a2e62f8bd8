/- Arguments of the laws, read off the row's world: an impl.Value, a list of them, rows of them, a byte. -/
import Derived.Test.YtpamlgdcnmcedaaGreatDoorProg
import Derived.Test.YtpamlgdcnmcedaaGreatDoorX1
import Derived.WalkKit
import Derived.ProofKit
import Derived.OpenShut
set_option linter.unusedVariables false
set_option linter.unusedSimpArgs false
set_option maxRecDepth 1000000
namespace Go.Proofs.YtpamlgdcnmcedaaGreatDoor
open Go Go.ChangeShapes Go.WideShapes Go.ChangeAt Go.RowKit Go.Deep
section
variable {H : Type} {enc : TypeId × Value → H} {W : World} {spare : Nat → Bool} {held : Bool} {d : DataW H} {ps : List MemPlace} {base : Nat} {v : Value}
theorem value_read (fuel : Nat) (cs : List Value) (x : DataW H × List MemPlace) (h : DataW.trod enc Tryz.prog W 0 spare held fuel 26 cs = some x) (hw : ∀ n, n ∈ x.1.weights Tryz.prog 26 → n ≤ reachBytes) : ∃ v, Vr W (fun _ => True) v cs :=
  read_value (B := 9) Tryz.underlying26 (by kernel_rfl) (by kernel_rfl) (of_decide_eq_true (by kernel_rfl)) Tryz.underlying22 Tryz.underlying3 Tryz.underlying9 Tryz.underlying23 Tryz.underlying24 Tryz.underlying9 (by kernel_rfl) (of_decide_eq_true (by kernel_rfl)) Tryz.underlying23 fuel cs x h hw
theorem cells26 : Tryz.prog.cellsOf 26 = 6 := by kernel_rfl
theorem bytes26 : 1 ≤ Tryz.prog.bytesOf 26 := of_decide_eq_true (by kernel_rfl)
theorem cells23 : Tryz.prog.cellsOf 23 = 1 := by kernel_rfl
theorem bytes23 : 1 ≤ Tryz.prog.bytesOf 23 := of_decide_eq_true (by kernel_rfl)
/-- A list of values, read. -/
def ListR (w : World) (A : Option Addr) (l : List V) (cap : Nat) : Prop := ∃ f : Nat → List Value, l.length ≤ cap ∧ l.length ≤ 140737488351232 ∧ RowAt w (fun _ => True) 6 A l.length f ∧ ∀ (i : Nat) (v : V), l[i]? = some v → Vr w (fun _ => True) v (f i)
theorem list_read (fuel : Nat) (c : Value) (y : DataW H × List MemPlace) (h : DataW.trod enc Tryz.prog W 0 spare held fuel 23 [c] = some y) (hw : ∀ n, n ∈ y.1.weights Tryz.prog 23 → n ≤ reachBytes) :
    ∃ (l : List V) (A : Option Addr) (cap : Nat), c = .slice A l.length cap ∧ ListR W A l cap := by
  obtain ⟨l, A, cap, f, hc, h1, h2, h3, h4⟩ := read_row (T := 26) Tryz.underlying23 cells26 bytes26 (fun m cs x _ h hw => value_read m cs x h hw) h hw
  exact ⟨l, A, cap, hc, f, h1, h2, h3, h4⟩
theorem rows_read (fuel : Nat) (c : Value) (y : DataW H × List MemPlace) (h : DataW.trod enc Tryz.prog W 0 spare held fuel 41 [c] = some y) (hw : ∀ n, n ∈ y.1.weights Tryz.prog 41 → n ≤ reachBytes) :
    ∃ (rows : List (List V)) (A : Option Addr) (cap : Nat) (B : Nat → Option Addr) (d : Nat → Nat), c = .slice A rows.length cap ∧ rows.length ≤ 140737488351232 ∧ RowAt W (fun _ => True) 1 A rows.length (fun i => [.slice (B i) ((rows.getD i []).length) (d i)]) ∧
      ∀ (i : Nat) (r : List V), rows[i]? = some r → ListR W (B i) r (d i) := by
  rcases DataW.trod_slice Tryz.underlying41 h with ⟨hc, _⟩ | ⟨a, len, cap, elems, rest, n, rfl, hc, rfl, hb, hl, hm, hlen, hel, _, _⟩
  · simp only [List.cons.injEq, and_true] at hc
    subst hc
    exact ⟨[], none, 0, fun _ => none, fun _ => 0, rfl, by simp, fun h => absurd h (by simp), fun i r hr => by simp at hr⟩
  · simp only [List.cons.injEq, and_true] at hc
    subst hc
    have hwn : (elems.length + rest.length) * Tryz.prog.bytesOf 23 ≤ reachBytes := hw _ (by simp [DataW.weights, Tryz.underlying41])
    have hln : len ≤ 140737488351232 := by
      have e : reachBytes = 140737488351232 := rfl
      rw [e] at hwn
      have : len * 1 ≤ (elems.length + rest.length) * Tryz.prog.bytesOf 23 := Nat.mul_le_mul (by omega) bytes23
      omega
    have key : ∀ i, ∃ p : List V × Option Addr × Nat, i < len → W.cells? 0 (a.add (i * 1)) 1 = some [.slice p.2.1 p.1.length p.2.2] ∧ ListR W p.2.1 p.1 p.2.2 := fun i => by
      by_cases hi : i < len
      · have h1 := hel i hi
        rw [cells23, List.getElem?_eq_getElem (by omega)] at h1
        obtain ⟨cs', hc', ht'⟩ := Option.bind_eq_some_iff.1 h1
        obtain ⟨_, hcl, _⟩ := World.cells?_some hc'
        match cs', hcl, ht', hc' with
        | [c'], _, ht', hc' =>
          obtain ⟨l, A, cp, rfl, hL⟩ := list_read n c' _ ht' fun q hq => hw q (by
            simp only [DataW.weights, Tryz.underlying41, List.mem_cons, List.mem_append]
            exact .inr (.inl (weightsAll_has (i := i) (d := (elems[i]'(by omega)).1) (by rw [List.getElem?_map, List.getElem?_eq_getElem (by omega)]; rfl) q hq)))
          exact ⟨(l, A, cp), fun _ => ⟨hc', hL⟩⟩
      · exact ⟨([], none, 0), fun h => absurd h hi⟩
    obtain ⟨F, hF⟩ := Classical.axiomOfChoice key
    have hll : ((List.range len).map fun i => (F i).1).length = len := by simp
    have hgi : ∀ i, i < len → ((List.range len).map fun i => (F i).1)[i]? = some (F i).1 := fun i hi => by rw [List.getElem?_map, List.getElem?_range hi]; rfl
    refine ⟨(List.range len).map fun i => (F i).1, some a, cap, fun i => (F i).2.1, fun i => (F i).2.2, by rw [hll], by rw [hll]; exact hln, fun hn => ⟨a, rfl, trivial, fun i j u hi hu => ?_⟩, fun i r hr => ?_⟩
    · rw [hll] at hi
      obtain ⟨h1, _⟩ := hF i hi
      obtain ⟨_, hcl, hat⟩ := World.cells?_some h1
      have hj0 : j = 0 := by
        have := (List.getElem?_eq_some_iff.1 hu).1
        simpa using this
      subst hj0
      rw [← Go.Deep.add_add, hat 0 (by omega)]
      simp only [List.getD_eq_getElem?_getD, hgi i hi] at hu
      exact hu
    · have hi : i < len := by have := (List.getElem?_eq_some_iff.1 hr).1; omega
      rw [hgi i hi] at hr
      simp only [Option.some.injEq] at hr
      subst hr
      exact (hF i hi).2
theorem argV (hv : Value.okWide Tryz.prog W .any base 26 v) (h : DataW.Trod enc Tryz.prog W 0 spare held 26 v d ps) (hw : ∀ n, n ∈ d.weights Tryz.prog 26 → n ≤ reachBytes) : ∃ (x : V) (cs : List Value), v = .agg cs.toArray ∧ Vr W (fun _ => True) x cs := by
  obtain ⟨cs, rfl, hsz⟩ := okWide_struct Tryz.underlying26 hv
  obtain ⟨fuel, hf⟩ := h
  obtain ⟨x, hx⟩ := value_read fuel _ _ hf hw
  exact ⟨x, cs.toList, by simp, hx⟩
theorem argL (hv : Value.okWide Tryz.prog W .any base 23 v) (h : DataW.Trod enc Tryz.prog W 0 spare held 23 v d ps) (hw : ∀ n, n ∈ d.weights Tryz.prog 23 → n ≤ reachBytes) : ∃ (l : List V) (A : Option Addr) (cap : Nat), v = .slice A l.length cap ∧ ListR W A l cap := by
  obtain ⟨A, n, c, rfl⟩ := okWide_slice Tryz.underlying23 hv
  obtain ⟨fuel, hf⟩ := h
  exact list_read fuel _ _ hf hw
theorem argR (hv : Value.okWide Tryz.prog W .any base 41 v) (h : DataW.Trod enc Tryz.prog W 0 spare held 41 v d ps) (hw : ∀ n, n ∈ d.weights Tryz.prog 41 → n ≤ reachBytes) :
    ∃ (rows : List (List V)) (A : Option Addr) (cap : Nat) (B : Nat → Option Addr) (d : Nat → Nat), v = .slice A rows.length cap ∧ rows.length ≤ 140737488351232 ∧ RowAt W (fun _ => True) 1 A rows.length (fun i => [.slice (B i) ((rows.getD i []).length) (d i)]) ∧
      ∀ (i : Nat) (r : List V), rows[i]? = some r → ListR W (B i) r (d i) := by
  obtain ⟨A, n, c, rfl⟩ := okWide_slice Tryz.underlying41 hv
  obtain ⟨fuel, hf⟩ := h
  exact rows_read fuel _ _ hf hw
theorem argB (hv : Value.okWide Tryz.prog W .any base 5 v) (h : DataW.Trod enc Tryz.prog W 0 spare held 5 v d ps) : ∃ n : Int, v = .int .u8 n ∧ 0 ≤ n ∧ n < 256 := by
  obtain ⟨n, rfl⟩ := okWide_int Tryz.underlying5 hv
  obtain ⟨fuel, hf⟩ := h
  obtain ⟨k, e0, _, w0⟩ := DataW.trod_int Tryz.underlying5 hf
  have e1 : n = k := by simpa [Value.cells] using e0
  subst e1
  simp only [Lit.wf, Bool.and_eq_true, decide_eq_true_eq] at w0
  have := w0
  simp [IntKind.min, IntKind.max, IntKind.signed, IntKind.bits] at this
  exact ⟨n, rfl, by omega, by omega⟩
end
end Go.Proofs.YtpamlgdcnmcedaaGreatDoor
