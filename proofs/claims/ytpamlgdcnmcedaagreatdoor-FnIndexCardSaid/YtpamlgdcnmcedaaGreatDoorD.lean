/- The data: impl.Value as a plain tree 'V', a jq value as a plain tree 'J'; how each is read off memory ('Vr', 'Jr'); both readings are kept where all old blocks stay. -/
import Derived.Below
import Derived.MapKept
import Derived.WalkKit
import Derived.Test.YtpamlgdcnmcedaaGreatDoorFl
set_option linter.unusedVariables false
set_option linter.unusedSimpArgs false
namespace Go.Proofs.YtpamlgdcnmcedaaGreatDoor
open Go Go.RowKit

/-- impl.Value. -/
inductive V where
  | mk (kind half : Int) (text : ByteArray) (list : List V) (keys : List ByteArray) (vals : List V)
def V.kind : V → Int | .mk k _ _ _ _ _ => k
def V.half : V → Int | .mk _ h _ _ _ _ => h
def V.text : V → ByteArray | .mk _ _ t _ _ _ => t
def V.list : V → List V | .mk _ _ _ l _ _ => l
def V.keys : V → List ByteArray | .mk _ _ _ _ k _ => k
def V.vals : V → List V | .mk _ _ _ _ _ v => v
/-- A jq value: 'hf h' is the float h / 2. -/
inductive J where
  | null
  | bool (b : Bool)
  | int (n : Int)
  | hf (h : Int)
  | str (s : ByteArray)
  | arr (l : List J)
  | obj (ks : List ByteArray) (vs : List J)

mutual
def V.j : V → J
  | .mk k h t l ks vs =>
    if k = 0 then .null else if k = 1 then .bool false else if k = 2 then .bool true
    else if k = 3 then (if h.tmod 2 = 0 then .int (h.tdiv 2) else .hf h)
    else if k = 4 then .str t else if k = 5 then .arr (V.js l) else .obj ks (V.js vs)
def V.js : List V → List J
  | [] => []
  | v :: vs => V.j v :: V.js vs
end
theorem V.js_map : ∀ l, V.js l = l.map V.j
  | [] => rfl
  | v :: vs => by rw [V.js, V.js_map vs]; rfl
mutual
/-- The value of a jq value. -/
def J.v : J → V
  | .null => .mk 0 0 ⟨#[]⟩ [] [] []
  | .bool b => .mk (if b then 2 else 1) 0 ⟨#[]⟩ [] [] []
  | .int n => .mk 3 (2 * n) ⟨#[]⟩ [] [] []
  | .hf h => .mk 3 h ⟨#[]⟩ [] [] []
  | .str s => .mk 4 0 s [] [] []
  | .arr l => .mk 5 0 ⟨#[]⟩ (J.vs l) [] []
  | .obj ks vs => .mk 6 0 ⟨#[]⟩ [] ks (J.vs vs)
def J.vs : List J → List V
  | [] => []
  | j :: js => J.v j :: J.vs js
end
theorem J.vs_map : ∀ l, J.vs l = l.map J.v
  | [] => rfl
  | v :: vs => by rw [J.vs, J.vs_map vs]; rfl

/-- A row of n elements of 'size' cells each at A, in a block that is ok: element i holds the cells 'f i'. -/
def RowAt (w : World) (ok : Nat → Prop) (size : Nat) (A : Option Addr) (n : Nat) (f : Nat → List Value) : Prop :=
  0 < n → ∃ ad, A = some ad ∧ ok ad.block ∧ ∀ i j u, i < n → (f i)[j]? = some u → w.cell? (ad.add (i * size + j)) = some u
theorem block_add (a : Addr) (n : Nat) : (a.add n).block = a.block := by unfold Addr.add; split <;> rfl
theorem cell_of_block {w w' : World} {a : Addr} (h : w'.heap[a.block]? = w.heap[a.block]?) : w'.cell? a = w.cell? a := by unfold World.cell?; rw [h]
section
variable {w w' : World} {ok ok' : Nat → Prop}
theorem RowAt.move {size n : Nat} {A : Option Addr} {f : Nat → List Value} (h : RowAt w ok size A n f) (hm : ∀ b, ok b → w'.heap[b]? = w.heap[b]?) : RowAt w' ok size A n f := fun hn => by
  obtain ⟨ad, e, ho, hc⟩ := h hn
  exact ⟨ad, e, ho, fun i j u hi hu => (cell_of_block (by rw [block_add]; exact hm _ ho)).trans (hc i j u hi hu)⟩
theorem RowAt.mono {size n : Nat} {A : Option Addr} {f : Nat → List Value} (h : RowAt w ok size A n f) (hm : ∀ b, ok b → ok' b) : RowAt w ok' size A n f := fun hn => by
  obtain ⟨ad, e, ho, hc⟩ := h hn
  exact ⟨ad, e, hm _ ho, hc⟩
theorem RowAt.bound {size n : Nat} {A : Option Addr} {f : Nat → List Value} (h : RowAt w ok size A n f) (hf : ∀ i, i < n → 0 < (f i).length) : RowAt w (fun b => ok b ∧ b < w.heap.size) size A n f := fun hn => by
  obtain ⟨ad, e, ho, hc⟩ := h hn
  refine ⟨ad, e, ⟨ho, ?_⟩, hc⟩
  have h0 := hc 0 0 _ hn (List.getElem?_eq_getElem (hf 0 hn))
  have := World.block_lt_of_cell? w _ h0
  rwa [block_add] at this

/-- A []string. -/
def strCell (ks : List ByteArray) (i : Nat) : List Value := [.string (ks.getD i ⟨#[]⟩)]

/-- The six cells of an impl.Value. -/
inductive Vr (w : World) (ok : Nat → Prop) : V → List Value → Prop
  | mk (k h : Int) (t : ByteArray) (l : List V) (ks : List ByteArray) (vs : List V) (A1 : Option Addr) (c1 : Nat) (A2 : Option Addr) (c2 : Nat) (A3 : Option Addr) (c3 : Nat) (f g : Nat → List Value)
      (ht : t.size ≤ 140737488351232) (h1 : l.length ≤ c1) (h2 : ks.length ≤ c2) (h3 : vs.length ≤ c3) (b1 : l.length ≤ 140737488351232) (b2 : ks.length ≤ 140737488351232) (b3 : vs.length ≤ 140737488351232)
      (hk : -9223372036854775808 ≤ k ∧ k ≤ 9223372036854775807) (hh : -9223372036854775808 ≤ h ∧ h ≤ 9223372036854775807)
      (hs : ∀ (i : Nat) (s : ByteArray), ks[i]? = some s → s.size ≤ 140737488351232)
      (r1 : RowAt w ok 6 A1 l.length f) (e1 : ∀ (i : Nat) (v : V), l[i]? = some v → Vr w ok v (f i))
      (r2 : RowAt w ok 1 A2 ks.length (strCell ks))
      (r3 : RowAt w ok 6 A3 vs.length g) (e3 : ∀ (i : Nat) (v : V), vs[i]? = some v → Vr w ok v (g i)) :
      Vr w ok (.mk k h t l ks vs) [.int .i64 k, .int .i64 h, .string t, .slice A1 l.length c1, .slice A2 ks.length c2, .slice A3 vs.length c3]

theorem Vr.len {v : V} {cs : List Value} (h : Vr w ok v cs) : cs.length = 6 := by cases h; rfl
theorem Vr.move (hm : ∀ b, ok b → w'.heap[b]? = w.heap[b]?) {v : V} {cs : List Value} (h : Vr w ok v cs) : Vr w' ok v cs := by
  induction h with
  | mk k h t l ks vs A1 c1 A2 c2 A3 c3 f g ht h1 h2 h3 b1 b2 b3 hk hh hs r1 e1 r2 r3 e3 ih1 ih3 =>
    exact .mk k h t l ks vs A1 c1 A2 c2 A3 c3 f g ht h1 h2 h3 b1 b2 b3 hk hh hs (r1.move hm) ih1 (r2.move hm) (r3.move hm) ih3
theorem Vr.mono (hm : ∀ b, ok b → ok' b) {v : V} {cs : List Value} (h : Vr w ok v cs) : Vr w ok' v cs := by
  induction h with
  | mk k h t l ks vs A1 c1 A2 c2 A3 c3 f g ht h1 h2 h3 b1 b2 b3 hk hh hs r1 e1 r2 r3 e3 ih1 ih3 =>
    exact .mk k h t l ks vs A1 c1 A2 c2 A3 c3 f g ht h1 h2 h3 b1 b2 b3 hk hh hs (r1.mono hm) ih1 (r2.mono hm) (r3.mono hm) ih3
theorem Vr.bound {v : V} {cs : List Value} (h : Vr w ok v cs) : Vr w (fun b => ok b ∧ b < w.heap.size) v cs := by
  induction h with
  | mk k h t l ks vs A1 c1 A2 c2 A3 c3 f g ht h1 h2 h3 b1 b2 b3 hk hh hs r1 e1 r2 r3 e3 ih1 ih3 =>
    refine .mk k h t l ks vs A1 c1 A2 c2 A3 c3 f g ht h1 h2 h3 b1 b2 b3 hk hh hs (r1.bound fun i hi => ?_) ih1 (r2.bound fun i hi => by simp [strCell]) (r3.bound fun i hi => ?_) ih3
    · have := (e1 i _ (List.getElem?_eq_getElem hi)).len; omega
    · have := (e3 i _ (List.getElem?_eq_getElem hi)).len; omega
theorem Vr.keep (hb : Below w.heap.size w w') {v : V} {cs : List Value} (h : Vr w ok v cs) : Vr w' ok v cs :=
  (h.bound.move fun b hb' => hb.block b hb'.2).mono fun _ h => h.1

/-- The first entry of a key. -/
def getS : List MapEntry → ByteArray → Option Value
  | [], _ => none
  | e :: es, s => match e.key with
    | .string s' => if s = s' then some e.val else getS es s
    | _ => getS es s

/-- What a jq value is in memory, in blocks that are ok. -/
inductive Jr (w : World) (ok : Nat → Prop) : J → Value → Prop
  | null : Jr w ok .null .nilIface
  | bool (b : Bool) : Jr w ok (.bool b) (.iface 4 (.bool b))
  | int (n : Int) : Jr w ok (.int n) (.iface 3 (.int .i64 n))
  | hf (h : Int) : Jr w ok (.hf h) (.iface 82 (.float .f64 (Fl.hw h)))
  | str (s : ByteArray) : Jr w ok (.str s) (.iface 9 (.string s))
  | arr (l : List J) (A : Option Addr) (c : Nat) (f : Nat → Value) (hc : l.length ≤ c)
      (r : RowAt w ok 1 A l.length fun i => [f i]) (e : ∀ (i : Nat) (j : J), l[i]? = some j → Jr w ok j (f i)) : Jr w ok (.arr l) (.iface 62 (.slice A l.length c))
  | obj (ks : List ByteArray) (vs : List J) (b : Nat) (es : Array MapEntry) (clock : Nat) (f : Nat → Value) (ho : ok b)
      (hb : w.heap[b]? = some (.map es clock)) (hn : es.size = ks.length) (hv : vs.length = ks.length) (hnd : ks.Nodup)
      (he : ∀ e, e ∈ es.toList → ∃ s, e.key = .string s ∧ s ∈ ks)
      (hg : ∀ (i : Nat) (s : ByteArray), ks[i]? = some s → getS es.toList s = some (f i)) (hst : MapKept.Stamped es clock)
      (e : ∀ (i : Nat) (j : J), vs[i]? = some j → Jr w ok j (f i)) : Jr w ok (.obj ks vs) (.iface 85 (.map (some b)))

theorem Jr.move (hm : ∀ b, ok b → w'.heap[b]? = w.heap[b]?) {j : J} {x : Value} (h : Jr w ok j x) : Jr w' ok j x := by
  induction h with
  | null => exact .null
  | bool b => exact .bool b
  | int n => exact .int n
  | hf h => exact .hf h
  | str s => exact .str s
  | arr l A c f hc r e ih => exact .arr l A c f hc (r.move hm) ih
  | obj ks vs b es clock f ho hb hn hv hnd he hg hst e ih => exact .obj ks vs b es clock f ho ((hm b ho).trans hb) hn hv hnd he hg hst ih
theorem Jr.mono (hm : ∀ b, ok b → ok' b) {j : J} {x : Value} (h : Jr w ok j x) : Jr w ok' j x := by
  induction h with
  | null => exact .null
  | bool b => exact .bool b
  | int n => exact .int n
  | hf h => exact .hf h
  | str s => exact .str s
  | arr l A c f hc r e ih => exact .arr l A c f hc (r.mono hm) ih
  | obj ks vs b es clock f ho hb hn hv hnd he hg hst e ih => exact .obj ks vs b es clock f (hm b ho) hb hn hv hnd he hg hst ih
theorem Jr.bound {j : J} {x : Value} (h : Jr w ok j x) : Jr w (fun b => ok b ∧ b < w.heap.size) j x := by
  induction h with
  | null => exact .null
  | bool b => exact .bool b
  | int n => exact .int n
  | hf h => exact .hf h
  | str s => exact .str s
  | arr l A c f hc r e ih => exact .arr l A c f hc (r.bound fun i hi => by simp) ih
  | obj ks vs b es clock f ho hb hn hv hnd he hg hst e ih =>
    refine .obj ks vs b es clock f ⟨ho, ?_⟩ hb hn hv hnd he hg hst ih
    rcases Nat.lt_or_ge b w.heap.size with h | h
    · exact h
    · rw [Array.getElem?_eq_none h] at hb; cases hb
theorem Jr.form {j : J} {x : Value} (h : Jr w ok j x) : x = .nilIface ∨ ∃ t y, x = .iface t y := by
  cases h <;> first | exact .inl rfl | exact .inr ⟨_, _, rfl⟩
theorem Jr.keep (hb : Below w.heap.size w w') {j : J} {x : Value} (h : Jr w ok j x) : Jr w' ok j x :=
  (h.bound.move fun b hb' => hb.block b hb'.2).mono fun _ h => h.1
end
theorem add_field (ad : Addr) (m j : Nat) (hj : 0 < j) : ad.add (m + j) = ⟨(ad.add m).block, (ad.add m).off + j, none⟩ := by
  unfold Addr.add
  rw [if_neg (by omega)]
  split
  · rename_i h; subst h; simp
  · simp [Nat.add_assoc]
theorem cells6 {w : World} {ad : Addr} {m : Nat} {c0 c1 c2 c3 c4 c5 : Value} (h : ∀ j u, [c0, c1, c2, c3, c4, c5][j]? = some u → w.cell? (ad.add (m + j)) = some u) :
    w.cell? (ad.add m) = some c0 ∧ w.cell? ⟨(ad.add m).block, (ad.add m).off + 1, none⟩ = some c1 ∧ w.cell? ⟨(ad.add m).block, (ad.add m).off + 2, none⟩ = some c2 ∧
    w.cell? ⟨(ad.add m).block, (ad.add m).off + 3, none⟩ = some c3 ∧ w.cell? ⟨(ad.add m).block, (ad.add m).off + 4, none⟩ = some c4 ∧ w.cell? ⟨(ad.add m).block, (ad.add m).off + 5, none⟩ = some c5 := by
  refine ⟨h 0 _ rfl, ?_, ?_, ?_, ?_, ?_⟩
  · rw [← add_field ad m 1 (by omega)]; exact h 1 _ rfl
  · rw [← add_field ad m 2 (by omega)]; exact h 2 _ rfl
  · rw [← add_field ad m 3 (by omega)]; exact h 3 _ rfl
  · rw [← add_field ad m 4 (by omega)]; exact h 4 _ rfl
  · rw [← add_field ad m 5 (by omega)]; exact h 5 _ rfl
theorem cell_kept {w w1 : World} (h : Below w.heap.size w w1) {a : Addr} {v : Value} (hc : w.cell? a = some v) : w1.cell? a = some v := (h.cell (World.block_lt_of_cell? w a hc)).trans hc
theorem below_trans {w w1 w2 : World} (h : Below w.heap.size w w1) (k : Below w1.heap.size w1 w2) : Below w.heap.size w w2 := h.trans (k.mono h.size)

end Go.Proofs.YtpamlgdcnmcedaaGreatDoor
