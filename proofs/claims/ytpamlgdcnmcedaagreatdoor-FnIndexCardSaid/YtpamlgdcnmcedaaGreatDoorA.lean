/- A slice of the call's own whose elements are read by a relation: append, and what it reads as. -/
import Derived.Test.YtpamlgdcnmcedaaGreatDoorD
import Derived.Maps.AppendAt
import Derived.Deep.AppendLies
import Derived.OwnWalk
set_option linter.unusedVariables false
set_option linter.unusedSimpArgs false
namespace Go.Proofs.YtpamlgdcnmcedaaGreatDoor
open Go Go.RowKit
/-- How an element is read off its cells. -/
structure Kn (α : Type) where
  sz : Nat
  R : World → (Nat → Prop) → α → List Value → Prop
  len : ∀ {w ok x cs}, R w ok x cs → cs.length = sz
  one : ∀ {w ok x cs}, R w ok x cs → ∀ u ∈ cs, u.oneCell' = true
  move : ∀ {w w' : World} {ok : Nat → Prop} {x cs}, (∀ b, ok b → w'.heap[b]? = w.heap[b]?) → R w ok x cs → R w' ok x cs
  mono : ∀ {w : World} {ok ok' : Nat → Prop} {x cs}, (∀ b, ok b → ok' b) → R w ok x cs → R w ok' x cs
  bound : ∀ {w : World} {ok : Nat → Prop} {x cs}, R w ok x cs → R w (fun b => ok b ∧ b < w.heap.size) x cs
theorem Vr.one {w : World} {ok : Nat → Prop} {v : V} {cs : List Value} (h : Vr w ok v cs) : ∀ u ∈ cs, u.oneCell' = true := by
  cases h
  intro u hu
  simp only [List.mem_cons, List.not_mem_nil, or_false] at hu
  rcases hu with rfl | rfl | rfl | rfl | rfl | rfl <;> rfl
def kV : Kn V where
  sz := 6
  R := Vr
  len := fun h => Vr.len h
  one := fun h => Vr.one h
  move := fun hm h => Vr.move hm h
  mono := fun hm h => Vr.mono hm h
  bound := fun h => Vr.bound h
def kJ : Kn J where
  sz := 1
  R := fun w ok j cs => ∃ x, cs = [x] ∧ Jr w ok j x
  len := by rintro w ok x cs ⟨y, rfl, _⟩; rfl
  one := by
    rintro w ok x cs ⟨y, rfl, h⟩ u hu
    rw [List.mem_singleton.1 hu]
    rcases h.form with rfl | ⟨t, z, rfl⟩ <;> rfl
  move := by rintro w w' ok x cs hm ⟨y, rfl, h⟩; exact ⟨y, rfl, h.move hm⟩
  mono := by rintro w ok ok' x cs hm ⟨y, rfl, h⟩; exact ⟨y, rfl, h.mono hm⟩
  bound := by rintro w ok x cs ⟨y, rfl, h⟩; exact ⟨y, rfl, h.bound⟩
def kS : Kn ByteArray where
  sz := 1
  R := fun _ _ s cs => cs = [.string s]
  len := by rintro w ok x cs rfl; rfl
  one := by rintro w ok x cs rfl u hu; rw [List.mem_singleton.1 hu]; rfl
  move := by rintro w w' ok x cs hm rfl; rfl
  mono := by rintro w ok ok' x cs hm rfl; rfl
  bound := by rintro w ok x cs rfl; rfl

theorem flatten_len {sz : Nat} : ∀ (css : List (List Value)), (∀ c, c ∈ css → c.length = sz) → css.flatten.length = css.length * sz
  | [], _ => by simp
  | c :: css, h => by
    rw [List.flatten_cons, List.length_append, flatten_len css fun c hc => h c (List.mem_cons_of_mem _ hc), h c List.mem_cons_self, List.length_cons, Nat.add_mul]
    omega
theorem flatten_get {sz : Nat} : ∀ (css : List (List Value)) (i j : Nat) (c : List Value) (u : Value), (∀ c, c ∈ css → c.length = sz) → css[i]? = some c → c[j]? = some u → css.flatten[i * sz + j]? = some u
  | [], i, j, c, u, _, hc, _ => by simp at hc
  | d :: css, 0, j, c, u, h, hc, hu => by
    simp at hc
    subst hc
    rw [List.flatten_cons, Nat.zero_mul, Nat.zero_add, List.getElem?_append_left (List.getElem?_eq_some_iff.1 hu).1]
    exact hu
  | d :: css, i + 1, j, c, u, h, hc, hu => by
    have hd := h d List.mem_cons_self
    have hc' : css[i]? = some c := by simpa using hc
    rw [List.flatten_cons, List.getElem?_append_right (by rw [hd, Nat.add_mul]; omega), hd, show (i + 1) * sz + j - sz = i * sz + j from by rw [Nat.add_mul]; omega]
    exact flatten_get css i j c u (fun c hc => h c (List.mem_cons_of_mem _ hc)) hc' hu

/-- A slice of the call's own: its row lies from block 'base' on; what its elements lead to is ok, and is not that row. -/
def Own {α : Type} (d : Kn α) (e : Nat) (w : World) (base : Nat) (ok : Nat → Prop) (v : Value) (xs : List α) : Prop :=
  ∃ css : List (List Value), css.length = xs.length ∧ (∀ c, c ∈ css → c.length = d.sz) ∧ w.ownsRow base e d.sz v xs.length css.flatten ∧
    ∀ (i : Nat) (x : α) (c : List Value), xs[i]? = some x → css[i]? = some c → d.R w (fun b => ok b ∧ some b ≠ v.ownBlock) x c
section
variable {α : Type} {d : Kn α} {e base : Nat} {w w' : World} {ok ok' : Nat → Prop} {v : Value} {xs : List α}
theorem Own.nil (d : Kn α) (e : Nat) (w : World) (base : Nat) (ok : Nat → Prop) : Own d e w base ok (.slice none 0 0) [] :=
  ⟨[], rfl, fun c hc => by simp at hc, ⟨by simp, .inl ⟨rfl, rfl⟩⟩, fun i x c hx => by simp at hx⟩
theorem Own.grown (h : Own d e w base ok v xs) {row : Option Nat} (hg : w.grownBy w' row) (hv : v.ownBlock = none ∨ v.ownBlock ≠ row) (hok : ∀ b, ok b → some b ≠ row) : Own d e w' base ok v xs := by
  obtain ⟨css, h1, h2, h3, h4⟩ := h
  refine ⟨css, h1, h2, h3.kept hg hv, fun i x c hx hc => ?_⟩
  exact d.mono (fun b hb => hb.1) (d.move (fun b hb => hg.block b hb.2 (hok b hb.1.1)) (d.bound (h4 i x c hx hc)))
theorem Own.keep (h : Own d e w base ok v xs) (hb : Below w.heap.size w w') : Own d e w' base ok v xs :=
  h.grown (row := none) ⟨hb.os, hb.tape, hb.output, hb.size, fun k hk _ => hb.block k hk⟩ (by cases v.ownBlock <;> simp) (fun b _ => by simp)
/-- A store into a block that is neither the row nor led to. -/
theorem Own.set (h : Own d e w base ok v xs) {p : Addr} (hv : some p.block ≠ v.ownBlock) (hok : ∀ b, ok b → b ≠ p.block) (u : Value) : Own d e (w.setCell p u) base ok v xs := by
  refine h.grown (row := some p.block) ⟨rfl, rfl, rfl, by simp [World.setCell], fun k hk hne => Below.heap_setCell _ _ _ _ (fun he => hne (by rw [he]))⟩ ?_ (fun b hb he => hok b hb (by injection he))
  exact .inr fun he => hv he.symm
theorem Own.mono (h : Own d e w base ok v xs) (hm : ∀ b, ok b → ok' b) : Own d e w base ok' v xs := by
  obtain ⟨css, h1, h2, h3, h4⟩ := h
  exact ⟨css, h1, h2, h3, fun i x c hx hc => d.mono (fun b hb => ⟨hm b hb.1, hb.2⟩) (h4 i x c hx hc)⟩
theorem Own.lt (h : Own d e w base ok v xs) : ∀ k, v.ownBlock = some k → base ≤ k ∧ k < w.heap.size := by
  obtain ⟨css, h1, h2, h3, h4⟩ := h
  exact h3.lt
theorem Own.form (h : Own d e w base ok v xs) : ∃ A c, v = .slice A xs.length c ∧ xs.length ≤ c := by
  obtain ⟨css, h1, h2, h3, h4⟩ := h
  rcases h3.2 with ⟨rfl, h0⟩ | ⟨g, cap, cur, rfl, _, _, hle, _⟩
  · exact ⟨none, 0, by rw [h0], by omega⟩
  · exact ⟨_, cap, rfl, hle⟩
theorem Own.reads {A : Option Addr} {n c : Nat} (h : Own d e w base ok (.slice A n c) xs) (hok : ∀ b, ok b → ok' b) (hbase : ∀ b, base ≤ b → b < w.heap.size → ok' b) (hsz : 0 < d.sz) :
    ∃ f : Nat → List Value, RowAt w ok' d.sz A xs.length f ∧ ∀ (i : Nat) (x : α), xs[i]? = some x → d.R w ok' x (f i) := by
  obtain ⟨css, h1, h2, h3, h4⟩ := h
  refine ⟨fun i => css.getD i [], fun hn => ?_, fun i x hx => ?_⟩
  · obtain ⟨g, cap, he, hb, hlt⟩ := h3.form hn
    injection he with he
    subst he
    refine ⟨_, rfl, hbase g hb hlt, fun i j u hi hu => h3.cells (g := g) rfl _ _ ?_⟩
    have hc : css[i]? = some (css.getD i []) := by
      have : i < css.length := by omega
      simp [List.getD_eq_getElem?_getD, List.getElem?_eq_getElem this]
    exact flatten_get css i j _ u h2 hc hu
  · have hi : i < css.length := by rw [h1]; exact (List.getElem?_eq_some_iff.1 hx).1
    have hc : css[i]? = some (css.getD i []) := by simp [List.getD_eq_getElem?_getD, List.getElem?_eq_getElem hi]
    exact d.mono (fun b hb => hok b hb.1) (h4 i x _ hx hc)
/-- 'append(xs, x)'. -/
theorem Own.append {P : Program} (t ty : Nat) (i : TypeInfo) (z : Value) (bytes : Nat) (ht : P.underlying t = some (.slice e)) (hi : P.info? e = some i) (hz : i.zero = some z)
    (hsize : i.size = d.sz) (hby : i.bytes = bytes) (hzs : z.cells.size = d.sz) (hsz : 0 < d.sz) (h : Own d e w base ok v xs)
    (a : Addr) (c : List Value) (x : α) (hc : ∀ j u, c[j]? = some u → w.cell? (a.add j) = some u) (hR : d.R w (fun b => ok b ∧ some b ≠ v.ownBlock) x c)
    (h63 : xs.length + 1 ≤ maxLen) (hbytes : (xs.length + 1) * bytes ≤ 140737488355328) (hbase : base ≤ w.heap.size) (m : Nat) :
    ∃ v' w', (Builtin.append_ #[t, t] ty #[v, .slice (some a) 1 m]).run P w = .ok v' w' ∧ Own d e w' base ok v' (xs ++ [x]) ∧ w.grownBy w' v.ownBlock ∧ (v'.ownBlock = v.ownBlock ∨ v'.ownBlock = some w.heap.size) := by
  obtain ⟨css, h1, h2, h3, h4⟩ := h
  obtain ⟨v', w', hrun, hown, hg, _, hat⟩ := run_append_own_at w base t ty e i z d.sz bytes ht hi hz hsize hby hzs hsz v xs.length css.flatten h3 a 1 m c (by rw [d.len hR]; omega) hc (d.one hR) h63 hbytes hbase
  refine ⟨v', w', hrun, ⟨css ++ [c], by simp [h1], fun c' hc' => ?_, by simpa using hown, fun k y c' hy hc' => ?_⟩, hg, hat⟩
  · rcases List.mem_append.1 hc' with hc' | hc'
    · exact h2 c' hc'
    · rw [List.mem_singleton.1 hc']; exact d.len hR
  · have key : d.R w (fun b => ok b ∧ some b ≠ v.ownBlock) y c' := by
      by_cases hk : k < xs.length
      · rw [List.getElem?_append_left hk] at hy
        rw [List.getElem?_append_left (by omega)] at hc'
        exact h4 k y c' hy hc'
      · rw [List.getElem?_append_right (by omega)] at hy
        rw [List.getElem?_append_right (by omega)] at hc'
        have h0 : k - xs.length = 0 := by
          have := (List.getElem?_eq_some_iff.1 hy).1
          simp at this
          omega
        rw [h0] at hy
        rw [h1, h0] at hc'
        simp at hy hc'
        subst hy hc'
        exact hR
    refine d.mono (fun b hb => ⟨hb.1.1, ?_⟩) (d.move (fun b hb => hg.block b hb.2 hb.1.2) (d.bound key))
    rcases hat with e | e <;> rw [e]
    · exact hb.1.2
    · intro he; injection he with he; omega
theorem wpList_append_Own {P : Program} (d : Kn α) (e base : Nat) {ops : Array Oper} {rest : List Oper} {o : Oper} {a : Act} {Q : Exit → Act → World → Prop} (hgd : o.guard = none) (s x : Operand) (t : TypeId)
    (ho : o.op = .call { callee := .builtin .append, args := #[s, x], argTypes := #[t, t] })
    (i : TypeInfo) (z : Value) (bytes : Nat) (ht : P.underlying t = some (.slice e)) (hi : P.info? e = some i) (hz : i.zero = some z)
    (hsize : i.size = d.sz) (hby : i.bytes = bytes) (hzs : z.cells.size = d.sz) (hsz : 0 < d.sz) (v : Value) (xs : List α) (hs : a.eval s = v) (hown : Own d e w base ok v xs)
    (ad : Addr) (m : Nat) (c : List Value) (y : α) (hx : a.eval x = .slice (some ad) 1 m) (hc : ∀ j u, c[j]? = some u → w.cell? (ad.add j) = some u) (hR : d.R w (fun b => ok b ∧ some b ≠ v.ownBlock) y c)
    (h63 : xs.length + 1 ≤ maxLen) (hbytes : (xs.length + 1) * bytes ≤ 140737488355328) (hbase : base ≤ w.heap.size)
    (h : ∀ v' w', Own d e w' base ok v' (xs ++ [y]) → w.grownBy w' v.ownBlock → (v'.ownBlock = v.ownBlock ∨ v'.ownBlock = some w.heap.size) → wpList P ops Q rest (a.put o.dst v') w') : wpList P ops Q (o :: rest) a w :=
  wpList_plain hgd fun _ hK => by
    obtain ⟨v', w', hrun, h2, h3, h4⟩ := hown.append (P := P) t o.type i z bytes ht hi hz hsize hby hzs hsz ad c y hc hR h63 hbytes hbase m
    unfold Oper.wp execOp
    simp only [ho, resolve, invoke, builtin, Sem.run_bind, Sem.run_pure, Result.andThen_ok, List.map_toArray, List.map_cons, List.map_nil, hs, hx, hrun]
    exact hK _ _ (h v' w' h2 h3 h4)
end
end Go.Proofs.YtpamlgdcnmcedaaGreatDoor
