/- append(xs, ys...), both slices of the call's own. -/
import Derived.Test.YtpamlgdcnmcedaaGreatDoorA
import Derived.Laws.OwnMore
set_option linter.unusedVariables false
set_option linter.unusedSimpArgs false
namespace Go.Proofs.YtpamlgdcnmcedaaGreatDoor
open Go Go.RowKit
section
variable {α : Type} {d : Kn α} {e base base2 : Nat} {w w' : World} {ok ok2 : Nat → Prop} {v v2 : Value} {xs ys : List α}
/-- 'append(xs, ys...)', both of the call's own. -/
theorem Own.appendMany {P : Program} (t ty : Nat) (i : TypeInfo) (z : Value) (bytes : Nat) (ht : P.underlying t = some (.slice e)) (hi : P.info? e = some i) (hz : i.zero = some z)
    (hsize : i.size = d.sz) (hby : i.bytes = bytes) (hzs : z.cells.size = d.sz) (hsz : 0 < d.sz) (h : Own d e w base ok v xs) (k : Own d e w base2 ok2 v2 ys)
    (hok : ∀ b, ok2 b → ok b ∧ some b ≠ v.ownBlock)
    (h63 : xs.length + ys.length ≤ maxLen) (hbytes : (xs.length + ys.length) * bytes ≤ 140737488355328) (hbase : base ≤ w.heap.size) :
    ∃ v' w', (Builtin.append_ #[t, t] ty #[v, v2]).run P w = .ok v' w' ∧ Own d e w' base ok v' (xs ++ ys) ∧ w.grownBy w' v.ownBlock ∧ (v'.ownBlock = v.ownBlock ∨ v'.ownBlock = some w.heap.size) := by
  obtain ⟨css2, k1, k2, k3, k4⟩ := k
  have k3' := k3
  rcases k3.2 with ⟨rfl, hy0⟩ | ⟨g, cap, cur, rfl, _, _, hle, _⟩
  · have hy : ys = [] := List.eq_nil_of_length_eq_zero hy0
    subst hy
    have h' := h
    obtain ⟨css, h1, h2, h3, h4⟩ := h
    refine ⟨v, w, run_append_owned_none w base t ty e i d.sz ht hi v xs.length css.flatten h3, by rw [List.append_nil]; exact h', ⟨rfl, rfl, rfl, Nat.le_refl _, fun _ _ _ => rfl⟩, .inl rfl⟩
  · obtain ⟨css, h1, h2, h3, h4⟩ := h
    have hone : ∀ u ∈ css2.flatten, u.oneCell' = true := fun u hu => by
      obtain ⟨c, hc, hu⟩ := List.mem_flatten.1 hu
      obtain ⟨j, hj⟩ := List.getElem?_of_mem hc
      have hjl : j < ys.length := by rw [← k1]; exact (List.getElem?_eq_some_iff.1 hj).1
      exact d.one (k4 j _ c (List.getElem?_eq_getElem hjl) hj) u hu
    have hfl : css2.flatten.length = ys.length * d.sz := by rw [flatten_len css2 k2, k1]
    obtain ⟨v', w', hrun, hown, hg, _, hat⟩ := run_append_own_at w base t ty e i z d.sz bytes ht hi hz hsize hby hzs hsz v xs.length css.flatten h3 ⟨g, 0, none⟩ ys.length cap css2.flatten hfl (k3'.cells (g := g) rfl) hone h63 hbytes hbase
    refine ⟨v', w', hrun, ⟨css ++ css2, by simp [h1, k1], fun c' hc' => ?_, by simpa using hown, fun q y c' hy hc' => ?_⟩, hg, hat⟩
    · rcases List.mem_append.1 hc' with hc' | hc'
      · exact h2 c' hc'
      · exact k2 c' hc'
    · have key : d.R w (fun b => ok b ∧ some b ≠ v.ownBlock) y c' := by
        by_cases hq : q < xs.length
        · rw [List.getElem?_append_left hq] at hy
          rw [List.getElem?_append_left (by omega)] at hc'
          exact h4 q y c' hy hc'
        · rw [List.getElem?_append_right (by omega)] at hy
          rw [List.getElem?_append_right (by omega), h1] at hc'
          exact d.mono (fun b hb => hok b hb.1) (k4 _ y c' hy hc')
      refine d.mono (fun b hb => ⟨hb.1.1, ?_⟩) (d.move (fun b hb => hg.block b hb.2 hb.1.2) (d.bound key))
      rcases hat with e | e <;> rw [e]
      · exact hb.1.2
      · intro he; injection he with he; omega
theorem wpList_append_OwnMany {P : Program} (d : Kn α) (e base base2 : Nat) {ops : Array Oper} {rest : List Oper} {o : Oper} {a : Act} {Q : Exit → Act → World → Prop} (hgd : o.guard = none) (s x : Operand) (t : TypeId)
    (ho : o.op = .call { callee := .builtin .append, args := #[s, x], argTypes := #[t, t] })
    (i : TypeInfo) (z : Value) (bytes : Nat) (ht : P.underlying t = some (.slice e)) (hi : P.info? e = some i) (hz : i.zero = some z)
    (hsize : i.size = d.sz) (hby : i.bytes = bytes) (hzs : z.cells.size = d.sz) (hsz : 0 < d.sz) (v v2 : Value) (xs ys : List α) (hs : a.eval s = v) (hx : a.eval x = v2) (hown : Own d e w base ok v xs)
    (hown2 : Own d e w base2 ok2 v2 ys) (hok : ∀ b, ok2 b → ok b ∧ some b ≠ v.ownBlock)
    (h63 : xs.length + ys.length ≤ maxLen) (hbytes : (xs.length + ys.length) * bytes ≤ 140737488355328) (hbase : base ≤ w.heap.size)
    (h : ∀ v' w', Own d e w' base ok v' (xs ++ ys) → w.grownBy w' v.ownBlock → (v'.ownBlock = v.ownBlock ∨ v'.ownBlock = some w.heap.size) → wpList P ops Q rest (a.put o.dst v') w') : wpList P ops Q (o :: rest) a w :=
  wpList_plain hgd fun _ hK => by
    obtain ⟨v', w', hrun, h2, h3, h4⟩ := hown.appendMany (P := P) t o.type i z bytes ht hi hz hsize hby hzs hsz hown2 hok h63 hbytes hbase
    unfold Oper.wp execOp
    simp only [ho, resolve, invoke, builtin, Sem.run_bind, Sem.run_pure, Result.andThen_ok, List.map_toArray, List.map_cons, List.map_nil, hs, hx, hrun]
    exact hK _ _ (h v' w' h2 h3 h4)
end
end Go.Proofs.YtpamlgdcnmcedaaGreatDoor
