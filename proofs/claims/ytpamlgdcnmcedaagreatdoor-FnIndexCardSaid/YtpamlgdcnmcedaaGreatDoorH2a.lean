/- impl.mapFromGo. -/
import Derived.Test.YtpamlgdcnmcedaaGreatDoorH1
import Derived.Test.YtpamlgdcnmcedaaGreatDoorK
import Derived.Deep.RegionHeld3
import Derived.Deep.AppendLies
set_option linter.unusedVariables false
set_option linter.unusedSimpArgs false
set_option maxRecDepth 100000
namespace Go.Proofs.YtpamlgdcnmcedaaGreatDoor
open Go Go.RowKit

theorem info9 : (Tryz.prog.info? 9).map (fun i => (i.zero, i.size, i.bytes)) = some (some (.string ⟨#[]⟩), 1, 16) := by kernel_rfl

section
variable {α : Type} {d : Kn α} {e base : Nat} {w : World} {ok : Nat → Prop} {v : Value} {xs : List α}
theorem Own.drew (h : Own d e w base ok v xs) : Own d e w.drew base ok v xs := h.grown (row := none) ⟨rfl, rfl, rfl, Nat.le_refl _, fun _ _ _ => rfl⟩ (by cases v.ownBlock <;> simp) (fun b _ => by simp)
theorem Own.alloc (h : Own d e w base ok v xs) (o : Obj) : Own d e (w.alloc o) base ok v xs := h.keep ((Below.refl _ _).alloc (Nat.le_refl _) _)
theorem step_append_Own {P : Program} (d : Kn α) (e base : Nat) {ops : Array Oper} {o : Oper} {a : Act} {K : Act → World → Prop} {Q : Exit → Act → World → Prop} {E : Prop} (hgd : o.guard = none) (s x : Operand) (t : TypeId)
    (ho : o.op = .call { callee := .builtin .append, args := #[s, x], argTypes := #[t, t] })
    (i : TypeInfo) (z : Value) (bytes : Nat) (ht : P.underlying t = some (.slice e)) (hi : P.info? e = some i) (hz : i.zero = some z)
    (hsize : i.size = d.sz) (hby : i.bytes = bytes) (hzs : z.cells.size = d.sz) (hsz : 0 < d.sz) (v : Value) (xs : List α) (hs : a.eval s = v) (hown : Own d e w base ok v xs)
    (ad : Addr) (m : Nat) (c : List Value) (y : α) (hx : a.eval x = .slice (some ad) 1 m) (hc : ∀ j u, c[j]? = some u → w.cell? (ad.add j) = some u) (hR : d.R w (fun b => ok b ∧ some b ≠ v.ownBlock) y c)
    (h63 : xs.length + 1 ≤ maxLen) (hbytes : (xs.length + 1) * bytes ≤ 140737488355328) (hbase : base ≤ w.heap.size)
    (h : ∀ v' w', Own d e w' base ok v' (xs ++ [y]) → w.grownBy w' v.ownBlock → (v'.ownBlock = v.ownBlock ∨ v'.ownBlock = some w.heap.size) → K (a.put o.dst v') w') :
    if Region.wanted o (yielded ops a.tmps) = true then Oper.wp P o a w K Q else E := by
  have hw : Region.wanted o (yielded ops a.tmps) = true := by simp [Region.wanted, hgd]
  rw [if_pos hw]
  obtain ⟨v', w', hrun, h2, h3, h4⟩ := hown.append (P := P) t o.type i z bytes ht hi hz hsize hby hzs hsz ad c y hc hR h63 hbytes hbase m
  unfold Oper.wp execOp
  simp only [ho, resolve, invoke, builtin, Sem.run_bind, Sem.run_pure, Result.andThen_ok, List.map_toArray, List.map_cons, List.map_nil, hs, hx, hrun]
  exact h v' w' h2 h3 h4
theorem wp_append_Own {P : Program} (d : Kn α) (e base : Nat) {o : Oper} {a : Act} {K : Act → World → Prop} {Q : Exit → Act → World → Prop} (s x : Operand) (t : TypeId)
    (ho : o.op = .call { callee := .builtin .append, args := #[s, x], argTypes := #[t, t] })
    (i : TypeInfo) (z : Value) (bytes : Nat) (ht : P.underlying t = some (.slice e)) (hi : P.info? e = some i) (hz : i.zero = some z)
    (hsize : i.size = d.sz) (hby : i.bytes = bytes) (hzs : z.cells.size = d.sz) (hsz : 0 < d.sz) (v : Value) (xs : List α) (hs : a.eval s = v) (hown : Own d e w base ok v xs)
    (ad : Addr) (m : Nat) (c : List Value) (y : α) (hx : a.eval x = .slice (some ad) 1 m) (hc : ∀ j u, c[j]? = some u → w.cell? (ad.add j) = some u) (hR : d.R w (fun b => ok b ∧ some b ≠ v.ownBlock) y c)
    (h63 : xs.length + 1 ≤ maxLen) (hbytes : (xs.length + 1) * bytes ≤ 140737488355328) (hbase : base ≤ w.heap.size)
    (h : ∀ v' w', Own d e w' base ok v' (xs ++ [y]) → w.grownBy w' v.ownBlock → (v'.ownBlock = v.ownBlock ∨ v'.ownBlock = some w.heap.size) → K (a.put o.dst v') w') :
    Oper.wp P o a w K Q := by
  obtain ⟨v', w', hrun, h2, h3, h4⟩ := hown.append (P := P) t o.type i z bytes ht hi hz hsize hby hzs hsz ad c y hc hR h63 hbytes hbase m
  unfold Oper.wp execOp
  simp only [ho, resolve, invoke, builtin, Sem.run_bind, Sem.run_pure, Result.andThen_ok, List.map_toArray, List.map_cons, List.map_nil, hs, hx, hrun]
  exact h v' w' h2 h3 h4
end

/-- The object under way: w1: the world in which the keys lie sorted. -/
structure MFrom (w w1 : World) (k : Nat) (ks : List ByteArray) (vs : List J) (wr : World) : Prop where
  below : Below w.heap.size w wr
  hsz : w1.heap.size ≤ wr.heap.size
  kept : ∀ b, b ≠ w.heap.size + 1 → b < w1.heap.size → wr.heap[b]? = w1.heap[b]?
  out : ∃ kv vv, wr.heap[w.heap.size + 1]? = some (.cells #[.int .i64 6, .int .i64 0, .string ⟨#[]⟩, .slice none 0 0, kv, vv] 26 (0, 0)) ∧
    Own kS 9 wr w1.heap.size (fun _ => False) kv (ks.take k) ∧ Own kV 26 wr w1.heap.size (fun b => w1.heap.size ≤ b ∧ some b ≠ kv.ownBlock) vv ((J.vs vs).take k) ∧ ∀ b, kv.ownBlock = some b → vv.ownBlock ≠ some b

theorem row_keys {w : World} {base m : Nat} {v : Value} {ks : List ByteArray} (h : w.ownsRow base 9 1 v m (ks.map .string)) (hm : ks.length = m) : ∃ A c, v = .slice A m c ∧ RowAt w (fun b => base ≤ b) 1 A m (strCell ks) := by
  have hflat : ∀ l : List ByteArray, (l.map (fun s => [Value.string s])).flatten = l.map .string := fun l => by
    induction l with
    | nil => rfl
    | cons a l ih => simp [ih]
  have hown : Own kS 9 w base (fun _ => False) v ks := ⟨ks.map (fun s => [.string s]), by simp, fun c hc => by
      obtain ⟨s, _, rfl⟩ := List.mem_map.1 hc
      rfl, by rw [hflat, hm]; exact h, fun i x c hx hc => by
      rw [List.getElem?_map, hx] at hc
      simp at hc
      exact hc.symm⟩
  obtain ⟨A, c, rfl, hle⟩ := hown.form
  obtain ⟨f, hr, hf⟩ := hown.reads (ok' := fun b => base ≤ b) (fun b hb => hb.elim) (fun b hb _ => hb) (by decide)
  rw [hm] at hr ⊢
  refine ⟨A, c, rfl, fun h0 => ?_⟩
  obtain ⟨ad, he, ho, hc⟩ := hr h0
  refine ⟨ad, he, ho, fun i j u hi hu => hc i j u hi ?_⟩
  have hx : ks[i]? = some (ks.getD i ⟨#[]⟩) := by
    have : i < ks.length := by omega
    simp [List.getD_eq_getElem?_getD, List.getElem?_eq_getElem this]
  have := hf i _ hx
  rw [show f i = _ from this]
  exact hu

theorem MFrom.start {w W0 w1 : World} {ks : List ByteArray} {vs : List J} (hbw : Below w.heap.size w W0) (hs : W0.heap.size = w.heap.size + 2) (hb : Below W0.heap.size W0 w1)
    (ho : W0.heap[w.heap.size + 1]? = some (.cells #[.int .i64 6, .int .i64 0, .string ⟨#[]⟩, .slice none 0 0, .slice none 0 0, .slice none 0 0] 26 (0, 0))) : MFrom w w1 0 ks vs w1 :=
  ⟨below_trans hbw hb, Nat.le_refl _, fun _ _ _ => rfl, .slice none 0 0, .slice none 0 0, (hb.block _ (by omega)).trans ho, Own.nil _ _ _ _ _, Own.nil _ _ _ _ _, fun b h => by cases h⟩

theorem Own.bound {α : Type} {d : Kn α} {e base : Nat} {w : World} {ok : Nat → Prop} {v : Value} {xs : List α} (h : Own d e w base ok v xs) : Own d e w base (fun b => ok b ∧ b < w.heap.size) v xs := by
  obtain ⟨css, h1, h2, h3, h4⟩ := h
  exact ⟨css, h1, h2, h3, fun i x c hx hc => d.mono (fun b hb => ⟨⟨hb.1.1, hb.2⟩, hb.1.2⟩) (d.bound (h4 i x c hx hc))⟩
theorem grow_block {w2 W w3 : World} {row : Option Nat} (hW : Below w2.heap.size w2 W) (h : W.grownBy w3 row) : w2.grownBy w3 row :=
  ⟨h.os.trans hW.os, h.tape.trans hW.tape, h.output.trans hW.output, Nat.le_trans hW.size h.size, fun k hk hne => (h.block k (Nat.lt_of_lt_of_le hk hW.size) hne).trans (hW.block k hk)⟩
theorem Vr.grown {w w' : World} {ok : Nat → Prop} {v : V} {cs : List Value} {row : Option Nat} (h : Vr w ok v cs) (hg : w.grownBy w' row) (hr : ∀ b, ok b → some b ≠ row) : Vr w' ok v cs :=
  (h.bound.move fun b hb => hg.block b hb.2 (hr b hb.1)).mono fun _ h => h.1
/-- What the region's loads read. -/
theorem lays {W : World} {g g' : Nat} {a0 a1 a2 a3 a4 a5 c0 c1 c2 c3 c4 c5 : Value} {t t' : TypeId} {fz fz' : Nat × Nat} (h : W.heap[g]? = some (.cells #[a0, a1, a2, a3, a4, a5] t fz)) (h' : W.heap[g']? = some (.cells #[c0, c1, c2, c3, c4, c5] t' fz')) :
    W.cell? ⟨g, 4, none⟩ = some a4 ∧ W.cell? ⟨g, 5, none⟩ = some a5 ∧ W.cell? ⟨g', 0, none⟩ = some c0 ∧ W.cell? ⟨g', 1, none⟩ = some c1 ∧ W.cell? ⟨g', 2, none⟩ = some c2 ∧ W.cell? ⟨g', 3, none⟩ = some c3 ∧ W.cell? ⟨g', 4, none⟩ = some c4 ∧ W.cell? ⟨g', 5, none⟩ = some c5 := by
  simp [World.cell?, h, h']

theorem take_next_S {l : List ByteArray} {k : Nat} {j : ByteArray} (h : l[k]? = some j) : l.take k ++ [j] = l.take (k + 1) := by
  rw [List.take_add_one, h]; rfl
theorem MFrom.step {w w1 w2 w3 w4 : World} {k : Nat} {ks : List ByteArray} {vs : List J} {s : ByteArray} {j : J} {kv vv kv3 vv4 : Value}
    (hbel : Below w.heap.size w w2) (hsz : w1.heap.size ≤ w2.heap.size) (hkept : ∀ b, b ≠ w.heap.size + 1 → b < w1.heap.size → w2.heap[b]? = w1.heap[b]?) (hw : w.heap.size + 1 < w1.heap.size)
    (hg3 : w2.grownBy w3 kv.ownBlock) (hg4 : w3.grownBy w4 vv.ownBlock) (hk0 : ∀ b, kv.ownBlock = some b → w1.heap.size ≤ b ∧ b < w2.heap.size) (hv0 : ∀ b, vv.ownBlock = some b → w1.heap.size ≤ b ∧ b < w2.heap.size)
    (hdis : vv.ownBlock = none ∨ vv.ownBlock ≠ kv.ownBlock) (hs : ks[k]? = some s) (hj : vs[k]? = some j)
    (hk3 : Own kS 9 w3 w1.heap.size (fun _ => False) kv3 (ks.take k ++ [s])) (ha3 : kv3.ownBlock = kv.ownBlock ∨ ∃ g, kv3.ownBlock = some g ∧ w2.heap.size ≤ g)
    (hv4 : Own kV 26 w4 w1.heap.size (fun b => (w1.heap.size ≤ b ∧ some b ≠ kv.ownBlock) ∧ b < w2.heap.size) vv4 ((J.vs vs).take k ++ [j.v])) (ha4 : vv4.ownBlock = vv.ownBlock ∨ ∃ g, vv4.ownBlock = some g ∧ w3.heap.size ≤ g)
    (hout : w4.heap[w.heap.size + 1]? = some (.cells #[.int .i64 6, .int .i64 0, .string ⟨#[]⟩, .slice none 0 0, kv, vv] 26 (0, 0))) :
    MFrom w w1 (k + 1) ks vs ((w4.setCell ⟨w.heap.size + 1, 4, none⟩ kv3).setCell ⟨w.heap.size + 1, 5, none⟩ vv4) := by
  rw [take_next_S hs] at hk3
  rw [take_next hj] at hv4
  have b3 := grown_below (B := w1.heap.size) hg3 hsz (fun b h => (hk0 b h).1)
  have b4 := grown_below (B := w1.heap.size) hg4 (Nat.le_trans hsz hg3.size) (fun b h => (hv0 b h).1)
  have hk3lt := hk3.lt
  have hv4lt := hv4.lt
  have hs3 := hg3.size
  have hk4 : Own kS 9 w4 w1.heap.size (fun _ => False) kv3 (ks.take (k + 1)) := by
    refine hk3.grown hg4 ?_ (fun b hb => hb.elim)
    cases hvb : vv.ownBlock with
    | none => cases kv3.ownBlock <;> simp
    | some g =>
      right
      rcases ha3 with h | ⟨g', h, hg'⟩
      · rw [h]
        rcases hdis with h' | h'
        · rw [hvb] at h'; cases h'
        · rw [hvb] at h'; exact fun e => h' e.symm
      · rw [h]
        intro e
        injection e with e
        have := (hv0 g hvb).2
        omega
  have hok : ∀ b, ((w1.heap.size ≤ b ∧ some b ≠ kv.ownBlock) ∧ b < w2.heap.size) → w1.heap.size ≤ b ∧ some b ≠ kv3.ownBlock := fun b hb => ⟨hb.1.1, by
    rcases ha3 with h | ⟨g', h, hg'⟩
    · rw [h]; exact hb.1.2
    · rw [h]; intro e; injection e with e; omega⟩
  have hset : ∀ {α : Type} {d : Kn α} {e : Nat} {W : World} {ok : Nat → Prop} {v : Value} {xs : List α} (i : Nat) (u : Value), Own d e W w1.heap.size ok v xs → (∀ b, ok b → w1.heap.size ≤ b) → Own d e (W.setCell ⟨w.heap.size + 1, i, none⟩ u) w1.heap.size ok v xs := fun i u h h' => by
    refine h.set (fun he => ?_) (fun b hb => ?_) _
    · have h : w1.heap.size ≤ w.heap.size + 1 := (h.lt _ he.symm).1
      omega
    · have := h' b hb
      show b ≠ w.heap.size + 1
      omega
  refine ⟨?_, ?_, fun b h1 h2 => ?_, kv3, vv4, ?_, hset _ _ (hset _ _ hk4 (fun b hb => hb.elim)) (fun b hb => hb.elim), hset _ _ (hset _ _ (hv4.mono hok) (fun b hb => hb.1)) (fun b hb => hb.1), fun b h1 h2 => ?_⟩
  · exact ((hbel.trans ((b3.mono (by omega)).trans (b4.mono (by omega)))).setCell (by show w.heap.size ≤ w.heap.size + 1; omega) _).setCell (by show w.heap.size ≤ w.heap.size + 1; omega) _
  · simp only [World.setCell, Array.size_modify]
    exact Nat.le_trans (Nat.le_trans hsz hg3.size) hg4.size
  · rw [Below.heap_setCell _ _ _ _ h1, Below.heap_setCell _ _ _ _ h1, b4.block b h2, b3.block b h2, hkept b h1 h2]
  · exact heap_setCell_row (heap_setCell_row hout _) _
  · rcases ha4 with h | ⟨g, h, hg⟩
    · rw [h] at h2
      rcases ha3 with h' | ⟨g', h', hg'⟩
      · rw [h'] at h1
        rcases hdis with h'' | h''
        · rw [h''] at h2; cases h2
        · exact h'' (h2.trans h1.symm)
      · rw [h'] at h1
        injection h1 with h1
        have := (hv0 b h2).2
        omega
    · rw [h] at h2
      injection h2 with h2
      have := (hk3lt b h1).2
      omega

theorem one_new {w : World} {g : Nat} {u0 : Value} {t : TypeId} {fz : Nat × Nat} (h : w.heap[g]? = some (.cells #[u0] t fz)) (j : Nat) (u : Value) (hu : [u0][j]? = some u) : w.cell? ((⟨g, 0, none⟩ : Addr).add j) = some u := by
  match j, hu with
  | 0, hu => simp at hu; subst hu; simp [Addr.add, World.cell?, h]
  | j + 1, hu => simp at hu

theorem own_strs {w : World} {base m c : Nat} {ok ok' : Nat → Prop} {A : Option Addr} {ks : List ByteArray} (h : Own kS 9 w base ok (.slice A m c) ks) (hm : ks.length = m) (h0 : ∀ b, ok b → ok' b) (hb : ∀ b, base ≤ b → b < w.heap.size → ok' b) : RowAt w ok' 1 A m (strCell ks) := by
  obtain ⟨f, hr, hf⟩ := h.reads h0 hb (by decide)
  rw [hm] at hr
  refine fun h0 => ?_
  obtain ⟨ad, he, ho, hc⟩ := hr h0
  refine ⟨ad, he, ho, fun i j u hi hu => hc i j u hi ?_⟩
  have hx : ks[i]? = some (ks.getD i ⟨#[]⟩) := by
    have : i < ks.length := by omega
    simp [List.getD_eq_getElem?_getD, List.getElem?_eq_getElem this]
  have := hf i _ hx
  rw [show f i = _ from this]
  exact hu
theorem vr_own_obj {w : World} {ok ok0 ok1 : Nat → Prop} {base m c c' : Nat} {A A' : Option Addr} {ks : List ByteArray} {l : List V} (hk : Own kS 9 w base ok1 (.slice A m c) ks) (hv : Own kV 26 w base ok0 (.slice A' m c') l)
    (h0 : ∀ b, ok0 b → ok b) (h1 : ∀ b, ok1 b → ok b) (hb : ∀ b, base ≤ b → b < w.heap.size → ok b) (hkl : ks.length = m) (hl : l.length = m) (hc : m ≤ c) (hc' : m ≤ c') (hm : m ≤ 140737488351232)
    (hs : ∀ (i : Nat) (s : ByteArray), ks[i]? = some s → s.size ≤ 140737488351232) :
    Vr w ok (.mk 6 0 ⟨#[]⟩ [] ks l) [.int .i64 6, .int .i64 0, .string ⟨#[]⟩, .slice none 0 0, .slice A m c, .slice A' m c'] := by
  obtain ⟨f, hr, hf⟩ := hv.reads h0 hb (by decide)
  have hr2 := own_strs hk hkl h1 hb
  subst hkl
  have hl' : l.length = ks.length := hl
  have := Vr.mk (w := w) (ok := ok) 6 0 ⟨#[]⟩ [] ks l none 0 A c A' c' (fun _ => []) f (by decide) (by simp) hc (by omega) (by simp) (by omega) (by omega) (by omega) (by omega) hs (fun h => by simp at h) (fun i v h => by simp at h) hr2 hr hf
  rw [hl'] at this
  exact this
end Go.Proofs.YtpamlgdcnmcedaaGreatDoor
