/- A region that draws its order: an operation may be taken first as long as what it yields stands, by a condition that may hang on which operations have come up: a load of a cell that a later store of the same region writes. -/
import Derived.OrdersHeld
import Derived.Deep.RegionHeld3
import Derived.Lib.Hide
set_option linter.unusedVariables false
set_option linter.unusedSimpArgs false
namespace Go.Proofs.YtpamlgdcnmcedaaGreatDoor
open Go Go.RowKit
section
variable {P : Program} {ops : Array Oper} {Q : Exit → Act → World → Prop} {md : Region.Mode} {S : Array Bool → World → Prop}

/-- Whatever order is picked, and S holds behind each operation, at those that have come up. -/
def AnyL (P : Program) (md : Region.Mode) (ops : Array Oper) (Q : Exit → Act → World → Prop) (S : Array Bool → World → Prop) : Nat → Array Bool → Act → World → Prop
  | 0, l, a, w => Region.ready md ops l = [] ∧ Q .normal a w
  | n + 1, l, a, w => (Region.ready md ops l = [] → Q .normal a w) ∧
    ∀ i ∈ Region.ready md ops l, wpOp P ops Q i (fun a' w' => S (l.setIfInBounds i true) w' ∧ AnyL P md ops Q S n (l.setIfInBounds i true) a' w') a w

theorem any_of_L : ∀ (n : Nat) (l : Array Bool) (a : Act) (w : World), AnyL P md ops Q S n l a w → wpAny P md ops Q n l a w
  | 0, _, _, _, h => h
  | n + 1, _, _, _, h => ⟨h.1, fun i hi => wpOp_mono (fun a' w' h' => any_of_L n _ a' w' h'.2) (h.2 i hi)⟩

theorem anyL_first {i : Nat} {oi : Oper} {v : Value} {Y : World → Prop} {I : Array Bool → Prop} (hi : ops[i]? = some oi) (hsel : ∀ (j : Nat) (o : Oper) cs b, ops[j]? = some o → o.op ≠ .select cs b)
    (hQ : ∀ c a w, Q (.panic c) (a.put oi.dst v) w → Q (.panic c) a w)
    (hSY : ∀ l w, I l → S (l.setIfInBounds i true) w → Y w) (hSS : ∀ l w, S (l.setIfInBounds i true) w → S l w)
    (hI : ∀ l j, I l → i ∈ Region.ready md ops l → j ∈ Region.ready md ops l → j ≠ i → I (l.setIfInBounds j true)) :
    ∀ (n : Nat) (l : Array Bool) (a : Act) (w : World),
      (∀ j oj, ops[j]? = some oj → j ≠ i → l.getD j true = false → (∀ e ∈ oj.after, Region.binds md e = true → e.on ≠ i) → oi.apart ops oj = true) →
      i ∈ Region.ready md ops l → I l → YieldsIf P ops Y oi v a → S (l.setIfInBounds i true) w →
      AnyL P md ops Q S n (l.setIfInBounds i true) (a.put oi.dst v) w → AnyL P md ops Q S (n + 1) l a w := by
  intro n
  induction n with
  | zero =>
    intro l a w _ hr hIl hy hS H
    refine ⟨fun h => (by rw [h] at hr; cases hr), fun j hj => ?_⟩
    by_cases hji : j = i
    · subst hji; exact hy.wpOp hi (hSY _ _ hIl hS) ⟨hS, H⟩
    · have := ready_mono hj hji
      rw [H.1] at this
      cases this
  | succ n ih =>
    intro l a w hfree hr hIl hy hS H
    refine ⟨fun h => (by rw [h] at hr; cases hr), fun j hj => ?_⟩
    by_cases hji : j = i
    · subst hji; exact hy.wpOp hi (hSY _ _ hIl hS) ⟨hS, H⟩
    · have h1 := H.2 j (ready_mono hj hji)
      obtain ⟨hjun, oj, hoj, hall⟩ := mem_ready.1 hj
      have hnot : ∀ e ∈ oj.after, Region.binds md e = true → e.on ≠ i := fun e he hb heq => by
        have h1 := hall e he hb
        have h0 := (mem_ready.1 hr).1
        rw [heq] at h1
        rcases Nat.lt_or_ge i l.size with h' | h'
        · simp [h'] at h0 h1; rw [h0] at h1; cases h1
        · simp [Array.getElem?_eq_none h'] at h1
      have h2 := wpOp_putIf (S := Y) hoj (hfree j oj hoj hji hjun hnot) (fun cs b => hsel i oi cs b hi) (fun cs b => hsel j oj cs b hoj) hQ hy h1
      refine wpOp_mono (fun a' w' h3 => ?_) h2
      obtain ⟨h4, h5, h6⟩ := h3
      rw [Array.setIfInBounds_comm _ _ (Ne.symm hji)] at h5 h6
      refine ⟨hSS _ _ h5, ih (l.setIfInBounds j true) a' w' (fun k ok hk hki hun hno => ?_) (ready_mono hr (Ne.symm hji)) (hI l j hIl hr hj hji) h4 h5 h6⟩
      refine hfree k ok hk hki ?_ hno
      by_cases hjk : j = k
      · subst hjk; exact hjun
      · rw [getD_set_ne true hjk] at hun; exact hun

/-- The condition of use: Z always, X till number t has come up. -/
def SZ (Z X : World → Prop) (t : Nat) (l : Array Bool) (w : World) : Prop := Z w ∧ (l.getD t false = true ∨ X w)
/-- Take number i first: its value stands wherever Z holds. -/
theorem anyL_take {Z X : World → Prop} {t i : Nat} {oi : Oper} {v : Value} {n : Nat} {l : Array Bool} {a : Act} {w : World} (hi : ops[i]? = some oi) (hit : i ≠ t)
    (hs : Region.noSelect ops = true) (hf : Region.free md ops l i = true) (hr : (Region.ready md ops l).contains i = true)
    (hQ : ∀ c a w, Q (.panic c) (a.put oi.dst v) w → Q (.panic c) a w) (hy : YieldsIf P ops Z oi v a) (hZ : Z w) (hX : X w)
    (h : AnyL P md ops Q (SZ Z X t) n (l.setIfInBounds i true) (a.put oi.dst v) w) : AnyL P md ops Q (SZ Z X t) (n + 1) l a w :=
  anyL_first (I := fun _ => True) hi (Region.noSelect_spec hs) hQ (fun l w _ h => h.1) (fun l w h => ⟨h.1, by rw [← getD_set_ne false hit]; exact h.2⟩) (fun _ _ _ _ _ _ => trivial)
    n l a w (Region.free_spec hi hf) (by simpa using hr) trivial hy ⟨hZ, .inr hX⟩ h
/-- .. wherever X holds, if number t waits for it. -/
theorem anyL_take_x {Z X : World → Prop} {t i : Nat} {oi ot : Oper} {v : Value} {n : Nat} {l : Array Bool} {a : Act} {w : World} (hi : ops[i]? = some oi) (hit : i ≠ t) (ht : ops[t]? = some ot)
    (hw : (ot.after.any fun e => Region.binds md e && e.on == i) = true) (htl : l.getD t false = false)
    (hs : Region.noSelect ops = true) (hf : Region.free md ops l i = true) (hr : (Region.ready md ops l).contains i = true)
    (hQ : ∀ c a w, Q (.panic c) (a.put oi.dst v) w → Q (.panic c) a w) (hy : YieldsIf P ops X oi v a) (hZ : Z w) (hX : X w)
    (h : AnyL P md ops Q (SZ Z X t) n (l.setIfInBounds i true) (a.put oi.dst v) w) : AnyL P md ops Q (SZ Z X t) (n + 1) l a w := by
  refine anyL_first (I := fun l => l.getD t false = false) hi (Region.noSelect_spec hs) hQ (fun l w hI h => ?_) (fun l w h => ⟨h.1, by rw [← getD_set_ne false hit]; exact h.2⟩) (fun l j hI hr hj hji => ?_)
    n l a w (Region.free_spec hi hf) (by simpa using hr) htl hy ⟨hZ, .inr hX⟩ h
  · have h2 := h.2
    rw [getD_set_ne false hit, hI] at h2
    exact h2.resolve_left (by simp)
  · by_cases hjt : j = t
    · subst hjt
      exfalso
      obtain ⟨_, o, ho, hall⟩ := mem_ready.1 hj
      rw [ht] at ho
      injection ho with ho
      subst ho
      obtain ⟨e, he, hb⟩ := Array.any_eq_true'.1 hw
      simp only [Bool.and_eq_true, beq_iff_eq] at hb
      have h1 := hall e he hb.1
      have h0 := (mem_ready.1 hr).1
      rw [hb.2] at h1
      rcases Nat.lt_or_ge i l.size with h' | h'
      · simp [h'] at h0 h1; rw [h0] at h1; cases h1
      · simp [Array.getElem?_eq_none h'] at h1
    · rw [getD_set_ne false hjt]; exact hI
/-- .. behind number t. -/
theorem anyL_take_z {Z X : World → Prop} {t i : Nat} {oi : Oper} {v : Value} {n : Nat} {l : Array Bool} {a : Act} {w : World} (hi : ops[i]? = some oi) (hit : i ≠ t)
    (hs : Region.noSelect ops = true) (hf : Region.free md ops l i = true) (hr : (Region.ready md ops l).contains i = true)
    (hQ : ∀ c a w, Q (.panic c) (a.put oi.dst v) w → Q (.panic c) a w) (hy : YieldsIf P ops Z oi v a) (hZ : Z w) (hl : l.getD t false = true)
    (h : AnyL P md ops Q (SZ Z X t) n (l.setIfInBounds i true) (a.put oi.dst v) w) : AnyL P md ops Q (SZ Z X t) (n + 1) l a w :=
  anyL_first (I := fun _ => True) hi (Region.noSelect_spec hs) hQ (fun l w _ h => h.1) (fun l w h => ⟨h.1, by rw [← getD_set_ne false hit]; exact h.2⟩) (fun _ _ _ _ _ _ => trivial)
    n l a w (Region.free_spec hi hf) (by simpa using hr) trivial hy ⟨hZ, .inl (by rw [getD_set_ne false hit]; exact hl)⟩ h
theorem anyL_all {rs : List Nat} {n : Nat} {l : Array Bool} {a : Act} {w : World} (hr : Region.ready md ops l = rs) (hne : rs ≠ [])
    (h : ∀ i ∈ rs, wpOp P ops Q i (fun a' w' => S (l.setIfInBounds i true) w' ∧ AnyL P md ops Q S n (l.setIfInBounds i true) a' w') a w) : AnyL P md ops Q S (n + 1) l a w :=
  ⟨fun h0 => absurd (hr ▸ h0) hne, hr ▸ h⟩
theorem anyL_one {i : Nat} {n : Nat} {l : Array Bool} {a : Act} {w : World} (hr : Region.ready md ops l = [i])
    (h : wpOp P ops Q i (fun a' w' => S (l.setIfInBounds i true) w' ∧ AnyL P md ops Q S n (l.setIfInBounds i true) a' w') a w) : AnyL P md ops Q S (n + 1) l a w :=
  anyL_all hr (by simp) fun j hj => by rw [List.mem_singleton.1 hj]; exact h
theorem anyL_two {i k : Nat} {n : Nat} {l : Array Bool} {a : Act} {w : World} (hr : Region.ready md ops l = [i, k])
    (h : wpOp P ops Q i (fun a' w' => S (l.setIfInBounds i true) w' ∧ AnyL P md ops Q S n (l.setIfInBounds i true) a' w') a w)
    (h' : wpOp P ops Q k (fun a' w' => S (l.setIfInBounds k true) w' ∧ AnyL P md ops Q S n (l.setIfInBounds k true) a' w') a w) : AnyL P md ops Q S (n + 1) l a w :=
  anyL_all hr (by simp) fun j hj => by
    simp only [List.mem_cons, List.not_mem_nil, or_false] at hj
    rcases hj with rfl | rfl
    · exact h
    · exact h'
theorem anyL_done {l : Array Bool} {a : Act} {w : World} (hr : Region.ready md ops l = []) (h : Q .normal a w) : ∀ n, AnyL P md ops Q S n l a w
  | 0 => ⟨hr, h⟩
  | _ + 1 => ⟨fun _ => h, by rw [hr]; simp⟩
/-- The operation carried out; what follows is a letter. -/
theorem wpOp_at {i : Nat} {o : Oper} {K : Act → World → Prop} {a : Act} {w : World} (ho : ops[i]? = some o)
    (h : ∀ K' : Act → World → Prop, Hid (∀ a' w', K a' w' → K' a' w') → if Region.wanted o (yielded ops a.tmps) = true then Oper.wp P o a w K' Q else K' (a.put o.dst undef) w) : wpOp P ops Q i K a w := by
  unfold wpOp
  simp only [ho]
  have := h K (Lib.hid fun _ _ h => h)
  split at this
  · rename_i hw; simp only [hw, if_true]; exact .inl this
  · rename_i hw; simp only [hw, if_false]; exact this
theorem wpOp_go {i : Nat} {o : Oper} {K : Act → World → Prop} {a : Act} {w : World} (ho : ops[i]? = some o) (hw : Region.wanted o (yielded ops a.tmps) = true)
    (h : ∀ K' : Act → World → Prop, Hid (∀ a' w', K a' w' → K' a' w') → Oper.wp P o a w K' Q) : wpOp P ops Q i K a w := by
  unfold wpOp
  simp only [ho, hw, if_true]
  exact .inl (h K (Lib.hid fun _ _ h => h))
theorem region_L {id : Nat} {a : Act} {w : World} (n : Nat) (l : Array Bool) (hn : ops.size = n) (hl : Array.replicate n false = l) (hm : P.follows .mixedOrders = true) (h : AnyL P .any ops (NoPanic Q) S n l a w.drew) : (Code.region id ops true).wp P Q a w := by
  subst hn hl
  exact wp_region_noPanic (wp_region_any hm (any_of_L _ _ _ _ h))
end
end Go.Proofs.YtpamlgdcnmcedaaGreatDoor
