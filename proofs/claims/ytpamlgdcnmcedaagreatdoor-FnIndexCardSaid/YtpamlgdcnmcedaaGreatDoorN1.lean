/- The order of values: antisymmetric and transitive. -/
import Derived.Test.YtpamlgdcnmcedaaGreatDoorQ2
set_option linter.unusedVariables false
set_option linter.unusedSimpArgs false
namespace Go.Proofs.YtpamlgdcnmcedaaGreatDoor
open Go Go.RowKit
def lex {α : Type} (C : α → α → Int) : List α → List α → Int
  | a :: l, b :: r => if C a b ≠ 0 then C a b else lex C l r
  | l, r => (l.length : Int) - r.length
theorem keysC_lex : ∀ a b : List ByteArray, keysC a b = lex textsC a b
  | [], [] => by rw [keysC, lex] <;> simp
  | [], _ :: _ => by rw [keysC, lex] <;> simp
  | _ :: _, [] => by rw [keysC, lex] <;> simp
  | x :: a, y :: b => by rw [keysC, lex, keysC_lex a b]
theorem cmpL_lex : ∀ a b : List V, cmpL a b = lex cmpV a b
  | [], b => by rw [cmpL, lex] <;> simp
  | x :: a, [] => by rw [cmpL, lex] <;> simp
  | x :: a, y :: b => by rw [cmpL, lex, cmpL_lex a b]
structure Ord3 {α : Type} (C : α → α → Int) (S : α → Prop) : Prop where
  anti : ∀ x y, S x → S y → C y x = -C x y
  trans : ∀ x y z, S x → S y → S z → C x y ≤ 0 → C y z ≤ 0 → C x z ≤ 0
theorem lex_anti {α : Type} {C : α → α → Int} {S : α → Prop} (h : Ord3 C S) : ∀ a b : List α, (∀ x, x ∈ a → S x) → (∀ x, x ∈ b → S x) → lex C b a = -lex C a b
  | [], [], _, _ => by simp [lex]
  | [], _ :: _, _, _ => by simp [lex] <;> omega
  | _ :: _, [], _, _ => by simp [lex] <;> omega
  | x :: a, y :: b, ha, hb => by
    have h1 := h.anti x y (ha x List.mem_cons_self) (hb y List.mem_cons_self)
    have h2 := lex_anti h a b (fun z hz => ha z (List.mem_cons_of_mem _ hz)) (fun z hz => hb z (List.mem_cons_of_mem _ hz))
    rw [lex, lex]
    by_cases h0 : C x y = 0
    · rw [if_neg (by omega), if_neg (by omega), h2]
    · rw [if_pos (by omega), if_pos h0, h1]
theorem lex_trans {α : Type} {C : α → α → Int} {S : α → Prop} (h : Ord3 C S) : ∀ a b c : List α, (∀ x, x ∈ a → S x) → (∀ x, x ∈ b → S x) → (∀ x, x ∈ c → S x) → lex C a b ≤ 0 → lex C b c ≤ 0 → lex C a c ≤ 0
  | [], _, c, _, _, _, _, _ => by
    cases c <;> (simp [lex]; try omega)
  | x :: a, [], _, _, _, _, h1, _ => by simp [lex] at h1; omega
  | x :: a, y :: b, [], _, _, _, _, h2 => by simp [lex] at h2; omega
  | x :: a, y :: b, z :: c, ha, hb, hc, h1, h2 => by
    have sx := ha x List.mem_cons_self
    have sy := hb y List.mem_cons_self
    have sz := hc z List.mem_cons_self
    rw [lex] at h1 h2 ⊢
    have k1 : C x y ≤ 0 := by
      by_cases e : C x y = 0
      · omega
      · rwa [if_pos e] at h1
    have k2 : C y z ≤ 0 := by
      by_cases e : C y z = 0
      · omega
      · rwa [if_pos e] at h2
    have k3 := h.trans x y z sx sy sz k1 k2
    by_cases e : C x z = 0
    · have a1 := h.anti x z sx sz
      have a2 := h.anti x y sx sy
      have a3 := h.anti y z sy sz
      have k4 := h.trans y z x sy sz sx k2 (by omega)
      have k5 := h.trans z x y sz sx sy (by omega) k1
      rw [if_neg (by omega)] at h1 h2 ⊢
      exact lex_trans h a b c (fun w hw => ha w (List.mem_cons_of_mem _ hw)) (fun w hw => hb w (List.mem_cons_of_mem _ hw)) (fun w hw => hc w (List.mem_cons_of_mem _ hw)) h1 h2
    · rw [if_pos e]
      exact k3
theorem textsC_cases (a b : ByteArray) : (textsC a b = -1 ∧ a.toList < b.toList) ∨ (textsC a b = 0 ∧ a.toList = b.toList) ∨ (textsC a b = 1 ∧ b.toList < a.toList) := by
  unfold textsC
  by_cases h1 : bl a b = true
  · rw [if_pos h1]
    rw [bl_lt, decide_eq_true_eq] at h1
    exact .inl ⟨rfl, h1⟩
  · rw [if_neg h1]
    rw [bl_lt, decide_eq_true_eq] at h1
    by_cases h2 : a.toList = b.toList
    · rw [if_pos (by simpa using h2)]
      exact .inr (.inl ⟨rfl, h2⟩)
    · rw [if_neg (by simpa using h2)]
      refine .inr (.inr ⟨rfl, ?_⟩)
      rcases Classical.em (b.toList < a.toList) with h3 | h3
      · exact h3
      · exact absurd (List.le_antisymm (List.not_lt.1 h3) (List.not_lt.1 h1)) h2
theorem texts_ord : Ord3 textsC (fun _ => True) where
  anti x y _ _ := by
    rcases textsC_cases x y with ⟨h1, h2⟩ | ⟨h1, h2⟩ | ⟨h1, h2⟩
    · rcases textsC_cases y x with ⟨h3, h4⟩ | ⟨h3, h4⟩ | ⟨h3, h4⟩
      · exact absurd (List.lt_trans h2 h4) (List.lt_irrefl _)
      · rw [h4] at h2; exact absurd h2 (List.lt_irrefl _)
      · omega
    · rcases textsC_cases y x with ⟨h3, h4⟩ | ⟨h3, h4⟩ | ⟨h3, h4⟩
      · rw [h2] at h4; exact absurd h4 (List.lt_irrefl _)
      · omega
      · rw [h2] at h4; exact absurd h4 (List.lt_irrefl _)
    · rcases textsC_cases y x with ⟨h3, h4⟩ | ⟨h3, h4⟩ | ⟨h3, h4⟩
      · omega
      · rw [h4] at h2; exact absurd h2 (List.lt_irrefl _)
      · exact absurd (List.lt_trans h2 h4) (List.lt_irrefl _)
  trans x y z _ _ _ h1 h2 := by
    have k1 : x.toList ≤ y.toList := by
      rcases textsC_cases x y with ⟨h3, h4⟩ | ⟨h3, h4⟩ | ⟨h3, h4⟩
      · exact List.le_of_lt h4
      · rw [h4]; exact List.le_refl _
      · omega
    have k2 : y.toList ≤ z.toList := by
      rcases textsC_cases y z with ⟨h3, h4⟩ | ⟨h3, h4⟩ | ⟨h3, h4⟩
      · exact List.le_of_lt h4
      · rw [h4]; exact List.le_refl _
      · omega
    have k3 := List.le_trans k1 k2
    rcases textsC_cases x z with ⟨h3, h4⟩ | ⟨h3, h4⟩ | ⟨h3, h4⟩
    · omega
    · omega
    · exact absurd h4 (List.not_lt.2 k3)
theorem sgn_le (n : Int) : sgn n ≤ 0 ↔ n ≤ 0 := by
  unfold sgn
  by_cases h1 : n < 0
  · rw [if_pos h1]; omega
  · rw [if_neg h1]
    by_cases h2 : 0 < n
    · rw [if_pos h2]; omega
    · rw [if_neg h2]; omega
theorem sgn_neg (n : Int) : sgn (-n) = -sgn n := by
  unfold sgn
  by_cases h1 : n < 0
  · rw [if_pos h1, if_neg (by omega), if_pos (by omega)]; rfl
  · by_cases h2 : 0 < n
    · rw [if_neg h1, if_pos h2, if_pos (by omega)]
    · rw [if_neg h1, if_neg h2, if_neg (by omega), if_neg (by omega)]; rfl
theorem keys_ord : Ord3 keysC (fun _ => True) where
  anti x y _ _ := by rw [keysC_lex, keysC_lex]; exact lex_anti texts_ord x y (fun _ _ => trivial) (fun _ _ => trivial)
  trans x y z _ _ _ h1 h2 := by rw [keysC_lex] at *; exact lex_trans texts_ord x y z (fun _ _ => trivial) (fun _ _ => trivial) (fun _ _ => trivial) h1 h2
theorem size_list {k h : Int} {t : ByteArray} {l : List V} {ks : List ByteArray} {vs : List V} {n : Nat} (hn : SizeOf.sizeOf (V.mk k h t l ks vs) < n + 1) : (∀ x, x ∈ l → SizeOf.sizeOf x < n) ∧ ∀ x, x ∈ vs → SizeOf.sizeOf x < n :=
  ⟨fun x hx => by have := sizeOf_lt_list (k := k) (h := h) (t := t) (ks := ks) (vs := vs) hx; omega, fun x hx => by have := sizeOf_lt_vals (k := k) (h := h) (t := t) (l := l) (ks := ks) hx; omega⟩
theorem cmpV_ord : ∀ n : Nat, Ord3 cmpV (fun v => SizeOf.sizeOf v < n)
  | 0 => ⟨fun x y h => absurd h (Nat.not_lt_zero _), fun x y z h => absurd h (Nat.not_lt_zero _)⟩
  | n + 1 => by
    have ih := cmpV_ord n
    refine ⟨fun x y hx hy => ?_, fun x y z hx hy hz h1 h2 => ?_⟩
    · obtain ⟨k, h, t, l, ks, vs⟩ := x
      obtain ⟨k', h', t', l', ks', vs'⟩ := y
      obtain ⟨xl, xv⟩ := size_list hx
      obtain ⟨yl, yv⟩ := size_list hy
      have e1 := lex_anti ih l l' xl yl
      have e2 := lex_anti ih vs vs' xv yv
      have e3 := keys_ord.anti ks ks' trivial trivial
      have e4 := texts_ord.anti t t' trivial trivial
      rw [cmpV, cmpV]
      simp only [V.kind, V.half, V.text, V.list, V.keys, V.vals, cmpL_lex]
      by_cases hk : k = k'
      · subst hk
        simp only [ne_eq, not_true_eq_false, if_false]
        split
        · rw [show h' - h = -(h - h') from by omega, sgn_neg]
        split
        · exact e4
        split
        · rw [e1, sgn_neg]
        split
        · by_cases hk0 : keysC ks ks' = 0
          · rw [if_neg (by omega), if_neg (by omega), e2, sgn_neg]
          · rw [if_pos (by omega), if_pos hk0, e3, sgn_neg]
        · rfl
      · rw [if_pos hk, if_pos (fun e => hk e.symm), show k' - k = -(k - k') from by omega, sgn_neg]
    · obtain ⟨k, h, t, l, ks, vs⟩ := x
      obtain ⟨k', h', t', l', ks', vs'⟩ := y
      obtain ⟨k'', h'', t'', l'', ks'', vs''⟩ := z
      obtain ⟨xl, xv⟩ := size_list hx
      obtain ⟨yl, yv⟩ := size_list hy
      obtain ⟨zl, zv⟩ := size_list hz
      have e1 := lex_trans ih l l' l'' xl yl zl
      have e2 := lex_trans ih vs vs' vs'' xv yv zv
      rw [cmpV] at h1 h2 ⊢
      simp only [V.kind, V.half, V.text, V.list, V.keys, V.vals, cmpL_lex] at h1 h2 ⊢
      by_cases hk : k = k'
      · by_cases hk' : k' = k''
        · subst hk hk'
          simp only [ne_eq, not_true_eq_false, if_false] at h1 h2 ⊢
          by_cases c3 : k = 3
          · simp only [c3, if_true] at h1 h2 ⊢
            rw [sgn_le] at *
            omega
          · simp only [c3, if_false] at h1 h2 ⊢
            by_cases c4 : k = 4
            · simp only [c4, if_true] at h1 h2 ⊢
              exact texts_ord.trans t t' t'' trivial trivial trivial h1 h2
            · simp only [c4, if_false] at h1 h2 ⊢
              by_cases c5 : k = 5
              · simp only [c5, if_true] at h1 h2 ⊢
                rw [sgn_le] at *
                exact e1 h1 h2
              · simp only [c5, if_false] at h1 h2 ⊢
                by_cases c6 : k = 6
                · simp only [c6, if_true] at h1 h2 ⊢
                  have a1 := keys_ord.anti ks ks'' trivial trivial
                  have a2 := keys_ord.anti ks ks' trivial trivial
                  have a3 := keys_ord.anti ks' ks'' trivial trivial
                  have k1 : keysC ks ks' ≤ 0 := by
                    by_cases e : keysC ks ks' = 0
                    · omega
                    · rw [if_pos e, sgn_le] at h1; exact h1
                  have k2 : keysC ks' ks'' ≤ 0 := by
                    by_cases e : keysC ks' ks'' = 0
                    · omega
                    · rw [if_pos e, sgn_le] at h2; exact h2
                  have k3 := keys_ord.trans ks ks' ks'' trivial trivial trivial k1 k2
                  by_cases e : keysC ks ks'' = 0
                  · have k4 := keys_ord.trans ks' ks'' ks trivial trivial trivial k2 (by omega)
                    have k5 := keys_ord.trans ks'' ks ks' trivial trivial trivial (by omega) k1
                    rw [if_neg (by omega), sgn_le] at h1 h2 ⊢
                    exact e2 h1 h2
                  · rw [if_pos e, sgn_le]
                    exact k3
                · simp only [c6, if_false]
                  decide
        · subst hk
          rw [if_pos hk'] at h2 ⊢
          exact h2
      · rw [if_pos hk, sgn_le] at h1
        by_cases hk' : k' = k''
        · subst hk'
          rw [if_pos hk, sgn_le]
          exact h1
        · rw [if_pos hk', sgn_le] at h2
          rw [if_pos (by omega), sgn_le]
          omega
theorem cmpV_anti (x y : V) : cmpV y x = -cmpV x y := (cmpV_ord (SizeOf.sizeOf x + SizeOf.sizeOf y + 1)).anti x y (by show _ < _; omega) (by show _ < _; omega)
theorem cmpV_trans {x y z : V} (h1 : cmpV x y ≤ 0) (h2 : cmpV y z ≤ 0) : cmpV x z ≤ 0 := (cmpV_ord (SizeOf.sizeOf x + SizeOf.sizeOf y + SizeOf.sizeOf z + 1)).trans x y z (by show _ < _; omega) (by show _ < _; omega) (by show _ < _; omega) h1 h2
end Go.Proofs.YtpamlgdcnmcedaaGreatDoor
