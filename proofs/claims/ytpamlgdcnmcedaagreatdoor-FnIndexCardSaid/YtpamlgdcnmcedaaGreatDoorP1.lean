/- Plain laws: a value and its jq value; flatten on both. -/
import Derived.Test.YtpamlgdcnmcedaaGreatDoorF1
set_option linter.unusedVariables false
set_option linter.unusedSimpArgs false
namespace Go.Proofs.YtpamlgdcnmcedaaGreatDoor
open Go Go.RowKit
theorem vs_js {l : List V} (h : ∀ v, v ∈ l → v.j.v = v) : J.vs (V.js l) = l := by
  rw [J.vs_map, V.js_map, List.map_map]
  exact (List.map_congr_left fun v hv => h v hv).trans (List.map_id l)
theorem round {v : V} (h : WF v) : v.j.v = v := by
  induction h with
  | mk k h t l ks vs hk hh ht hl hks hlen hb ho hs wl wv il iv =>
    have h3 : k = 3 ∨ (k ≠ 3 ∧ h = 0) := by omega
    have hc : k = 0 ∨ k = 1 ∨ k = 2 ∨ k = 3 ∨ k = 4 ∨ k = 5 ∨ k = 6 := by omega
    have e1 : k ≠ 4 → t = ⟨#[]⟩ := fun h => ht.resolve_left h
    have e2 : k ≠ 5 → l = [] := fun h => hl.resolve_left h
    have e3 : k ≠ 6 → ks = [] ∧ vs = [] := fun h => by
      have := hks.resolve_left h
      subst this
      exact ⟨rfl, List.eq_nil_of_length_eq_zero hlen.symm⟩
    rcases hc with rfl | rfl | rfl | rfl | rfl | rfl | rfl
    · obtain ⟨rfl, rfl⟩ := e3 (by decide); rw [e1 (by decide), e2 (by decide), h3.resolve_left (by decide) |>.2]; simp [V.j, J.v]
    · obtain ⟨rfl, rfl⟩ := e3 (by decide); rw [e1 (by decide), e2 (by decide), h3.resolve_left (by decide) |>.2]; simp [V.j, J.v]
    · obtain ⟨rfl, rfl⟩ := e3 (by decide); rw [e1 (by decide), e2 (by decide), h3.resolve_left (by decide) |>.2]; simp [V.j, J.v]
    · obtain ⟨rfl, rfl⟩ := e3 (by decide)
      rw [e1 (by decide), e2 (by decide)]
      by_cases he : h.tmod 2 = 0
      · have : 2 * h.tdiv 2 = h := by have := Int.tmod_add_mul_tdiv h 2; omega
        simp [V.j, J.v, he, this]
      · simp [V.j, J.v, he]
    · obtain ⟨rfl, rfl⟩ := e3 (by decide); rw [e2 (by decide), h3.resolve_left (by decide) |>.2]; simp [V.j, J.v]
    · obtain ⟨rfl, rfl⟩ := e3 (by decide); rw [e1 (by decide), h3.resolve_left (by decide) |>.2]; simp [V.j, J.v, vs_js il]
    · rw [e1 (by decide), e2 (by decide), h3.resolve_left (by decide) |>.2]; simp [V.j, J.v, vs_js iv]
theorem gj_of {w : World} {ok : Nat → Prop} {v : V} {cs : List Value} (hv : Vr w ok v cs) (hw : WF v) (hp : v.parts ≤ 1000000) : GJ v.j := by
  induction hv with
  | mk k h t l ks vs A1 c1 A2 c2 A3 c3 f g ht h1 h2 h3 b1 b2 b3 hk hh hsz r1 e1 r2 r3 e3 ih1 ih3 =>
    obtain ⟨_, _, _, _, _, _, hk', hh', ht', hl', hks', hlen, hb, ho, hs, wl, wv⟩ := hw
    rw [V.parts] at hp
    have hll := V.partsL_len l
    have hlv := V.partsL_len vs
    have el : ∀ j, j ∈ V.js l → GJ j := fun j hj => by
      rw [V.js_map] at hj
      obtain ⟨v, hv, rfl⟩ := List.mem_map.1 hj
      obtain ⟨i, hi⟩ := List.getElem?_of_mem hv
      exact ih1 i v hi (wl v hv) (by have := V.parts_mem l v hv; omega)
    have ev : ∀ j, j ∈ V.js vs → GJ j := fun j hj => by
      rw [V.js_map] at hj
      obtain ⟨v, hv, rfl⟩ := List.mem_map.1 hj
      obtain ⟨i, hi⟩ := List.getElem?_of_mem hv
      exact ih3 i v hi (wv v hv) (by have := V.parts_mem vs v hv; omega)
    rw [V.j]
    split
    · exact .null
    split
    · exact .bool _
    split
    · exact .bool _
    split
    · split
      · refine .int _ ?_
        have := Int.tmod_add_mul_tdiv h 2
        omega
      · rename_i hne
        exact .hf h (by rintro rfl; exact hne rfl) (by have := ho.resolve_left hne; omega)
    split
    · exact .str t ht
    split
    · exact .arr _ (by rw [js_len]; omega) el
    · exact .obj ks _ (by omega) (by rw [js_len]; exact hlen) hs hsz ev

def flatV : Nat → List V → List V
  | 0, l => l
  | n + 1, l => l.flatMap fun v => if v.kind = 5 then flatV n v.list else [v]
theorem j_arr {v : V} (h : v.kind = 5) : v.j = .arr (V.js v.list) := by
  cases v with
  | mk k h' t l ks vs =>
    have : k = 5 := h
    subst this
    simp [V.j, V.list]
theorem j_not_arr {v : V} (hw : WF v) (h : v.kind ≠ 5) : ∀ l, v.j ≠ .arr l := by
  intro l
  cases v with
  | mk k h' t l' ks vs =>
    have : k ≠ 5 := h
    rw [V.j]
    split; · simp
    split; · simp
    split; · simp
    split; · split <;> simp
    split; · simp
    simp
theorem j_not_obj {v : V} (hw : WF v) (h : v.kind ≠ 6) : ∀ ks vs, v.j ≠ .obj ks vs := by
  intro ks' vs'
  obtain ⟨k, h', t, l', ks, vs, hk, _⟩ := hw
  have : k ≠ 6 := h
  rw [V.j]
  split; · simp
  split; · simp
  split; · simp
  split; · split <;> simp
  split; · simp
  split
  · simp
  · omega
theorem wf_list {v : V} (hw : WF v) : ∀ u, u ∈ v.list → WF u := by
  obtain ⟨k, h', t, l', ks, vs, hk, _, _, _, _, _, _, _, _, wl, _⟩ := hw
  exact wl
theorem parts_list (v : V) : V.partsL v.list ≤ v.parts := by
  cases v; rw [V.parts, V.list]; omega
theorem flat_len : ∀ (n : Nat) (l : List V), (flatV n l).length ≤ V.partsL l
  | 0, l => V.partsL_len l
  | n + 1, [] => by simp [flatV, V.partsL]
  | n + 1, v :: l => by
    have h2 := flat_len (n + 1) l
    have h1 := flat_len n v.list
    have h3 := parts_list v
    have h4 := V.parts_pos v
    rw [flatV] at h2 ⊢
    rw [List.flatMap_cons, List.length_append, V.partsL]
    split
    · omega
    · rw [List.length_singleton]; omega
theorem flat_js : ∀ (n : Nat) (l : List V), (∀ v, v ∈ l → WF v) → flatJ n (V.js l) = V.js (flatV n l)
  | 0, l, _ => rfl
  | n + 1, [], _ => rfl
  | n + 1, v :: l, h => by
    have h2 := flat_js (n + 1) l fun u hu => h u (List.mem_cons_of_mem _ hu)
    have hv := h v List.mem_cons_self
    rw [V.js, flatJ_flatMap, List.flatMap_cons, ← flatJ_flatMap, h2, flatV, flatV, List.flatMap_cons, V.js_map, V.js_map, List.map_append]
    congr 1
    by_cases hk : v.kind = 5
    · rw [if_pos hk, j_arr hk, ← V.js_map]
      exact flat_js n v.list (wf_list hv)
    · rw [if_neg hk]
      have := j_not_arr hv hk
      cases hj : v.j with
      | arr l => exact absurd hj (this l)
      | _ => rw [List.map_cons, hj]; rfl
theorem flat_wf : ∀ (n : Nat) (l : List V), (∀ v, v ∈ l → WF v) → ∀ v, v ∈ flatV n l → WF v
  | 0, l, h => h
  | n + 1, l, h => fun v hv => by
    rw [flatV] at hv
    obtain ⟨u, hu, hv⟩ := List.mem_flatMap.1 hv
    split at hv
    · exact flat_wf n u.list (wf_list (h u hu)) v hv
    · rw [List.mem_singleton.1 hv]; exact h u hu
theorem gj_flat : ∀ (n : Nat) (l : List J), (∀ j, j ∈ l → GJ j) → ∀ j, j ∈ flatJ n l → GJ j
  | 0, l, h => h
  | n + 1, l, h => fun j hj => by
    rw [flatJ_flatMap] at hj
    obtain ⟨u, hu, hj⟩ := List.mem_flatMap.1 hj
    have hg := h u hu
    cases u with
    | arr ys =>
      obtain _ | _ | _ | _ | _ | ⟨_, _, h2⟩ := hg
      exact gj_flat n ys h2 j hj
    | _ => rw [List.mem_singleton.1 hj]; exact hg
end Go.Proofs.YtpamlgdcnmcedaaGreatDoor
