/- Plain: jq values that come back as they went. -/
import Derived.Test.YtpamlgdcnmcedaaGreatDoorZ1
set_option linter.unusedVariables false
set_option linter.unusedSimpArgs false
namespace Go.Proofs.YtpamlgdcnmcedaaGreatDoor
open Go Go.RowKit
def JN (j : J) : Prop := WF j.v ∧ Sm j.v ∧ GJ j ∧ j.v.j = j
theorem jn_of {w : World} {ok : Nat → Prop} {v : V} {cs : List Value} (hv : Vr w ok v cs) (hw : WF v) (hp : v.parts ≤ 1000000) : JN v.j :=
  ⟨by rw [round hw]; exact hw, by rw [round hw]; exact sm_of hp, gj_of hv hw hp, by rw [round hw]⟩
theorem wf_plain (k h : Int) (hk : 0 ≤ k ∧ k ≤ 6) (hh : k = 3 ∨ h = 0) (hb : Fl.Hb h) : WF (V.mk k h ⟨#[]⟩ [] [] []) :=
  .mk k h ⟨#[]⟩ [] [] [] hk hh (.inr rfl) (.inr rfl) (.inr rfl) rfl hb.1 hb.2 (fun i a b ha => by simp at ha) (fun v hv => by simp at hv) (fun v hv => by simp at hv)
theorem sm_plain (k h : Int) (t : ByteArray) : Sm (V.mk k h t [] [] []) := .mk k h t [] [] [] (by simp) (by simp) (fun v hv => by simp at hv) (fun v hv => by simp at hv)
theorem jn_null : JN .null := ⟨wf_plain 0 0 (by decide) (.inr rfl) ⟨by decide, .inl (by decide)⟩, sm_plain _ _ _, .null, by simp [J.v, V.j]⟩
theorem jn_int (n : Int) (hn : -9007199254740992 ≤ n ∧ n ≤ 9007199254740992) : JN (.int n) := by
  refine ⟨wf_plain 3 (2 * n) (by decide) (.inl rfl) (Fl.hb_two (by omega)), sm_plain _ _ _, .int n (by omega), ?_⟩
  have e1 : (2 * n).tmod 2 = 0 := Int.mul_tmod_right 2 n
  have e2 : (2 * n).tdiv 2 = n := Int.mul_tdiv_cancel_left n (by decide)
  simp [J.v, V.j, e1, e2]
theorem wf_list5 {l : List V} (h : ∀ v, v ∈ l → WF v) : WF (V.mk 5 0 ⟨#[]⟩ l [] []) :=
  .mk 5 0 ⟨#[]⟩ l [] [] (by decide) (.inr rfl) (.inr rfl) (.inl rfl) (.inr rfl) rfl (by decide) (.inl rfl) (fun i a b ha => by simp at ha) h (fun v hv => by simp at hv)
theorem jn_arr {l : List J} (h : ∀ j, j ∈ l → JN j) (hl : l.length ≤ 1000000) : JN (.arr l) := by
  refine ⟨?_, ?_, .arr l hl fun j hj => (h j hj).2.2.1, ?_⟩
  · rw [J.v]
    refine wf_list5 fun v hv => ?_
    rw [J.vs_map] at hv
    obtain ⟨j, hj, rfl⟩ := List.mem_map.1 hv
    exact (h j hj).1
  · rw [J.v]
    refine .mk _ _ _ _ _ _ (by rw [J.vs_map, List.length_map]; exact hl) (by simp) (fun v hv => ?_) (fun v hv => by simp at hv)
    rw [J.vs_map] at hv
    obtain ⟨j, hj, rfl⟩ := List.mem_map.1 hv
    exact (h j hj).2.1
  · have : V.js (J.vs l) = l := by
      rw [V.js_map, J.vs_map, List.map_map]
      exact (List.map_congr_left fun j hj => (h j hj).2.2.2).trans (List.map_id l)
    rw [J.v, V.j]
    simp [this]
theorem map_self {α : Type} {f : α → α} : ∀ {l : List α}, l.map f = l → ∀ a, a ∈ l → f a = a
  | b :: l, h, a, ha => by
    rw [List.map_cons, List.cons.injEq] at h
    rcases List.mem_cons.1 ha with rfl | ha
    · exact h.1
    · exact map_self h.2 a ha
theorem jn_arr_elim {l : List J} (h : JN (.arr l)) : ∀ j, j ∈ l → JN j := by
  obtain ⟨h1, h2, h3, h4⟩ := h
  have e : V.js (J.vs l) = l := by
    rw [J.v, V.j] at h4
    simpa using h4
  rw [V.js_map, J.vs_map, List.map_map] at e
  rw [J.v] at h1 h2
  intro j hj
  have hm : j.v ∈ J.vs l := by rw [J.vs_map]; exact List.mem_map.2 ⟨j, hj, rfl⟩
  refine ⟨?_, ?_, ?_, map_self e j hj⟩
  · obtain ⟨_, _, _, _, _, _, _, _, _, _, _, _, _, _, _, wl, _⟩ := h1
    exact wl _ hm
  · obtain ⟨_, _, _, _, _, _, _, _, el, _⟩ := h2
    exact el _ hm
  · obtain _ | _ | _ | _ | _ | ⟨_, _, e⟩ := h3
    exact e j hj
theorem jn_len {l : List J} (h : JN (.arr l)) : l.length ≤ 1000000 := by
  obtain _ | _ | _ | _ | _ | ⟨_, h, _⟩ := h.2.2.1
  exact h
theorem jn_getD {l : List J} (h : ∀ j, j ∈ l → JN j) (i : Nat) : JN (l.getD i .null) := by
  rw [List.getD_eq_getElem?_getD]
  cases hi : l[i]? with
  | none => exact jn_null
  | some j => exact h j (List.mem_of_getElem? hi)
end Go.Proofs.YtpamlgdcnmcedaaGreatDoor
