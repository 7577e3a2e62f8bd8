/- Plain: what is set at a path, and what stands at one. Maps keyed by strings: a look-up with its word, a store at any key, a range's step; what an object in memory is by its keys. maps.Copy into a new map. gojq.update: what its parts are told; updateObject. gojq.updateArrayIndex. gojq.updateArrayIndex: the walk. gojq.update: the paths. gojq.funcSetpath, gojq.funcGetpath. -/
import Derived.Test.YtpamlgdcnmcedaaGreatDoorI1
import Derived.Test.YtpamlgdcnmcedaaGreatDoorP2
import Derived.Test.YtpamlgdcnmcedaaGreatDoorN1
import Derived.Maps.RangeRun
import Derived.Maps.Range
import Derived.Test.YtpamlgdcnmcedaaGreatDoorGk
import Derived.Laws.CopyRow
import Derived.Deep.OwnRows
import Derived.Test.YtpamlgdcnmcedaaGreatDoorI2
set_option linter.unusedVariables false
set_option linter.unusedSimpArgs false
namespace Go.Proofs.YtpamlgdcnmcedaaGreatDoor
open Go Go.RowKit
theorem toList_inj {a b : ByteArray} (h : a.toList = b.toList) : a = b := by
  rw [ByteArray.toList_eq, ByteArray.toList_eq] at h
  rcases a with ⟨⟨a⟩⟩
  rcases b with ⟨⟨b⟩⟩
  simpa using h
theorem bl_total {a b : ByteArray} (h1 : ¬ a = b) (h2 : ¬ bl a b = true) : bl b a = true := by
  rcases textsC_cases a b with ⟨_, h⟩ | ⟨_, h⟩ | ⟨_, h⟩
  · rw [bl_lt, decide_eq_true_eq] at h2
    exact absurd h h2
  · exact absurd (toList_inj h) h1
  · rw [bl_lt, decide_eq_true_eq]
    exact h
theorem bl_ne {a b : ByteArray} (h : bl a b = true) : ¬ a = b := by
  rintro rfl
  rw [bl_irrefl] at h
  cases h
/-! ### A key into an object. -/
def insK : List ByteArray → ByteArray → List ByteArray
  | [], s => [s]
  | k :: ks, s => if s = k then k :: ks else if bl s k = true then s :: k :: ks else k :: insK ks s
def insV : List ByteArray → List J → ByteArray → J → List J
  | k :: ks, v :: vs, s, u => if s = k then u :: vs else if bl s k = true then u :: v :: vs else v :: insV ks vs s u
  | _, _, _, u => [u]
theorem ins_len : ∀ (ks : List ByteArray) (vs : List J) (s : ByteArray) (u : J), ks.length = vs.length → (insK ks s).length = (insV ks vs s u).length
  | [], [], s, u, _ => rfl
  | [], _ :: _, s, u, h => by simp at h
  | _ :: _, [], s, u, h => by simp at h
  | k :: ks, v :: vs, s, u, h => by
    have ih := ins_len ks vs s u (by simpa using h)
    rw [insK, insV]
    split
    · simpa using h
    · split
      · simpa using h
      · simpa using ih
theorem insK_le : ∀ (ks : List ByteArray) (s : ByteArray), (insK ks s).length ≤ ks.length + 1
  | [], s => by simp [insK]
  | k :: ks, s => by
    have ih := insK_le ks s
    rw [insK]
    split
    · simp
    · split
      · simp
      · simp; omega
theorem insK_mem : ∀ (ks : List ByteArray) (s t : ByteArray), t ∈ insK ks s ↔ t = s ∨ t ∈ ks
  | [], s, t => by simp [insK]
  | k :: ks, s, t => by
    have ih := insK_mem ks s t
    rw [insK]
    split
    · rename_i e
      subst e
      simp
    · split
      · simp
      · simp only [List.mem_cons, ih]
        constructor
        · rintro (h | h | h)
          · exact .inr (.inl h)
          · exact .inl h
          · exact .inr (.inr h)
        · rintro (h | h | h)
          · exact .inr (.inl h)
          · exact .inl h
          · exact .inr (.inr h)
theorem insV_mem : ∀ (ks : List ByteArray) (vs : List J) (s : ByteArray) (u j : J), j ∈ insV ks vs s u → j = u ∨ j ∈ vs
  | [], vs, s, u, j, h => by
    rw [insV] at h
    · exact .inl (by simpa using h)
    · intro _ _ _ _ h; cases h
  | k :: ks, [], s, u, j, h => by
    rw [insV] at h
    · exact .inl (by simpa using h)
    · intro _ _ _ _ _ h; cases h
  | k :: ks, v :: vs, s, u, j, h => by
    have ih := insV_mem ks vs s u j
    rw [insV] at h
    split at h
    · rcases List.mem_cons.1 h with h | h
      · exact .inl h
      · exact .inr (List.mem_cons_of_mem _ h)
    · split at h
      · rcases List.mem_cons.1 h with h | h
        · exact .inl h
        · exact .inr h
      · rcases List.mem_cons.1 h with h | h
        · exact .inr (by rw [h]; exact List.mem_cons_self)
        · rcases ih h with h | h
          · exact .inl h
          · exact .inr (List.mem_cons_of_mem _ h)
theorem sortedS_cons {k : ByteArray} {ks : List ByteArray} : sortedS (k :: ks) ↔ (∀ k', ks[0]? = some k' → bl k k' = true) ∧ sortedS ks := by
  constructor
  · intro h
    exact ⟨fun k' hk => h 0 k k' rfl (by simpa using hk), fun i a b ha hb => h (i + 1) a b (by simpa using ha) (by simpa using hb)⟩
  · rintro ⟨h1, h2⟩ i a b ha hb
    cases i with
    | zero =>
      simp at ha
      subst ha
      exact h1 b (by simpa using hb)
    | succ i => exact h2 i a b (by simpa using ha) (by simpa using hb)
theorem insK_sorted : ∀ (ks : List ByteArray) (s : ByteArray), sortedS ks → sortedS (insK ks s)
  | [], s, _ => fun i a b ha hb => by
    rw [insK] at hb
    have := (List.getElem?_eq_some_iff.1 hb).1
    simp at this
  | k :: ks, s, h => by
    obtain ⟨h1, h2⟩ := sortedS_cons.1 h
    have ih := insK_sorted ks s h2
    rw [insK]
    split
    · exact h
    · rename_i hne
      split
      · rename_i hlt
        exact sortedS_cons.2 ⟨fun k' hk => by simp at hk; rw [← hk]; exact hlt, h⟩
      · rename_i hnl
        refine sortedS_cons.2 ⟨fun k' hk => ?_, ih⟩
        have hm : k' ∈ insK ks s := List.mem_of_getElem? hk
        rcases (insK_mem ks s k').1 hm with rfl | hm
        · exact bl_total hne hnl
        · obtain ⟨i, hi⟩ := List.getElem?_of_mem hm
          have := sortedS_lt h 0 k rfl i k' (by simpa [Nat.add_comm] using hi)
          exact this
theorem look_ins : ∀ (ks : List ByteArray) (vs : List J) (s t : ByteArray) (u : J), ks.length = vs.length → lookO (insK ks s) (insV ks vs s u) t = if t = s then some u else lookO ks vs t
  | [], [], s, t, u, _ => by simp [insK, insV, lookO]
  | [], _ :: _, s, t, u, h => by simp at h
  | _ :: _, [], s, t, u, h => by simp at h
  | k :: ks, v :: vs, s, t, u, h => by
    have ih := look_ins ks vs s t u (by simpa using h)
    rw [insK, insV]
    by_cases e : s = k
    · subst e
      rw [if_pos rfl, if_pos rfl, lookO, lookO]
      by_cases e2 : t = s
      · rw [if_pos e2, if_pos e2]
      · rw [if_neg e2, if_neg e2, if_neg e2]
    · rw [if_neg e, if_neg e]
      by_cases e2 : bl s k = true
      · rw [if_pos e2, if_pos e2, lookO]
      · rw [if_neg e2, if_neg e2, lookO, lookO, ih]
        by_cases e3 : t = k
        · subst e3
          rw [if_pos rfl, if_neg (fun h => e h.symm), if_pos rfl]
        · rw [if_neg e3, if_neg e3]
/-! ### An element into an array. -/
def setL (l : List J) (i : Nat) (u : J) : List J := (l ++ List.replicate (i + 1 - l.length) J.null).set i u
theorem setL_len (l : List J) (i : Nat) (u : J) : (setL l i u).length = max l.length (i + 1) := by
  simp [setL]
  omega
theorem setL_get (l : List J) (i : Nat) (u : J) : (setL l i u).getD i J.null = u := by
  have h : i < (l ++ List.replicate (i + 1 - l.length) J.null).length := by simp; omega
  unfold setL
  rw [List.getD_eq_getElem?_getD, List.getElem?_set_self h]
  rfl
theorem setL_mem (l : List J) (i : Nat) (u j : J) (h : j ∈ setL l i u) : j = u ∨ j ∈ l ∨ j = .null := by
  rcases List.mem_or_eq_of_mem_set h with h | h
  · rcases List.mem_append.1 h with h | h
    · exact .inr (.inl h)
    · exact .inr (.inr (List.eq_of_mem_replicate h))
  · exact .inl h
theorem idxJ_natU (l : List J) (n : Nat) : idxJ l n = l.getD n .null := by
  have e : fromEnd (n : Int) l.length = n := if_neg (by omega)
  unfold idxJ
  rw [e]
  by_cases h : n < l.length
  · rw [if_pos (by omega)]; simp
  · rw [if_neg (by omega), List.getD_eq_getElem?_getD, List.getElem?_eq_none (by omega)]; rfl
/-! ### Paths. -/
def atK (v : J) : J → Option J
  | .str s => atS v s
  | .int n => atI v n
  | _ => none
def getJ : List J → J → Option J
  | [], v => some v
  | k :: p, v => (atK v k).bind (getJ p)
def setJ : List J → J → J → Option J
  | [], _, n => some n
  | .str s :: p, .null, n => (setJ p .null n).map fun u => .obj [s] [u]
  | .str s :: p, .obj ks vs, n => (setJ p ((lookO ks vs s).getD .null) n).map fun u => .obj (insK ks s) (insV ks vs s u)
  | .int i :: p, .null, n => (setJ p .null n).map fun u => .arr (setL [] i.toNat u)
  | .int i :: p, .arr l, n => (setJ p (l.getD i.toNat .null) n).map fun u => .arr (setL l i.toNat u)
  | _ :: _, _, _ => none
/-- Keys, and indices from 0 to 1000. -/
def StepOK (k : J) : Prop := (∃ s, k = .str s ∧ s.size ≤ 140737488351232) ∨ ∃ i : Nat, k = .int i ∧ i ≤ 1000
inductive Ln (b : Nat) : J → Prop
  | null : Ln b .null
  | bool (c : Bool) : Ln b (.bool c)
  | int (n : Int) : Ln b (.int n)
  | hf (h : Int) : Ln b (.hf h)
  | str (s : ByteArray) : Ln b (.str s)
  | arr (l : List J) (h : l.length ≤ b) (e : ∀ j, j ∈ l → Ln b j) : Ln b (.arr l)
  | obj (ks : List ByteArray) (vs : List J) (h : ks.length ≤ b) (hv : ks.length = vs.length) (e : ∀ j, j ∈ vs → Ln b j) : Ln b (.obj ks vs)
theorem Ln.mono {b c : Nat} (hbc : b ≤ c) {j : J} (h : Ln b j) : Ln c j := by
  induction h with
  | null => exact .null
  | bool b => exact .bool b
  | int n => exact .int n
  | hf h => exact .hf h
  | str s => exact .str s
  | arr l h e ih => exact .arr l (by omega) ih
  | obj ks vs h hv e ih => exact .obj ks vs (by omega) hv ih
theorem ln_getD {b : Nat} {l : List J} (h : ∀ j, j ∈ l → Ln b j) (i : Nat) : Ln b (l.getD i .null) := by
  rw [List.getD_eq_getElem?_getD]
  cases hi : l[i]? with
  | none => exact .null
  | some j => exact h j (List.mem_of_getElem? hi)
theorem ln_look {b : Nat} {ks : List ByteArray} {vs : List J} (h : ∀ j, j ∈ vs → Ln b j) (s : ByteArray) : Ln b ((lookO ks vs s).getD .null) := by
  cases hl : lookO ks vs s with
  | none => exact .null
  | some j =>
    obtain ⟨i, _, h2⟩ := lookO_some ks vs s j hl
    exact h j (List.mem_of_getElem? h2)
theorem jn_obj {ks : List ByteArray} {vs : List J} (hk : ks.length ≤ 1000000) (hl : ks.length = vs.length) (hs : sortedS ks) (hz : ∀ s, s ∈ ks → s.size ≤ 140737488351232) (h : ∀ j, j ∈ vs → JN j) : JN (.obj ks vs) := by
  have hlen : (J.vs vs).length = vs.length := by rw [J.vs_map, List.length_map]
  have hmem : ∀ v, v ∈ J.vs vs → ∃ j, j ∈ vs ∧ j.v = v := fun v hv => by
    rw [J.vs_map] at hv
    exact List.mem_map.1 hv
  refine ⟨?_, ?_, .obj ks vs hk hl hs (fun i s hi => hz s (List.mem_of_getElem? hi)) fun j hj => (h j hj).2.2.1, ?_⟩
  · rw [J.v]
    refine .mk 6 0 ⟨#[]⟩ [] ks _ (by decide) (.inr rfl) (.inr rfl) (.inr rfl) (.inl rfl) (by rw [hlen]; exact hl) (by decide) (.inl rfl) hs (fun v hv => by simp at hv) fun v hv => ?_
    obtain ⟨j, hj, rfl⟩ := hmem v hv
    exact (h j hj).1
  · rw [J.v]
    refine .mk _ _ _ _ _ _ (by simp) (by rw [hlen]; omega) (fun v hv => by simp at hv) fun v hv => ?_
    obtain ⟨j, hj, rfl⟩ := hmem v hv
    exact (h j hj).2.1
  · have : V.js (J.vs vs) = vs := by
      rw [V.js_map, J.vs_map, List.map_map]
      exact (List.map_congr_left fun j hj => (h j hj).2.2.2).trans (List.map_id vs)
    rw [J.v, V.j]
    simp [this]
theorem jn_obj_elim {ks : List ByteArray} {vs : List J} (h : JN (.obj ks vs)) : ks.length ≤ 1000000 ∧ ks.length = vs.length ∧ sortedS ks ∧ (∀ s, s ∈ ks → s.size ≤ 140737488351232) ∧ ∀ j, j ∈ vs → JN j := by
  obtain ⟨h1, h2, h3, h4⟩ := h
  have e : V.js (J.vs vs) = vs := by
    rw [J.v, V.j] at h4
    simpa using h4
  rw [V.js_map, J.vs_map, List.map_map] at e
  rw [J.v] at h1 h2
  obtain _ | _ | _ | _ | _ | _ | ⟨_, _, g1, g2, g3, g4, g5⟩ := h3
  refine ⟨g1, g2, g3, fun s hs => ?_, fun j hj => ?_⟩
  · obtain ⟨i, hi⟩ := List.getElem?_of_mem hs
    exact g4 i s hi
  · have hm : j.v ∈ J.vs vs := by rw [J.vs_map]; exact List.mem_map.2 ⟨j, hj, rfl⟩
    refine ⟨?_, ?_, g5 j hj, map_self e j hj⟩
    · obtain ⟨_, _, _, _, _, _, _, _, _, _, _, _, _, _, _, _, wv⟩ := h1
      exact wv _ hm
    · obtain ⟨_, _, _, _, _, _, _, _, _, ev⟩ := h2
      exact ev _ hm
theorem jn_look {ks : List ByteArray} {vs : List J} (h : ∀ j, j ∈ vs → JN j) (s : ByteArray) : JN ((lookO ks vs s).getD .null) := by
  cases hl : lookO ks vs s with
  | none => exact jn_null
  | some j =>
    obtain ⟨i, _, h2⟩ := lookO_some ks vs s j hl
    exact h j (List.mem_of_getElem? h2)
theorem set_ok (b : Nat) (hb : 1001 ≤ b ∧ b < 1000000) : ∀ (p : List J) (v n r : J), (∀ k, k ∈ p → StepOK k) → JN v → Ln b v → JN n → Ln b n → setJ p v n = some r → JN r ∧ Ln (b + 1) r
  | [], v, n, r, _, _, _, hn, ln, h => by
    rw [setJ] at h
    cases h
    exact ⟨hn, ln.mono (by omega)⟩
  | k :: p, v, n, r, hp, hv, lv, hn, ln, h => by
    have hp' : ∀ k, k ∈ p → StepOK k := fun k hk => hp k (List.mem_cons_of_mem _ hk)
    rcases hp k List.mem_cons_self with ⟨s, rfl, hs⟩ | ⟨i, rfl, hi⟩
    · cases v with
      | null =>
        rw [setJ] at h
        obtain ⟨u, hu, rfl⟩ := Option.map_eq_some_iff.1 h
        obtain ⟨u1, u2⟩ := set_ok b hb p .null n u hp' jn_null .null hn ln hu
        exact ⟨jn_obj (by simp) rfl (fun i a b ha hb => by have := (List.getElem?_eq_some_iff.1 hb).1; simp at this) (fun t ht => by simp at ht; rw [ht]; exact hs) (fun j hj => by simp at hj; rw [hj]; exact u1),
          .obj _ _ (by simp) rfl fun j hj => by simp at hj; rw [hj]; exact u2⟩
      | obj ks vs =>
        obtain ⟨g1, g2, g3, g4, g5⟩ := jn_obj_elim hv
        obtain _ | _ | _ | _ | _ | _ | ⟨_, _, l1, l2, l3⟩ := lv
        rw [setJ] at h
        obtain ⟨u, hu, rfl⟩ := Option.map_eq_some_iff.1 h
        obtain ⟨u1, u2⟩ := set_ok b hb p _ n u hp' (jn_look g5 s) (ln_look l3 s) hn ln hu
        have e1 := insK_le ks s
        have e2 := ins_len ks vs s u g2
        refine ⟨jn_obj (by omega) e2 (insK_sorted ks s g3) (fun t ht => ?_) (fun j hj => ?_), .obj _ _ (by omega) e2 fun j hj => ?_⟩
        · rcases (insK_mem ks s t).1 ht with rfl | ht
          · exact hs
          · exact g4 t ht
        · rcases insV_mem ks vs s u j hj with rfl | hj
          · exact u1
          · exact g5 j hj
        · rcases insV_mem ks vs s u j hj with rfl | hj
          · exact u2
          · exact (l3 j hj).mono (by omega)
      | _ => simp [setJ] at h
    · cases v with
      | null =>
        rw [setJ] at h
        obtain ⟨u, hu, rfl⟩ := Option.map_eq_some_iff.1 h
        obtain ⟨u1, u2⟩ := set_ok b hb p .null n u hp' jn_null .null hn ln hu
        have hl := setL_len [] (i : Int).toNat u
        refine ⟨jn_arr (fun j hj => ?_) (by rw [hl]; simp; omega), .arr _ (by rw [hl]; simp; omega) fun j hj => ?_⟩
        · rcases setL_mem _ _ _ _ hj with rfl | hj | rfl
          · exact u1
          · simp at hj
          · exact jn_null
        · rcases setL_mem _ _ _ _ hj with rfl | hj | rfl
          · exact u2
          · simp at hj
          · exact .null
      | arr l =>
        have g5 := jn_arr_elim hv
        obtain _ | _ | _ | _ | _ | ⟨_, l1, l3⟩ := lv
        rw [setJ] at h
        obtain ⟨u, hu, rfl⟩ := Option.map_eq_some_iff.1 h
        obtain ⟨u1, u2⟩ := set_ok b hb p _ n u hp' (jn_getD g5 _) (ln_getD l3 _) hn ln hu
        have hl := setL_len l (i : Int).toNat u
        refine ⟨jn_arr (fun j hj => ?_) (by rw [hl]; omega), .arr _ (by rw [hl]; omega) fun j hj => ?_⟩
        · rcases setL_mem _ _ _ _ hj with rfl | hj | rfl
          · exact u1
          · exact g5 j hj
          · exact jn_null
        · rcases setL_mem _ _ _ _ hj with rfl | hj | rfl
          · exact u2
          · exact (l3 j hj).mono (by omega)
          · exact .null
      | _ => simp [setJ] at h
/-- What is set stands there. -/
theorem get_set : ∀ (p : List J) (v n r : J), (∀ k, k ∈ p → StepOK k) → JN v → setJ p v n = some r → getJ p r = some n
  | [], v, n, r, _, _, h => by
    rw [setJ] at h
    cases h
    rfl
  | k :: p, v, n, r, hp, hv, h => by
    have hp' : ∀ k, k ∈ p → StepOK k := fun k hk => hp k (List.mem_cons_of_mem _ hk)
    rcases hp k List.mem_cons_self with ⟨s, rfl, hs⟩ | ⟨i, rfl, hi⟩
    · cases v with
      | null =>
        rw [setJ] at h
        obtain ⟨u, hu, rfl⟩ := Option.map_eq_some_iff.1 h
        have ih := get_set p .null n u hp' jn_null hu
        rw [getJ]
        simp [atK, atS, lookO, ih]
      | obj ks vs =>
        obtain ⟨g1, g2, g3, g4, g5⟩ := jn_obj_elim hv
        rw [setJ] at h
        obtain ⟨u, hu, rfl⟩ := Option.map_eq_some_iff.1 h
        have ih := get_set p _ n u hp' (jn_look g5 s) hu
        rw [getJ]
        simp [atK, atS, look_ins ks vs s s u g2, ih]
      | _ => simp [setJ] at h
    · cases v with
      | null =>
        rw [setJ] at h
        obtain ⟨u, hu, rfl⟩ := Option.map_eq_some_iff.1 h
        have ih := get_set p .null n u hp' jn_null hu
        rw [getJ]
        simp only [atK, atI, Option.bind_some, idxJ_natU, Int.toNat_natCast, setL_get]
        exact ih
      | arr l =>
        have g5 := jn_arr_elim hv
        rw [setJ] at h
        obtain ⟨u, hu, rfl⟩ := Option.map_eq_some_iff.1 h
        have ih := get_set p _ n u hp' (jn_getD g5 _) hu
        rw [getJ]
        simp only [atK, atI, Option.bind_some, idxJ_natU, Int.toNat_natCast, setL_get]
        exact ih
      | _ => simp [setJ] at h
theorem ln_v : ∀ (n b : Nat) (v : V), SizeOf.sizeOf v < n → WF v → v.parts ≤ b → Ln b v.j
  | 0, b, v, hn, _, _ => absurd hn (Nat.not_lt_zero _)
  | n + 1, b, .mk k h t l ks vs, hn, hw, hp => by
    obtain ⟨_, _, _, _, _, _, hk', hh', ht', hl', hks', hlen, _, _, _, wl, wv⟩ := hw
    rw [V.parts] at hp
    have p1 := V.partsL_len l
    have p2 := V.partsL_len vs
    rw [V.j]
    split
    · exact .null
    split
    · exact .bool _
    split
    · exact .bool _
    split
    · split
      · exact .int _
      · exact .hf _
    split
    · exact .str _
    split
    · refine .arr _ (by rw [js_len]; omega) fun j hj => ?_
      rw [V.js_map] at hj
      obtain ⟨v, hv, rfl⟩ := List.mem_map.1 hj
      have := sizeOf_lt_list (k := k) (h := h) (t := t) (ks := ks) (vs := vs) hv
      have := V.parts_mem l v hv
      exact ln_v n b v (by omega) (wl v hv) (by omega)
    · refine .obj _ _ (by omega) (by rw [js_len]; exact hlen) fun j hj => ?_
      rw [V.js_map] at hj
      obtain ⟨v, hv, rfl⟩ := List.mem_map.1 hj
      have := sizeOf_lt_vals (k := k) (h := h) (t := t) (ks := ks) (l := l) hv
      have := V.parts_mem vs v hv
      exact ln_v n b v (by omega) (wv v hv) (by omega)
end Go.Proofs.YtpamlgdcnmcedaaGreatDoor

set_option linter.unusedVariables false
set_option linter.unusedSimpArgs false
set_option maxRecDepth 100000
namespace Go.Proofs.YtpamlgdcnmcedaaGreatDoor
open Go Go.RowKit
open Go.ChangeMaps (setBlock)
theorem run_lookup_ok {w : World} {b : Nat} {es : Array MapEntry} {clock : Nat} (hb : w.heap[b]? = some (.map es clock)) (hall : AllS es.toList) (s : ByteArray) :
    (Instr.lookup 85 (.map (some b)) (.string s) true).run Tryz.prog w = .ok (.tuple #[(getS es.toList s).getD .nilIface, .bool (getS es.toList s).isSome]) w := by
  have hl := lookS_snd s es.toList 0 hall
  unfold Instr.lookup
  simp [run_underlying Tryz.underlying85, getObj, Sem.run, hb, run_checkKey, run_findKey s _ hall]
  rw [← hl]
  cases lookS es.toList s 0 with
  | none => simp [zero20]
  | some p => obtain ⟨i, v⟩ := p; simp
theorem run_lookup_nil (s : ByteArray) (w : World) : (Instr.lookup 85 (.map none) (.string s) true).run Tryz.prog w = .ok (.tuple #[.nilIface, .bool false]) w := by
  unfold Instr.lookup
  simp [run_underlying Tryz.underlying85, Sem.run, run_checkKey, Instr.findKey, run_underlying Tryz.underlying9, Instr.findNow, zero20]
theorem getS_mem : ∀ {es : List MapEntry} {t : ByteArray}, AllS es → ((∃ x, getS es t = some x) ↔ ∃ e, e ∈ es ∧ e.key = .string t)
  | [], t, _ => by simp [getS]
  | e :: es, t, h => by
    obtain ⟨s', hs⟩ := h e List.mem_cons_self
    have ih := getS_mem (es := es) (t := t) fun e' h' => h e' (List.mem_cons_of_mem _ h')
    simp only [getS, hs]
    by_cases he : t = s'
    · subst he
      simp only [if_true]
      exact ⟨fun _ => ⟨e, List.mem_cons_self, hs⟩, fun _ => ⟨_, rfl⟩⟩
    · rw [if_neg he, ih]
      constructor
      · rintro ⟨e', h1, h2⟩
        exact ⟨e', List.mem_cons_of_mem _ h1, h2⟩
      · rintro ⟨e', h1, h2⟩
        rcases List.mem_cons.1 h1 with rfl | h1
        · rw [hs] at h2
          injection h2 with h2
          exact absurd h2.symm he
        · exact ⟨e', h1, h2⟩
theorem getS_push (es : List MapEntry) (e : MapEntry) (t : ByteArray) (hall : AllS es) : getS (es ++ [e]) t = (getS es t).or (getS [e] t) := by
  induction es with
  | nil => rfl
  | cons a es ih =>
    obtain ⟨s', hs⟩ := hall a List.mem_cons_self
    rw [List.cons_append]
    simp only [getS, hs]
    by_cases he : t = s'
    · simp [he]
    · simp only [if_neg he]
      exact ih fun e' h' => hall e' (List.mem_cons_of_mem _ h')
theorem keys_nodup {es : List MapEntry} (hn : (es.map (·.key)).Nodup) {e e' : MapEntry} (h : e ∈ es) (h' : e' ∈ es) (hk : e.key = e'.key) : e = e' := by
  induction es with
  | nil => simp at h
  | cons a es ih =>
    rw [List.map_cons, List.nodup_cons] at hn
    rcases List.mem_cons.1 h with h1 | h1
    · rcases List.mem_cons.1 h' with h2 | h2
      · rw [h1, h2]
      · exact absurd (List.mem_map.2 ⟨e', h2, by rw [← hk, h1]⟩) hn.1
    · rcases List.mem_cons.1 h' with h2 | h2
      · exact absurd (List.mem_map.2 ⟨e, h1, by rw [hk, h2]⟩) hn.1
      · exact ih hn.2 h1 h2
theorem getS_of {es : List MapEntry} (hall : AllS es) (hn : (es.map (·.key)).Nodup) {e : MapEntry} {t : ByteArray} (h : e ∈ es) (hk : e.key = .string t) : getS es t = some e.val := by
  induction es with
  | nil => simp at h
  | cons a es ih =>
    obtain ⟨s', hs⟩ := hall a List.mem_cons_self
    have hn' := hn
    rw [List.map_cons, List.nodup_cons] at hn
    simp only [getS, hs]
    rcases List.mem_cons.1 h with rfl | h
    · rw [hs] at hk
      injection hk with hk
      rw [if_pos hk.symm]
    · have hne : ¬ t = s' := fun he => hn.1 (List.mem_map.2 ⟨e, h, by rw [hk, hs, he]⟩)
      rw [if_neg hne]
      exact ih (fun e' h' => hall e' (List.mem_cons_of_mem _ h')) hn.2 h
theorem getS_no {es : List MapEntry} (hall : AllS es) {t : ByteArray} (h : ∀ e, e ∈ es → e.key ≠ .string t) : getS es t = none := getS_none h
/-- An object in memory, by its keys. -/
theorem jr_obj_mk {w : World} {ok : Nat → Prop} {ks : List ByteArray} {vs : List J} {d : Nat} {es : Array MapEntry} {clock : Nat} (ho : ok d) (hb : w.heap[d]? = some (.map es clock)) (hst : MapKept.Stamped es clock) (hall : AllS es.toList) (hnd : ks.Nodup) (hlen : vs.length = ks.length)
    (hsome : ∀ t j, lookO ks vs t = some j → ∃ x, getS es.toList t = some x ∧ Jr w ok j x) (hnone : ∀ t, lookO ks vs t = none → getS es.toList t = none) : Jr w ok (.obj ks vs) (.iface 85 (.map (some d))) := by
  have look_mem : ∀ (ks : List ByteArray) (vs : List J) (t : ByteArray), vs.length = ks.length → t ∈ ks → ∃ j, lookO ks vs t = some j := fun ks => by
    induction ks with
    | nil => intro vs t _ h; simp at h
    | cons k ks ih =>
      intro vs t hl h
      cases vs with
      | nil => simp at hl
      | cons v vs =>
        rw [lookO]
        by_cases e : t = k
        · exact ⟨v, by rw [if_pos e]⟩
        · rw [if_neg e]
          exact ih vs t (by simpa using hl) ((List.mem_cons.1 h).resolve_left e)
  have look_at : ∀ (ks : List ByteArray) (vs : List J) (i : Nat) (t : ByteArray) (j : J), ks.Nodup → ks[i]? = some t → vs[i]? = some j → lookO ks vs t = some j := fun ks => by
    induction ks with
    | nil => intro vs i t j _ h; simp at h
    | cons k ks ih =>
      intro vs i t j hn h hv
      rw [List.nodup_cons] at hn
      cases vs with
      | nil => simp at hv
      | cons v vs =>
        rw [lookO]
        cases i with
        | zero =>
          simp at h hv
          rw [if_pos h.symm, hv]
        | succ i =>
          have h' : ks[i]? = some t := by simpa using h
          have hv' : vs[i]? = some j := by simpa using hv
          rw [if_neg (fun e => hn.1 (by rw [← e]; exact List.mem_of_getElem? h'))]
          exact ih vs i t j hn.2 h' hv'
  have hks : (es.toList.map (·.key)).Nodup := hst.2.2
  have hmem : ∀ e, e ∈ es.toList → ∃ s, e.key = .string s ∧ s ∈ ks := fun e he => by
    obtain ⟨s, hs⟩ := hall e he
    refine ⟨s, hs, ?_⟩
    obtain ⟨x, hx⟩ := (getS_mem hall).2 ⟨e, he, hs⟩
    cases hl : lookO ks vs s with
    | none => rw [hnone s hl] at hx; cases hx
    | some j =>
      obtain ⟨i, h1, _⟩ := lookO_some ks vs s j hl
      exact List.mem_of_getElem? h1
  have hperm : (es.toList.map (fun e => match e.key with | .string s => s | _ => ⟨#[]⟩)).Perm ks := by
    refine (List.perm_ext_iff_of_nodup ?_ hnd).2 fun t => ⟨fun ht => ?_, fun ht => ?_⟩
    · rw [List.Nodup, List.pairwise_map] at hks ⊢
      refine hks.imp_of_mem fun {x y} hx hy hne e => hne ?_
      obtain ⟨s, h1⟩ := hall x hx
      obtain ⟨s', h2⟩ := hall y hy
      simp only [h1, h2] at e ⊢
      rw [e]
    · obtain ⟨e, he, rfl⟩ := List.mem_map.1 ht
      obtain ⟨s, h1, h2⟩ := hmem e he
      simp only [h1]
      exact h2
    · obtain ⟨j, hj⟩ := look_mem ks vs t hlen ht
      obtain ⟨x, hx, _⟩ := hsome t j hj
      obtain ⟨e, he, hk⟩ := (getS_mem hall).1 ⟨x, hx⟩
      exact List.mem_map.2 ⟨e, he, by simp only [hk]⟩
  have hsz : es.size = ks.length := by rw [← hperm.length_eq]; simp
  refine .obj ks vs d es clock (fun i => (getS es.toList (ks.getD i ⟨#[]⟩)).getD .nilIface) ho hb hsz hlen hnd hmem (fun i s hs => ?_) hst (fun i j hj => ?_)
  · obtain ⟨j, hj⟩ := look_mem ks vs s hlen (List.mem_of_getElem? hs)
    obtain ⟨x, hx, _⟩ := hsome s j hj
    have e : ks.getD i ⟨#[]⟩ = s := by simp [List.getD_eq_getElem?_getD, hs]
    simp only [e, hx, Option.getD_some]
  · have hi : i < ks.length := by rw [← hlen]; exact (List.getElem?_eq_some_iff.1 hj).1
    have hs : ks[i]? = some ks[i] := List.getElem?_eq_getElem hi
    obtain ⟨x, hx, hJ⟩ := hsome ks[i] j (look_at ks vs i _ j hnd hs hj)
    have e : ks.getD i ⟨#[]⟩ = ks[i] := by simp [List.getD_eq_getElem?_getD, hs]
    simp only [e, hx, Option.getD_some]
    exact hJ
/-! ### A store. -/
theorem run_mapUpdate_any {w : World} {b : Nat} {es : Array MapEntry} {clock : Nat} (hb : w.heap[b]? = some (.map es clock)) (hall : AllS es.toList) (hst : MapKept.Stamped es clock) (s : ByteArray) (x : Value) :
    ∃ es' clock', (Instr.mapUpdate 85 (.map (some b)) (.string s) x).run Tryz.prog w = .ok () (World.put w b (.map es' clock')) ∧ AllS es'.toList ∧ MapKept.Stamped es' clock' ∧ ∀ t, getS es'.toList t = if t = s then some x else getS es.toList t := by
  by_cases hn : ∀ e, e ∈ es.toList → e.key ≠ .string s
  · refine ⟨_, _, run_mapUpdate_new hb hall hn x, fun e he => ?_, MapKept.stamped_push hst hn, fun t => ?_⟩
    · simp only [Array.toList_push, List.mem_append, List.mem_singleton] at he
      rcases he with he | rfl
      · exact hall e he
      · exact ⟨s, rfl⟩
    · rw [Array.toList_push, getS_push _ _ _ hall]
      by_cases e : t = s
      · subst e
        rw [getS_none hn, if_pos rfl]
        simp [getS]
      · rw [if_neg e]
        simp [getS, e]
  · have hex : ∃ e, e ∈ es.toList ∧ e.key = .string s := by
      rcases Classical.em (∃ e, e ∈ es.toList ∧ e.key = .string s) with h | h
      · exact h
      · exact absurd (fun e he hk => h ⟨e, he, hk⟩) hn
    obtain ⟨e0, he0, hk0⟩ := hex
    obtain ⟨i, hi⟩ := List.getElem?_of_mem he0
    have hfind : ∀ (l : List MapEntry) (n i : Nat), AllS l → (l.map (·.key)).Nodup → l[i]? = some e0 → lookS l s n = some (n + i, e0.val) := fun l => by
      induction l with
      | nil => intro n i _ _ h; simp at h
      | cons a l ih =>
        intro n i ha hnd h
        obtain ⟨s', hs⟩ := ha a List.mem_cons_self
        rw [List.map_cons, List.nodup_cons] at hnd
        simp only [lookS, hs]
        cases i with
        | zero =>
          simp at h
          subst h
          rw [hs] at hk0
          injection hk0 with hk0
          rw [if_pos hk0.symm]
          rfl
        | succ i =>
          have h' : l[i]? = some e0 := by simpa using h
          rw [if_neg (fun e => hnd.1 (List.mem_map.2 ⟨e0, List.mem_of_getElem? h', by rw [hk0, hs, e]⟩)), ih (n + 1) i (fun e' h' => ha e' (List.mem_cons_of_mem _ h')) hnd.2 h']
          rw [show n + 1 + i = n + (i + 1) from by omega]
    have hl := hfind es.toList 0 i hall hst.2.2 hi
    rw [Nat.zero_add] at hl
    have hia : es[i]? = some e0 := by simpa using hi
    have hrun : (Instr.mapUpdate 85 (.map (some b)) (.string s) x).run Tryz.prog w = .ok () (World.put w b (.map (es.modify i fun e => { e with key := .string s, val := x }) clock)) := by
      unfold Instr.mapUpdate
      have hks := MapKept.run_keyThatStays (P := Tryz.prog) (d := .string) (w := w) (k := .string s) trivial
      simp [run_underlying Tryz.underlying85, getObj, setObj, Sem.run, hb, run_checkKey, run_findKey s _ hall, hl, hia, hk0, World.put, hks]
    have hmm : ∀ e, e ∈ (es.modify i fun e => { e with key := .string s, val := x }).toList → e ∈ es.toList ∧ e.key ≠ .string s ∨ e = { e0 with key := .string s, val := x } := fun e he => by
      obtain ⟨j, hj⟩ := List.getElem?_of_mem he
      have hj' : (es.modify i fun e => { e with key := .string s, val := x })[j]? = some e := by rw [← Array.getElem?_toList]; exact hj
      rw [Array.getElem?_modify] at hj'
      by_cases hij : i = j
      · subst hij
        rw [if_pos rfl, hia] at hj'
        exact .inr (by simpa using hj'.symm)
      · rw [if_neg hij] at hj'
        have hm : e ∈ es.toList := List.mem_of_getElem? (by simpa using hj')
        refine .inl ⟨hm, fun hk => hij ?_⟩
        have := keys_nodup hst.2.2 hm he0 (by rw [hk, hk0])
        subst this
        have hd : es.toList.Nodup := by
          have h0 := hst.2.2
          rw [List.Nodup, List.pairwise_map] at h0
          exact h0.imp fun h e => h (by rw [e])
        exact (List.getElem?_inj (List.getElem?_eq_some_iff.1 hi).1 hd).1 (hi.trans (show some e = es.toList[j]? from by rw [← hj']; simp))
    have hst' : MapKept.Stamped (es.modify i fun e => { e with key := .string s, val := x }) clock := MapKept.stamped_modify hst i _ (fun e _ => rfl) (fun e _ he => by
      rw [hia] at he
      cases he
      exact hk0.symm)
    have hall' : AllS (es.modify i fun e => { e with key := .string s, val := x }).toList := fun e he => by
      rcases hmm e he with h | rfl
      · exact hall e h.1
      · exact ⟨s, rfl⟩
    refine ⟨_, _, hrun, hall', hst', fun t => ?_⟩
    by_cases e : t = s
    · subst e
      rw [if_pos rfl]
      refine getS_of hall' hst'.2.2 (e := { e0 with key := .string t, val := x }) (List.mem_of_getElem? (i := i) ?_) rfl
      have : (es.modify i fun e => { e with key := .string t, val := x })[i]? = some { e0 with key := .string t, val := x } := by
        rw [Array.getElem?_modify, if_pos rfl, hia]; rfl
      rw [Array.getElem?_toList]; exact this
    · rw [if_neg e]
      rcases Classical.em (∃ e1, e1 ∈ es.toList ∧ e1.key = .string t) with ⟨e1, h1, h2⟩ | hno
      · rw [getS_of hall hst.2.2 h1 h2]
        obtain ⟨j, hj⟩ := List.getElem?_of_mem h1
        have hij : ¬ i = j := fun hij => by
          subst hij
          rw [hi] at hj
          cases hj
          rw [hk0] at h2
          injection h2 with h2
          exact e h2.symm
        refine getS_of hall' hst'.2.2 (List.mem_of_getElem? (i := j) ?_) h2
        have : (es.modify i fun e => { e with key := .string s, val := x })[j]? = some e1 := by
          rw [Array.getElem?_modify, if_neg hij]
          rw [← Array.getElem?_toList]; exact hj
        rw [Array.getElem?_toList]; exact this
      · rw [getS_none fun e1 h1 h2 => hno ⟨e1, h1, h2⟩]
        refine getS_none fun e1 h1 h2 => ?_
        rcases hmm e1 h1 with h | rfl
        · exact hno ⟨e1, h.1, h2⟩
        · injection h2 with h2
          exact e h2.symm
/-! ### A range's step. -/
structure Rng (b r : Nat) (es : Array MapEntry) (clock : Nat) (seen : Array Nat) (w : World) : Prop where
  hb : w.heap[b]? = some (.map es clock)
  hr : ∃ c0, w.heap[r]? = some (.mapIter (some b) clock seen c0) ∧ clock ≤ c0
  ne : r ≠ b
theorem Rng.start {w : World} {b : Nat} {es : Array MapEntry} {clock : Nat} (hb : w.heap[b]? = some (.map es clock)) :
    (Instr.range 85 (.map (some b))).run Tryz.prog w = .ok (.pointer (some ⟨w.heap.size, 0, none⟩)) (w.alloc (.mapIter (some b) clock #[] clock)) ∧ Rng b w.heap.size es clock #[] (w.alloc (.mapIter (some b) clock #[] clock)) :=
  ⟨run_range_map w 85 9 20 b es clock Tryz.underlying85 hb, (Below.heap_alloc _ _ _ (heap_lt hb)).trans hb, ⟨clock, heap_alloc_new w _, Nat.le_refl _⟩, by have := heap_lt hb; omega⟩
theorem Rng.next {w : World} {b r : Nat} {es : Array MapEntry} {clock : Nat} {seen : Array Nat} (h : Rng b r es clock seen w) (hst : MapKept.Stamped es clock) (ty : TypeId) :
    ((∀ e, e ∈ es.toList → seen.contains e.born = true) ∧ (Instr.next (.pointer (some ⟨r, 0, none⟩)) false ty).run Tryz.prog w = .ok (.tuple #[.bool false]) w) ∨
    ∃ e w2, e ∈ es.toList ∧ seen.contains e.born = false ∧ (leftOf es (seen.push e.born)).size < (leftOf es seen).size ∧ (Instr.next (.pointer (some ⟨r, 0, none⟩)) false ty).run Tryz.prog w = .ok (.tuple #[.bool true, e.key, e.val]) w2 ∧
      (Instr.entry (.pointer (some ⟨r, 0, none⟩))).run Tryz.prog w2 = .ok (.tuple #[e.key, e.val]) w2 ∧ Rng b r es clock (seen.push e.born) w2 ∧ w.grownBy w2 (some r) ∧ w2.heap.size = w.heap.size := by
  obtain ⟨c0, hr, hc⟩ := h.hr
  rcases run_next_at (P := Tryz.prog) w ty r b clock c0 seen es clock hr h.hb hst.1 hc with ⟨h0, hrun⟩ | ⟨e, he, w1, hal, hrun⟩
  · exact .inl ⟨fun e he => all_seen es seen h0 e he, hrun⟩
  · obtain ⟨hem, hes⟩ := mem_left he
    have hr1 : w1.heap[r]? = some (.mapIter (some b) clock seen c0) := by rcases hal with rfl | rfl <;> exact hr
    have hb1 : w1.heap[b]? = some (.map es clock) := by rcases hal with rfl | rfl <;> exact h.hb
    have hset := MapKept.heap_set (o' := .mapIter (some b) clock (seen.push e.born) clock) hr1
    have hb' := (hset.2 b (fun e1 => h.ne e1.symm)).trans hb1
    refine .inr ⟨e, _, hem, hes, left_shrinks es seen e he, hrun, run_entry_at _ r b clock seen es clock e hset.1 hb' hem hst.2.1, ⟨hb', ⟨clock, hset.1, Nat.le_refl _⟩, h.ne⟩, ?_, ?_⟩
    · rcases hal with rfl | rfl <;> exact ⟨rfl, rfl, rfl, by simp [setBlock], fun i _ hi => hset.2 i (fun e1 => hi (by rw [e1]))⟩
    · rcases hal with rfl | rfl <;> simp [setBlock]
end Go.Proofs.YtpamlgdcnmcedaaGreatDoor

set_option linter.unusedVariables false
set_option linter.unusedSimpArgs false
set_option maxRecDepth 100000
namespace Go.Proofs.YtpamlgdcnmcedaaGreatDoor
open Go Go.RowKit
theorem Rng.left_eq {b r : Nat} {es : Array MapEntry} {clock : Nat} {seen : Array Nat} {w : World} (h : Rng b r es clock seen w) : w.rangeLeft b r = (leftOf es seen).size := by
  obtain ⟨c0, hr, _⟩ := h.hr
  simp only [World.rangeLeft, h.hb, hr]
theorem Rng.put {b r d : Nat} {es : Array MapEntry} {clock : Nat} {seen : Array Nat} {w : World} (h : Rng b r es clock seen w) (o : Obj) (hb : d ≠ b) (hr : d ≠ r) : Rng b r es clock seen (World.put w d o) := by
  obtain ⟨c0, h1, h2⟩ := h.hr
  exact ⟨(heap_put_other (fun e => hb e.symm)).trans h.hb, ⟨c0, (heap_put_other (fun e => hr e.symm)).trans h1, h2⟩, h.ne⟩
theorem grown_put {w wr : World} {d : Nat} (h : w.grownBy wr (some d)) (o : Obj) : w.grownBy (World.put wr d o) (some d) :=
  ⟨h.os, h.tape, h.output, by simp [World.put]; exact h.size, fun k hk hne => (heap_put_other (fun e => hne (by rw [e]))).trans (h.block k hk hne)⟩
/-- The copy under way. -/
structure MCp (w : World) (d : Nat) (es : Array MapEntry) (seen : Array Nat) (wr : World) : Prop where
  grown : w.grownBy wr (some d)
  out : ∃ (es' : Array MapEntry) (cl : Nat), wr.heap[d]? = some (.map es' cl) ∧ AllS es'.toList ∧ MapKept.Stamped es' cl ∧
    (∀ e, e ∈ es.toList → seen.contains e.born = true → ∀ t, e.key = .string t → getS es'.toList t = some e.val) ∧
    ∀ t x, getS es'.toList t = some x → ∃ e, e ∈ es.toList ∧ seen.contains e.born = true ∧ e.key = .string t
def CopyPost (w : World) (d : Nat) (es : List MapEntry) (e : Ending) (w' : World) : Prop := e = .returned (.tuple #[]) ∧ w.grownBy w' (some d) ∧
  ∃ (es' : Array MapEntry) (cl : Nat), w'.heap[d]? = some (.map es' cl) ∧ AllS es'.toList ∧ MapKept.Stamped es' cl ∧ ∀ t, getS es'.toList t = getS es t
theorem MCp.step {w wr w2 : World} {d r : Nat} {es : Array MapEntry} {clock : Nat} {seen : Array Nat} (h : MCp w d es seen wr) (hst : MapKept.Stamped es clock) (hg : wr.grownBy w2 (some r)) (hr : w.heap.size ≤ r) (hdr : d ≠ r) (hdw : d < wr.heap.size)
    {e : MapEntry} (he : e ∈ es.toList) (hes : seen.contains e.born = false) {t : ByteArray} (hk : e.key = .string t) :
    ∃ o, (Instr.mapUpdate 85 (.map (some d)) (.string t) e.val).run Tryz.prog w2 = .ok () (World.put w2 d o) ∧ MCp w d es (seen.push e.born) (World.put w2 d o) := by
  obtain ⟨es', cl, h1, h2, h3, h4, h5⟩ := h.out
  have h1' : w2.heap[d]? = some (.map es' cl) := (hg.block d hdw (fun e => hdr (by injection e))).trans h1
  obtain ⟨es2, cl2, hrun, g2, g3, g4⟩ := run_mapUpdate_any h1' h2 h3 t e.val
  refine ⟨_, hrun, grown_put (h.grown.andThen hg (fun j hj => by injection hj with hj; left; omega)) _, es2, cl2, heap_put (heap_lt h1'), g2, g3, fun e1 he1 hs1 t1 hk1 => ?_, fun t1 x hx => ?_⟩
  · rw [contains_push] at hs1
    rw [g4]
    by_cases e2 : t1 = t
    · subst e2
      rw [if_pos rfl]
      have := keys_nodup hst.2.2 he1 he (by rw [hk1, hk])
      rw [this]
    · rw [if_neg e2]
      by_cases hs : seen.contains e1.born = true
      · exact h4 e1 he1 hs t1 hk1
      · have hb : e1.born = e.born := by
          simp only [Bool.or_eq_true, beq_iff_eq] at hs1
          exact hs1.resolve_left hs
        have := born_inj hst.2.1 he1 he hb
        subst this
        rw [hk] at hk1
        injection hk1 with hk1
        exact absurd hk1.symm e2
  · rw [g4] at hx
    by_cases e2 : t1 = t
    · subst e2
      exact ⟨e, he, by rw [contains_push]; simp, hk⟩
    · rw [if_neg e2] at hx
      obtain ⟨e1, a, b, c⟩ := h5 t1 x hx
      exact ⟨e1, a, by rw [contains_push, b]; rfl, c⟩
theorem MCp.done {w wr : World} {d : Nat} {es : Array MapEntry} {clock : Nat} {seen : Array Nat} (h : MCp w d es seen wr) (hall : AllS es.toList) (hst : MapKept.Stamped es clock) (hs : ∀ e, e ∈ es.toList → seen.contains e.born = true) :
    ∃ (es' : Array MapEntry) (cl : Nat), wr.heap[d]? = some (.map es' cl) ∧ AllS es'.toList ∧ MapKept.Stamped es' cl ∧ ∀ t, getS es'.toList t = getS es.toList t := by
  obtain ⟨es', cl, h1, h2, h3, h4, h5⟩ := h.out
  refine ⟨es', cl, h1, h2, h3, fun t => ?_⟩
  rcases Classical.em (∃ e, e ∈ es.toList ∧ e.key = .string t) with ⟨e, he, hk⟩ | hno
  · rw [h4 e he (hs e he) t hk, getS_of hall hst.2.2 he hk]
  · rw [getS_none fun e he hk => hno ⟨e, he, hk⟩]
    cases hx : getS es'.toList t with
    | none => rfl
    | some x =>
      obtain ⟨e, a, _, c⟩ := h5 t x hx
      exact absurd ⟨e, a, c⟩ hno
theorem mapsCopy_any (d b : Nat) (es : Array MapEntry) (clock cl0 : Nat) (w : World) (hd : w.heap[d]? = some (.map #[] cl0)) (hb : w.heap[b]? = some (.map es clock)) (hall : AllS es.toList) (hst : MapKept.Stamped es clock) (hne : d ≠ b) :
    Calls Tryz.prog 286 #[.map (some d), .map (some b)] w (CopyPost w d es.toList) := by
  obtain ⟨hrange, hrng⟩ := Rng.start hb
  have hdl := heap_lt hd
  have hst0 : MCp w d es #[] (w.alloc (.mapIter (some b) clock #[] clock)) := ⟨World.grownBy_alloc w _ _, #[], cl0, (Below.heap_alloc _ _ _ hdl).trans hd, fun e h => by simp at h, MapKept.stamped_empty _, fun e _ h => by simp at h, fun t x h => by simp [getS] at h⟩
  have HST := Lib.hid hst
  have HALL := Lib.hid hall
  have HRNG := Lib.hid hrng
  have HST0 := Lib.hid hst0
  clear hrng hst0 hst hall hd hb
  go_enter Tryz.func286, Tryz.ntmps286
  go_wp2_with fail
  go_loopw [4] (fun _ wr => ∃ seen : Array Nat, Rng b w.heap.size es clock seen wr ∧ MCp w d es seen wr) (fun _ wr => wr.rangeLeft b w.heap.size)
  case atStart => exact ⟨#[], HRNG.out, HST0.out⟩
  case round =>
    obtain ⟨seen, hrg, hmc⟩ := hrel
    have hleft := hrg.left_eq
    have hdw : d < wr.heap.size := Nat.lt_of_lt_of_le hdl hmc.grown.size
    have HL := Lib.hid hleft
    have HM := Lib.hid hmc
    have hdr : d ≠ w.heap.size := fun e => absurd hdl (by rw [e]; exact Nat.lt_irrefl _)
    rcases hrg.next HST.out 0 with ⟨hs, hrun⟩ | ⟨e, w2, he, hes, hlt, hrun, hent, hrg2, hg2, hsz2⟩
    · have HS := Lib.hid hs
      clear hs hmc hleft hrg
      go_wp2_with fail
      go_end0
      exact ⟨rfl, HM.out.grown, HM.out.done HALL.out HST.out HS.out⟩
    · obtain ⟨t, hk⟩ := HALL.out e he
      rw [hk] at hrun hent
      obtain ⟨o, hmu, hm2⟩ := hmc.step HST.out hg2 (Nat.le_refl _) hdr hdw he hes hk
      have HM2 := Lib.hid hm2
      have HR2 := Lib.hid (hrg2.put o hne hdr)
      have HLT := Lib.hid hlt
      clear hm2 hlt hmc hleft hrg hrg2 he hes hk hg2 hsz2
      go_wp2_with fail
      go_roundw
      case rel => exact ⟨_, HR2.out, HM2.out⟩
      · rw [HL.out, HR2.out.left_eq]; exact HLT.out
end Go.Proofs.YtpamlgdcnmcedaaGreatDoor

set_option linter.unusedVariables false
set_option linter.unusedSimpArgs false
set_option maxRecDepth 100000
namespace Go.Proofs.YtpamlgdcnmcedaaGreatDoor
open Go Go.RowKit
def UpdPost (r : Option J) (w : World) (e : Ending) (w' : World) : Prop := ∃ y z, e = .returned (.tuple #[y, z]) ∧ Below w.heap.size w w' ∧
  ((r = none ∧ y = .nilIface ∧ IsErr z) ∨ ∃ j, r = some j ∧ z = .nilIface ∧ Jr w' (fun _ => True) j y)
/-- Not the empty struct. -/
def NotEmpty (x : Value) : Prop := ∀ W, (binOp .eql 20 x (.iface 277 (.agg #[]))).run Tryz.prog W = .ok (.bool false) W ∧ ∀ a b, (eqGuard .eql 20 a b x (.iface 277 (.agg #[]))).run Tryz.prog W = .ok () W
theorem notEmpty_jr {w : World} {ok : Nat → Prop} {j : J} {x : Value} (h : Jr w ok j x) : NotEmpty x := by
  intro W
  cases h <;> exact ⟨by kernel_rfl, fun a b => by kernel_rfl⟩
/-- What update is told of the rest of a path. -/
def UpdC (p : List J) : Prop := ∀ (v n : J) (ok okp : Nat → Prop) (A : Option Addr) (m c : Nat) (f : Nat → Value) (x nx : Value) (w : World), p.length = m → m ≤ c → (∀ k, k ∈ p → StepOK k) → JN v → Jk w ok v x → Jr w (fun _ => True) n nx →
  RowAt w okp 1 A m (fun i => [f i]) → (∀ (i : Nat) (k : J), p[i]? = some k → Jr w okp k (f i)) → Calls Tryz.prog 212 #[x, .slice A m c, nx, .map none] w (UpdPost (setJ p v n) w)
theorem allocated_any (x : Value) (w : World) : Calls Tryz.prog 284 #[.map none, x] w fun e w' => e = .returned (.bool false) ∧ w' = w := by
  go_enter Tryz.func284, Tryz.ntmps284
  go_wp2_with fail
  go_ret
  exact ⟨rfl, rfl⟩
theorem makeObject_any (n : Int) (w : World) : Calls Tryz.prog 285 #[.map none, .int .i64 n] w fun e w' => e = .returned (.map (some w.heap.size)) ∧ w' = w.alloc (.map #[] 0) := by
  have hmm := run_makeMap_hint n
  go_enter Tryz.func285, Tryz.ntmps285
  go_wp2_with fail
  go_ret
  exact ⟨rfl, rfl⟩
theorem mapsCopy_nil (d : Nat) (w : World) : Calls Tryz.prog 286 #[.map (some d), .map none] w fun e w' => e = .returned (.tuple #[]) ∧ Below w.heap.size w w' := by
  have hr := run_range_nilMap (P := Tryz.prog) w 85 9 20 Tryz.underlying85
  have hn := run_next_nilMap (P := Tryz.prog) w 0 0 0 #[]
  go_enter Tryz.func286, Tryz.ntmps286
  go_wp2_with fail
  go_loopw [4] (fun _ wr => wr = w.alloc (Obj.mapIter none 0 #[] 0)) (fun _ _ => 0)
  case atStart => rfl
  case round =>
    subst hrel
    go_wp2_with fail
    go_end0
    exact ⟨rfl, (Below.refl _ _).alloc (Nat.le_refl _) _⟩
theorem updateObject_nil (p : List J) (hC : UpdC p) (s : ByteArray) (n : J) (okp : Nat → Prop) (A : Option Addr) (m c : Nat) (f : Nat → Value) (nx : Value) (w : World) (hm : p.length = m) (hmc : m ≤ c) (hp : ∀ k, k ∈ p → StepOK k) (hn : Jr w (fun _ => True) n nx)
    (hr : RowAt w okp 1 A m (fun i => [f i])) (he : ∀ (i : Nat) (k : J), p[i]? = some k → Jr w okp k (f i)) :
    Calls Tryz.prog 250 #[.map none, .string s, .slice A m c, nx, .map none] w (UpdPost ((setJ p .null n).map fun u => .obj [s] [u]) w) := by
  have hlk := run_lookup_nil s w
  have hne := fun W => (notEmpty_jr hn W).1
  have hng := fun W => (notEmpty_jr hn W).2 (.tmp 26) (.tmp 28)
  have HC := Lib.hid (hC .null n (fun _ => True) okp A m c f .nilIface nx w hm hmc hp jn_null .null hn hr he)
  clear hn hr he hm hC hp
  go_enter Tryz.func250, Tryz.ntmps250
  go_wp2_with fail
  refine HC.out.mono ?_
  rintro e' w2 ⟨y, z, rfl, hb2, hres⟩
  rcases hres with ⟨hr, rfl, t, ev, rfl, herr⟩ | ⟨j, hr, rfl, hj⟩
  · have HR := Lib.hid hr
    have HE := Lib.hid herr
    clear hr herr
    go_wp2_with fail
    refine bodyPost_ret (v := .tuple #[.nilIface, .iface t ev]) (by simp [results, Tryz.results250, go_sem]) rfl ?_
    rw [HR.out]
    exact ⟨_, _, rfl, hb2, .inl ⟨rfl, rfl, t, ev, rfl, HE.out⟩⟩
  · have HR := Lib.hid hr
    have HJ := Lib.hid hj
    clear hr hj
    go_wp2_with (first
      | (go_at_call 284; refine (allocated_any _ _).mono ?_; rintro e' w' ⟨rfl, rfl⟩)
      | (go_at_call 285; refine (makeObject_any _ _).mono ?_; rintro e' w' ⟨rfl, rfl⟩)
      | (go_at_call 286; refine (mapsCopy_nil _ _).mono ?_; rintro e' w4 ⟨rfl, hb4⟩))
    have hd4 : w4.heap[w'.heap.size]? = some (.map #[] 0) := (hb4.block _ (by simp)).trans (heap_alloc_new w' _)
    obtain ⟨es', cl', hmu, g2, g3, g4⟩ := run_mapUpdate_any hd4 (fun e h => by simp at h) (MapKept.stamped_empty _) s y
    have G := Lib.hid (And.intro hd4 (And.intro g2 (And.intro g3 g4)))
    clear hd4 g2 g3 g4
    go_wp2_with fail
    refine bodyPost_ret (v := .tuple #[.iface 85 (.map (some w'.heap.size)), .nilIface]) (by simp [results, Tryz.results250, go_sem]) rfl ?_
    obtain ⟨hd4, g2, g3, g4⟩ := G.out
    have hB : Below w'.heap.size w' w4 := ((Below.refl _ _).alloc (Nat.le_refl _) _).trans (hb4.mono (by simp))
    have hB2 : Below w'.heap.size w' (World.put w4 w'.heap.size (.map es' cl')) := below_put hB (Nat.le_refl _) _
    rw [HR.out]
    refine ⟨_, _, rfl, below_trans hb2 hB2, .inr ⟨_, rfl, rfl, ?_⟩⟩
    have hj' := HJ.out.keep hB2
    refine jr_obj_mk trivial (heap_put (heap_lt hd4)) g3 g2 (by simp) rfl (fun t j' ht => ?_) (fun t ht => ?_)
    · rw [lookO] at ht
      by_cases e : t = s
      · rw [if_pos e] at ht
        cases ht
        exact ⟨y, by rw [g4, if_pos e], hj'⟩
      · rw [if_neg e] at ht
        cases ht
    · rw [lookO] at ht
      by_cases e : t = s
      · rw [if_pos e] at ht
        cases ht
      · rw [g4, if_neg e]
        rfl
theorem jk_obj {w : World} {ok : Nat → Prop} {ks : List ByteArray} {vs : List J} {x : Value} (h : Jk w ok (.obj ks vs) x) :
    ∃ b es clock, x = .iface 85 (.map (some b)) ∧ ok b ∧ w.heap[b]? = some (.map es clock) ∧ AllS es.toList ∧ MapKept.Stamped es clock ∧
      (∀ t j, lookO ks vs t = some j → ∃ x, getS es.toList t = some x ∧ Jk w ok j x) ∧ ∀ t, lookO ks vs t = none → getS es.toList t = none := by
  cases h with
  | obj _ _ b es clock f ho hb hn hv hnd he hg hst e =>
    have hall : AllS es.toList := fun e hee => by
      obtain ⟨s, h1, _⟩ := he e hee
      exact ⟨s, h1⟩
    refine ⟨b, es, clock, rfl, ho, hb, hall, hst, fun t j hl => ?_, fun t hl => ?_⟩
    · obtain ⟨i, h1, h2⟩ := lookO_some ks vs t j hl
      exact ⟨_, hg i t h1, e i j h2⟩
    · have hno := lookO_none ks vs t hv.symm hl
      exact getS_none fun e hee hk => by
        obtain ⟨s', h1, h2⟩ := he e hee
        rw [h1] at hk
        injection hk with hk
        exact hno (hk ▸ h2)
theorem updateObject_some (p : List J) (hC : UpdC p) (s : ByteArray) (n : J) (ks : List ByteArray) (vs : List J) (mo : Value) (ok okp : Nat → Prop) (A : Option Addr) (m c : Nat) (f : Nat → Value) (nx : Value) (w : World) (hm : p.length = m) (hmc : m ≤ c) (hp : ∀ k, k ∈ p → StepOK k)
    (hjn : JN (.obj ks vs)) (hv : Jk w ok (.obj ks vs) (.iface 85 mo)) (hn : Jr w (fun _ => True) n nx)
    (hr : RowAt w okp 1 A m (fun i => [f i])) (he : ∀ (i : Nat) (k : J), p[i]? = some k → Jr w okp k (f i)) :
    Calls Tryz.prog 250 #[mo, .string s, .slice A m c, nx, .map none] w (UpdPost ((setJ p ((lookO ks vs s).getD .null) n).map fun u => .obj (insK ks s) (insV ks vs s u)) w) := by
  have hvr := hv.jr
  obtain ⟨b, es, clock, hx, hob, hb, hall, hst, hsome, hnone⟩ := jk_obj hv
  injection hx with _ hx
  subst hx
  obtain ⟨g1, g2, g3, g4, g5⟩ := jn_obj_elim hjn
  have hlk := run_lookup_ok hb hall s
  obtain ⟨x0, hx0⟩ : ∃ x0, x0 = (getS es.toList s).getD .nilIface := ⟨_, rfl⟩
  obtain ⟨q0, hq0⟩ : ∃ q0, q0 = (getS es.toList s).isSome := ⟨_, rfl⟩
  obtain ⟨v0, hv0⟩ : ∃ v0, v0 = (lookO ks vs s).getD .null := ⟨_, rfl⟩
  have hj0 : Jk w ok v0 x0 := by
    rw [hx0, hv0]
    cases hl : lookO ks vs s with
    | none => rw [hnone s hl]; exact .null
    | some j =>
      obtain ⟨x, e1, e2⟩ := hsome s j hl
      rw [e1]; exact e2
  have hjn0 : JN v0 := hv0 ▸ jn_look g5 s
  rw [← hx0, ← hq0] at hlk
  rw [← hv0]
  have hne := fun W => (notEmpty_jr hn W).1
  have hng := fun W => (notEmpty_jr hn W).2 (.tmp 26) (.tmp 28)
  have HC := Lib.hid (hC v0 n ok okp A m c f x0 nx w hm hmc hp hjn0 hj0 hn hr he)
  have HO := Lib.hid (And.intro hb (And.intro hall (And.intro hst (And.intro hsome (And.intro hnone (And.intro g2 g3))))))
  have hbl := heap_lt hb
  clear hn hr he hm hC hp hx0 hq0 hv0 hj0 hjn0 hjn hv hvr hb hall hst hsome hnone g1 g2 g3 g4 g5
  cases q0
  all_goals
    go_enter Tryz.func250, Tryz.ntmps250
    go_wp2_with fail
    refine HC.out.mono ?_
    rintro e' w2 ⟨y, z, rfl, hb2, hres⟩
    rcases hres with ⟨hr, rfl, t, ev, rfl, herr⟩ | ⟨j, hr, rfl, hj⟩
    · have HR := Lib.hid hr
      have HE := Lib.hid herr
      clear hr herr
      go_wp2_with fail
      refine bodyPost_ret (v := .tuple #[.nilIface, .iface t ev]) (by simp [results, Tryz.results250, go_sem]) rfl ?_
      rw [HR.out]
      exact ⟨_, _, rfl, hb2, .inl ⟨rfl, rfl, t, ev, rfl, HE.out⟩⟩
    · have HR := Lib.hid hr
      have HJ := Lib.hid hj
      clear hr hj
      have hb2b := (hb2.block b hbl).trans HO.out.1
      have hbl2 := heap_lt hb2b
      have hlen : (Builtin.len_ #[85] 3 #[.map (some b)]).run Tryz.prog w2 = .ok (.int .i64 es.size) w2 := by exact run_len_map _ _ _ _ _ _ rfl hb2b
      have HB := Lib.hid hb2b
      clear hb2b
      go_wp2_with (first
        | (go_at_call 284; refine (allocated_any _ _).mono ?_; rintro e' w' ⟨rfl, rfl⟩)
        | (go_at_call 285; refine (makeObject_any _ _).mono ?_; rintro e' w' ⟨rfl, rfl⟩)
        | (go_at_call 286; refine (mapsCopy_any _ b es clock 0 _ (heap_alloc_new _ _) ((Below.heap_alloc _ _ _ hbl2).trans HB.out) HO.out.2.1 HO.out.2.2.1 (by omega)).mono ?_; rintro e' w4 ⟨rfl, hg4, es4, cl4, hd4, ha4, hs4, hget4⟩))
      have hB : Below w'.heap.size w' w4 := ((Below.refl _ _).alloc (Nat.le_refl _) _).grown hg4 (by simp) (fun k hk => by injection hk with hk; omega)
      obtain ⟨es', cl', hmu, h2, h3, h4⟩ := run_mapUpdate_any hd4 ha4 hs4 s y
      have G := Lib.hid (And.intro hd4 (And.intro h2 (And.intro h3 h4)))
      have HG := Lib.hid hget4
      clear hd4 h2 h3 h4 ha4 hs4 hget4 hg4
      rw [hmu]
      go_wp2_with fail
      refine bodyPost_ret (v := .tuple #[.iface 85 (.map (some w'.heap.size)), .nilIface]) (by simp [results, Tryz.results250, go_sem]) rfl ?_
      obtain ⟨hd4, h2, h3, h4⟩ := G.out
      have hB2 : Below w'.heap.size w' (World.put w4 w'.heap.size (.map es' cl')) := below_put hB (Nat.le_refl _) _
      obtain ⟨_, _, _, hsome, hnone, g2, g3⟩ := HO.out
      rw [HR.out]
      refine ⟨_, _, rfl, below_trans hb2 hB2, .inr ⟨_, rfl, rfl, ?_⟩⟩
      have hj' := HJ.out.keep hB2
      refine jr_obj_mk trivial (heap_put (heap_lt hd4)) h3 h2 (sortedS_nodup (insK_sorted ks s g3)) (ins_len ks vs s j g2).symm (fun t j' ht => ?_) (fun t ht => ?_)
      · rw [look_ins ks vs s t j g2] at ht
        by_cases e : t = s
        · rw [if_pos e] at ht
          cases ht
          exact ⟨y, by rw [h4, if_pos e], hj'⟩
        · rw [if_neg e] at ht
          obtain ⟨x, e1, e2⟩ := hsome t j' ht
          refine ⟨x, by rw [h4, if_neg e, HG.out]; exact e1, ?_⟩
          exact (((e2.jr.keep hb2).mono fun _ _ => trivial).keep hB2)
      · rw [look_ins ks vs s t j g2] at ht
        by_cases e : t = s
        · rw [if_pos e] at ht
          cases ht
        · rw [if_neg e] at ht
          rw [h4, if_neg e, HG.out]
          exact hnone t ht
end Go.Proofs.YtpamlgdcnmcedaaGreatDoor

set_option linter.unusedVariables false
set_option linter.unusedSimpArgs false
set_option maxRecDepth 100000
namespace Go.Proofs.YtpamlgdcnmcedaaGreatDoor
open Go Go.RowKit
theorem info20z : ∃ i, Tryz.prog.info? 20 = some i ∧ i.zero = some .nilIface ∧ i.size = 1 ∧ i.bytes = 16 := by
  have h := K.info20
  cases hq : Tryz.prog.info? 20 with
  | none => rw [hq] at h; cases h
  | some i =>
    rw [hq] at h
    simp only [Option.map_some, Option.some.injEq, Prod.mk.injEq] at h
    exact ⟨i, rfl, h.1, h.2.1, h.2.2⟩
theorem run_make_any (w : World) (l C : Nat) (h : l ≤ C) (hC : C ≤ 2000000) :
    (Instr.makeSlice 62 (.int .i64 l) (.int .i64 C)).run Tryz.prog w = .ok (.slice (some ⟨w.heap.size, 0, none⟩) l C) (w.alloc (.cells (madeCells #[.nilIface] C) 20)) := by
  obtain ⟨i, h1, h2, h3, h4⟩ := info20z
  have h := run_make (P := Tryz.prog) (w := w) 62 20 i .nilIface Tryz.underlying62 h1 h2 .i64 .i64 l C (by omega) (by omega) (by rw [h4]; omega) (by omega)
  rw [h3] at h
  simpa [Value.cells] using h
theorem makeArray_any (l c : Nat) (w : World) (hl : l ≤ 2000000) (hc : c ≤ 2000000) :
    Calls Tryz.prog 287 #[.map none, .int .i64 l, .int .i64 c] w fun e w' => e = .returned (.slice (some ⟨w.heap.size, 0, none⟩) l (max l c)) ∧ w' = w.alloc (.cells (madeCells #[.nilIface] (max l c)) 20) := by
  have hmk := run_make_any w l (max l c) (by omega) (by omega)
  rw [show ((max l c : Nat) : Int) = max (l : Int) c from by omega] at hmk
  go_enter Tryz.func287, Tryz.ntmps287
  go_wp2_with fail
  go_ret
  exact ⟨rfl, rfl⟩
theorem setRow_size (w : World) (g : Nat) (cs : Array Value) : (w.setRow g cs).heap.size = w.heap.size := by simp [World.setRow]
theorem setRow_other (w : World) (g k : Nat) (cs : Array Value) (h : k ≠ g) : (w.setRow g cs).heap[k]? = w.heap[k]? := by
  simp only [World.setRow, Array.getElem?_modify]
  rw [if_neg (fun e => h e.symm)]
theorem below_setRow {B : Nat} {a w : World} (h : Below B a w) {g : Nat} (hg : B ≤ g) (cs : Array Value) : Below B a (w.setRow g cs) :=
  ⟨h.os, h.tape, h.output, by rw [setRow_size]; exact h.size, fun k hk => (setRow_other w g k cs (by omega)).trans (h.block k hk)⟩
theorem run_copy_any (w : World) (d D1 D2 : Nat) (A : Option Addr) (L c : Nat) (f : Nat → Value) (cur : Array Value) (ok : Nat → Prop) (hd : w.heap[d]? = some (.cells cur 20 (0, 0))) (hr : RowAt w ok 1 A L (fun i => [f i])) (hL : L ≤ D1) (hL2 : L ≤ cur.size) (h1 : ∀ i, i < L → (f i).oneCell' = true) :
    ∃ arr : Array Value, (Builtin.copy_ #[62, 62] 3 #[.slice (some ⟨d, 0, none⟩) D1 D2, .slice A L c]).run Tryz.prog w = .ok (.int .i64 L) (w.setRow d arr) ∧ arr.size = cur.size ∧ (∀ i, i < L → arr[i]? = some (f i)) ∧ ∀ i, L ≤ i → arr[i]? = cur[i]? := by
  by_cases h0 : L = 0
  · subst h0
    refine ⟨cur, ?_, rfl, fun i hi => by omega, fun i _ => rfl⟩
    rw [setRow_self w d cur 20 (0, 0) hd]
    obtain ⟨i, e1, e2, e3, e4⟩ := info20z
    have hl : ∀ a : Addr, (loadCells a 0).run Tryz.prog w = .ok #[] w := fun a => run_loadCells_list (P := Tryz.prog) w a [] (fun j v h => by simp at h)
    cases A with
    | none => simp [Builtin.copy_, run_underlying Tryz.underlying62, Builtin.lenOf, Builtin.firstCells, sizeOf, typeInfo, e1, e3, storeCells, goInt]
    | some a => simp [Builtin.copy_, run_underlying Tryz.underlying62, Builtin.lenOf, Builtin.firstCells, sizeOf, typeInfo, e1, e3, storeCells, hl, goInt]
  · obtain ⟨ad, rfl, ho, hc⟩ := hr (by omega)
    have hlen : ((List.range L).map f).length = L := by simp
    have hget : ∀ i, i < L → ((List.range L).map f)[i]? = some (f i) := fun i hi => by simp [hi]
    have hcp := run_copy_row Tryz.prog w 62 62 3 20 d 0 D1 D2 ad L c cur 20 ((List.range L).map f) Tryz.underlying62 (by obtain ⟨i, e1, e2, e3, e4⟩ := info20z; rw [e1]; simp [e3]) hd (by rw [hlen]; simp [Nat.min_def]; omega)
      (fun j v hj => by
        have hjL : j < L := by rw [← hlen]; exact (List.getElem?_eq_some_iff.1 hj).1
        rw [hget j hjL] at hj
        cases hj
        have := hc j 0 (f j) hjL rfl
        rwa [Nat.mul_one] at this)
      (by rw [hlen]; omega) (fun v hv => by
        obtain ⟨i, hi, rfl⟩ := List.mem_map.1 hv
        exact h1 i (by simpa using hi))
    rw [hlen] at hcp
    refine ⟨_, hcp, ?_, fun i hi => ?_, fun i hi => ?_⟩
    · simp [hlen]; omega
    · have hh := hget i hi
      simp only [List.take_zero, List.nil_append, List.getElem?_toArray]
      rw [List.getElem?_append_left (by rw [hlen]; exact hi)]
      exact hh
    · simp only [List.take_zero, List.nil_append, List.getElem?_toArray]
      rw [List.getElem?_append_right (by rw [hlen]; exact hi), hlen, List.getElem?_drop, show 0 + L + (i - L) = i from by omega]
      simp
/-- An array in memory, by its cells. -/
theorem jr_arr_mk {w : World} {ok : Nat → Prop} {l : List J} {m d C : Nat} {arr : Array Value} (hm : l.length = m) (ho : ok d) (hb : w.heap[d]? = some (.cells arr 20 (0, 0))) (hs : m ≤ C) (hsz : m ≤ arr.size)
    (he : ∀ (k : Nat) (j : J), l[k]? = some j → ∃ x, arr[k]? = some x ∧ Jr w ok j x) : Jr w ok (.arr l) (.iface 62 (.slice (some ⟨d, 0, none⟩) m C)) := by
  subst hm
  refine .arr l _ C (fun i => arr.getD i undef) hs (fun _ => ⟨_, rfl, ho, fun i j u hi hu => ?_⟩) fun i j hj => ?_
  · match j, hu with
    | 0, hu =>
      simp only [List.getElem?_cons_zero, Option.some.injEq] at hu
      subst hu
      have e : (⟨d, 0, none⟩ : Addr).add (i * 1 + 0) = ⟨d, i, none⟩ := by
        unfold Addr.add
        split
        · rename_i h0; have : i = 0 := by omega
          subst this; rfl
        · simp
      rw [e]
      have hi' : i < arr.size := by omega
      simp [World.cell?, hb, hi']
    | j + 1, hu => simp at hu
  · obtain ⟨x, hx, hJ⟩ := he i j hj
    have : arr.getD i undef = x := by simp [Array.getD_eq_getD_getElem?, hx]
    simp only [this]
    exact hJ
theorem jr_one {w : World} {ok : Nat → Prop} {j : J} {x : Value} (h : Jr w ok j x) : x.oneCell' = true := by cases h <;> rfl
theorem setL_at (l : List J) (i : Nat) (u : J) (k : Nat) (j : J) (h : (setL l i u)[k]? = some j) : (k = i ∧ j = u) ∨ (k ≠ i ∧ k < l.length ∧ l[k]? = some j) ∨ (k ≠ i ∧ l.length ≤ k ∧ j = .null) := by
  unfold setL at h
  rw [List.getElem?_set] at h
  split at h
  · split at h
    · rename_i e _
      exact .inl ⟨e.symm, by simpa using h.symm⟩
    · cases h
  · rename_i hne
    by_cases hk : k < l.length
    · rw [List.getElem?_append_left hk] at h
      exact .inr (.inl ⟨fun e => hne e.symm, hk, h⟩)
    · rw [List.getElem?_append_right (by omega)] at h
      refine .inr (.inr ⟨fun e => hne e.symm, by omega, ?_⟩)
      exact List.eq_of_mem_replicate (List.mem_of_getElem? h)
end Go.Proofs.YtpamlgdcnmcedaaGreatDoor

set_option linter.unusedVariables false
set_option linter.unusedSimpArgs false
set_option maxRecDepth 100000
namespace Go.Proofs.YtpamlgdcnmcedaaGreatDoor
open Go Go.RowKit
theorem madeCells_get (C k : Nat) (h : k < C) : (madeCells #[.nilIface] C)[k]? = some .nilIface := by
  rw [madeCells]
  simp [h, Nat.mod_one]
theorem cell_of_row {W : World} {d i : Nat} {arr : Array Value} {t : TypeId} (h : W.heap[d]? = some (.cells arr t (0, 0))) (hi : i < arr.size) : W.cell? ⟨d, i, none⟩ = some arr[i] ∧ W.frozen? ⟨d, i, none⟩ = false := by
  constructor
  · simp [World.cell?, h, hi]
  · simp [World.frozen?, h]
/-- What is built in the new array's block. -/
theorem upd_arr {w w2 : World} {ok : Nat → Prop} {l : List J} {L L2 C i : Nat} {f0 : Nat → Value} {arr : Array Value} {u : J} {y : Value} (hL : l.length = L) (hi : max L (i + 1) = L2) (hC : L2 ≤ C) (hb : Below w.heap.size w w2) (he0 : ∀ (i : Nat) (j : J), l[i]? = some j → Jk w ok j (f0 i)) (hu : Jr w2 (fun _ => True) u y)
    (hs : arr.size = C) (h1 : ∀ k, k < L → arr[k]? = some (f0 k)) (h2 : ∀ k, L ≤ k → arr[k]? = (madeCells #[.nilIface] C)[k]?) :
    Below w2.heap.size w2 (((w2.alloc (.cells (madeCells #[.nilIface] C) 20)).setRow w2.heap.size arr).setCell ⟨w2.heap.size, i, none⟩ y) ∧
    Jr (((w2.alloc (.cells (madeCells #[.nilIface] C) 20)).setRow w2.heap.size arr).setCell ⟨w2.heap.size, i, none⟩ y) (fun _ => True) (.arr (setL l i u)) (.iface 62 (.slice (some ⟨w2.heap.size, 0, none⟩) L2 C)) := by
  have hB : Below w2.heap.size w2 (((w2.alloc (.cells (madeCells #[.nilIface] C) 20)).setRow w2.heap.size arr).setCell ⟨w2.heap.size, i, none⟩ y) := (below_setRow ((Below.refl _ _).alloc (Nat.le_refl _) _) (Nat.le_refl _) _).setCell (Nat.le_refl _) _
  have hd := heap_setCell_row (i := i) (setRow_heap _ _ _ arr _ _ (heap_alloc_new w2 (.cells (madeCells #[.nilIface] C) 20))) y
  refine ⟨hB, jr_arr_mk (by rw [setL_len, hL, hi]) trivial hd hC (by simp [hs]; exact hC) fun k j hk => ?_⟩
  have hkl : k < L2 := by
    have := (List.getElem?_eq_some_iff.1 hk).1
    rw [setL_len] at this
    omega
  rcases setL_at l i u k j hk with ⟨rfl, rfl⟩ | ⟨hne, hlt, hj⟩ | ⟨hne, hle, rfl⟩
  · exact ⟨y, by rw [Array.getElem?_setIfInBounds, if_pos rfl, if_pos (by omega)], hu.keep hB⟩
  · refine ⟨f0 k, by rw [Array.getElem?_setIfInBounds, if_neg (fun e => hne e.symm)]; exact h1 k (by omega), ?_⟩
    exact (((he0 k j hj).jr.keep hb).mono fun _ _ => trivial).keep hB
  · refine ⟨.nilIface, by rw [Array.getElem?_setIfInBounds, if_neg (fun e => hne e.symm), h2 k (by omega)]; exact madeCells_get C k (by omega), .null⟩
theorem upd_cell {w2 : World} {C i : Nat} {arr : Array Value} (hs : arr.size = C) (hi : i < C) : ∃ z, ((w2.alloc (.cells (madeCells #[.nilIface] C) 20)).setRow w2.heap.size arr).cell? ⟨w2.heap.size, i, none⟩ = some z ∧ ((w2.alloc (.cells (madeCells #[.nilIface] C) 20)).setRow w2.heap.size arr).frozen? ⟨w2.heap.size, i, none⟩ = false := by
  have hd := setRow_heap _ _ _ arr _ _ (heap_alloc_new w2 (.cells (madeCells #[.nilIface] C) 20))
  exact ⟨_, cell_of_row hd (by omega)⟩
theorem updateArrayIndex_any (p : List J) (hC : UpdC p) (i : Nat) (hi : i ≤ 1000) (n : J) (l : List J) (L : Nat) (hL : l.length = L) (A0 : Option Addr) (c0 : Nat) (f0 : Nat → Value) (ok okp : Nat → Prop) (A : Option Addr) (m c : Nat) (f : Nat → Value) (nx : Value) (w : World) (hm : p.length = m) (hmc : m ≤ c) (hp : ∀ k, k ∈ p → StepOK k)
    (hjn : ∀ j, j ∈ l → JN j) (hc0 : L ≤ c0 ∧ c0 ≤ 1000000) (hr0 : RowAt w ok 1 A0 L (fun i => [f0 i])) (he0 : ∀ (i : Nat) (j : J), l[i]? = some j → Jk w ok j (f0 i)) (hn : Jr w (fun _ => True) n nx)
    (hr : RowAt w okp 1 A m (fun i => [f i])) (he : ∀ (i : Nat) (k : J), p[i]? = some k → Jr w okp k (f i)) :
    Calls Tryz.prog 251 #[.slice A0 L c0, .int .i64 i, .slice A m c, nx, .map none] w (UpdPost ((setJ p (l.getD i .null) n).map fun u => .arr (setL l i u)) w) := by
  obtain ⟨hc1, hc2⟩ := hc0
  obtain ⟨v0, hv0⟩ : ∃ v0, v0 = l.getD i .null := ⟨_, rfl⟩
  have hjn0 : JN v0 := hv0 ▸ jn_getD hjn i
  rw [← hv0]
  have hne := fun W => (notEmpty_jr hn W).1
  have hng := fun W => (notEmpty_jr hn W).2 (.tmp 46) (.tmp 48)
  have hclamp := clamp_any (i : Int) (-1) (L : Int) (by omega) (by omega)
  by_cases hiL : i < L
  · have hz : clampZ (i : Int) (-1) (L : Int) = i := by
      have e : fromEnd (i : Int) L = i := if_neg (by omega)
      unfold clampZ
      rw [e, if_neg (by omega), if_pos (by omega)]
    rw [hz] at hclamp
    have hl : l[i]? = some l[i] := List.getElem?_eq_getElem (by omega)
    have hv1 : v0 = l[i] := by rw [hv0, List.getD_eq_getElem?_getD, hl]; rfl
    have hj0 : Jk w ok v0 (f0 i) := hv1 ▸ he0 i _ hl
    have hr1 := hr0
    obtain ⟨ad, rfl, hao, hcell⟩ := hr0 (by omega)
    have hc := hcell i 0 (f0 i) hiL rfl
    have HC := Lib.hid (hC v0 n ok okp A m c f (f0 i) nx w hm hmc hp hjn0 hj0 hn hr he)
    simp only [Nat.mul_one, Nat.add_zero] at hc
    obtain ⟨A0, hA0⟩ : ∃ A0, A0 = some ad := ⟨_, rfl⟩
    rw [← hA0] at hr1
    have HA0 := Lib.hid hA0
    clear hA0 hl hv1 hj0 hcell hao
    have HO := Lib.hid (And.intro hL (And.intro hr1 he0))
    have HCL := Lib.hid hclamp
    obtain ⟨C, hCe⟩ : ∃ C, C = max L c0 := ⟨_, rfl⟩
    have hC1 : L ≤ C := by omega
    have hC2 : L ≤ C := by omega
    have HMK := Lib.hid (fun W => makeArray_any L c0 W (by omega) (by omega))
    rw [← hCe] at HMK
    clear hC hn hr he hm hp hv0 hjn0 hjn hL hr0 he0 hz hclamp hr1 hCe
    go_enter Tryz.func251, Tryz.ntmps251
    go_wp2_with (go_at_call 206; refine (HCL.out _).mono ?_; rintro e' w' ⟨rfl, hw⟩; replace hw := hw.symm; subst hw)
    refine HC.out.mono ?_
    rintro e' w2 ⟨y, z, rfl, hb2, hres⟩
    rcases hres with ⟨hr, rfl, t, ev, rfl, herr⟩ | ⟨j, hr, rfl, hj⟩
    · have HR := Lib.hid hr
      have HE := Lib.hid herr
      clear hr herr
      go_wp2_with fail
      refine bodyPost_ret (v := .tuple #[.nilIface, .iface t ev]) (by simp [results, Tryz.results251, go_sem]) rfl ?_
      rw [HR.out]
      exact ⟨_, _, rfl, hb2, .inl ⟨rfl, rfl, t, ev, rfl, HE.out⟩⟩
    · obtain ⟨hL, hr1, he0⟩ := HO.out
      rw [HA0.out] at hr1
      obtain ⟨arr, hcp, ha1, ha2, ha3⟩ := run_copy_any (w2.alloc (.cells (madeCells #[.nilIface] C) 20)) w2.heap.size L C (some ad) L c0 f0 _ _ (heap_alloc_new _ _)
        ((hr1.bound fun i hi => by simp).move fun b hb => (hb2.alloc hb2.size _).block b hb.2) (by omega) (by rw [size_madeCells]; omega) (fun k hk => jr_one (he0 k _ (List.getElem?_eq_getElem (by omega))).jr)
      rw [size_madeCells] at ha1
      obtain ⟨z4, hz4, hf4⟩ := upd_cell (w2 := w2) ha1 (show i < C by omega)
      have HA := Lib.hid (upd_arr hL (show max L (i + 1) = L by omega) hC1 hb2 he0 hj ha1 ha2 ha3)
      have HR := Lib.hid hr
      have hyf := hj.form
      clear hr hj hL hr1 he0 ha1 ha2 ha3
      rcases hyf with rfl | ⟨ty, yv, rfl⟩
      all_goals
       go_wp2_with (first
         | (go_at_call 284; refine (allocated_any _ _).mono ?_; rintro e' w' ⟨rfl, hw⟩; replace hw := hw.symm; subst hw)
         | (go_at_call 287; refine (HMK.out _).mono ?_; rintro e' w' ⟨rfl, rfl⟩))
       refine bodyPost_ret (v := .tuple #[.iface 62 (.slice (some ⟨w2.heap.size, 0, none⟩) L C), .nilIface]) (by simp [results, Tryz.results251, go_sem]) rfl ?_
       rw [HR.out]
       exact ⟨_, _, rfl, below_trans hb2 HA.out.1, .inr ⟨_, rfl, rfl, HA.out.2⟩⟩
  · have hz : clampZ (i : Int) (-1) (L : Int) = L := by
      have e : fromEnd (i : Int) L = i := if_neg (by omega)
      unfold clampZ
      rw [e, if_neg (by omega), if_neg (by omega)]
    rw [hz] at hclamp
    have hv1 : v0 = .null := by rw [hv0, List.getD_eq_getElem?_getD, List.getElem?_eq_none (by omega)]; rfl
    have hr1 := hr0
    have HC := Lib.hid (hC v0 n ok okp A m c f .nilIface nx w hm hmc hp hjn0 (hv1 ▸ .null) hn hr he)
    clear hv1
    have HO := Lib.hid (And.intro hL (And.intro hr1 he0))
    have HCL := Lib.hid hclamp
    obtain ⟨C, hCe⟩ : ∃ C, C = max (i + 1) c0 := ⟨_, rfl⟩
    have hC1 : (i + 1) ≤ C := by omega
    have hC2 : L ≤ C := by omega
    have HMK := Lib.hid (fun W => makeArray_any (i + 1) c0 W (by omega) (by omega))
    rw [← hCe] at HMK
    have hLi : L ≤ i := by omega
    clear hiL
    clear hC hn hr he hm hp hv0 hjn0 hjn hL hr0 he0 hz hclamp hr1 hCe
    obtain ⟨I, hI⟩ : ∃ I : Int, (i : Int) = I := ⟨_, rfl⟩
    have hbig : ¬ (I ≥ 536870912) := by omega
    rw [hI] at HCL ⊢
    have HI := Lib.hid hI
    clear hI
    go_enter Tryz.func251, Tryz.ntmps251
    go_wp2_with (go_at_call 206; refine (HCL.out _).mono ?_; rintro e' w' ⟨rfl, hw⟩; replace hw := hw.symm; subst hw)
    clear hbig
    have hI := HI.out
    clear HI
    subst hI
    refine HC.out.mono ?_
    rintro e' w2 ⟨y, z, rfl, hb2, hres⟩
    rcases hres with ⟨hr, rfl, t, ev, rfl, herr⟩ | ⟨j, hr, rfl, hj⟩
    · have HR := Lib.hid hr
      have HE := Lib.hid herr
      clear hr herr
      go_wp2_with fail
      refine bodyPost_ret (v := .tuple #[.nilIface, .iface t ev]) (by simp [results, Tryz.results251, go_sem]) rfl ?_
      rw [HR.out]
      exact ⟨_, _, rfl, hb2, .inl ⟨rfl, rfl, t, ev, rfl, HE.out⟩⟩
    · obtain ⟨hL, hr1, he0⟩ := HO.out
      obtain ⟨arr, hcp, ha1, ha2, ha3⟩ := run_copy_any (w2.alloc (.cells (madeCells #[.nilIface] C) 20)) w2.heap.size (i + 1) C A0 L c0 f0 _ _ (heap_alloc_new _ _)
        ((hr1.bound fun i hi => by simp).move fun b hb => (hb2.alloc hb2.size _).block b hb.2) (by omega) (by rw [size_madeCells]; omega) (fun k hk => jr_one (he0 k _ (List.getElem?_eq_getElem (by omega))).jr)
      rw [size_madeCells] at ha1
      obtain ⟨z4, hz4, hf4⟩ := upd_cell (w2 := w2) ha1 (show i < C by omega)
      have HA := Lib.hid (upd_arr hL (show max L (i + 1) = (i + 1) by omega) hC1 hb2 he0 hj ha1 ha2 ha3)
      have HR := Lib.hid hr
      have hyf := hj.form
      clear hr hj hL hr1 he0 ha1 ha2 ha3
      rcases hyf with rfl | ⟨ty, yv, rfl⟩
      all_goals
       go_wp2_with (first
         | (go_at_call 284; refine (allocated_any _ _).mono ?_; rintro e' w' ⟨rfl, hw⟩; replace hw := hw.symm; subst hw)
         | (go_at_call 287; refine (HMK.out _).mono ?_; rintro e' w' ⟨rfl, rfl⟩))
       refine bodyPost_ret (v := .tuple #[.iface 62 (.slice (some ⟨w2.heap.size, 0, none⟩) (i + 1) C), .nilIface]) (by simp [results, Tryz.results251, go_sem]) rfl ?_
       rw [HR.out]
       exact ⟨_, _, rfl, below_trans hb2 HA.out.1, .inr ⟨_, rfl, rfl, HA.out.2⟩⟩
end Go.Proofs.YtpamlgdcnmcedaaGreatDoor

set_option linter.unusedVariables false
set_option linter.unusedSimpArgs false
set_option maxRecDepth 100000
namespace Go.Proofs.YtpamlgdcnmcedaaGreatDoor
open Go Go.RowKit
theorem zero277 (w : World) : (zeroValue 277).run Tryz.prog w = .ok (.agg #[]) w := by kernel_rfl
@[go_sem] theorem ta_277 (t : TypeId) (v : Value) (w : World) : (Instr.typeAssert (.iface t v) 20 277 true).run Tryz.prog w = if t = 277 then .ok (.tuple #[v, .bool true]) w else .ok (.tuple #[.agg #[], .bool false]) w := by
  unfold Instr.typeAssert
  simp [run_underlying Tryz.underlying277, zero277]
/-- A path without its first step. -/
theorem row_tail {w : World} {okp : Nat → Prop} {ad : Addr} {m c : Nat} {f : Nat → Value} (hmc : m + 1 ≤ c) (hr : RowAt w okp 1 (some ad) (m + 1) (fun i => [f i])) :
    ∃ A', (∀ W, (Instr.slice 62 (.slice (some ad) (m + 1) c) (some (.int .i64 1)) none none).run Tryz.prog W = .ok (.slice A' m (c - 1)) W) ∧ RowAt w okp 1 A' m (fun i => [f (i + 1)]) := by
  obtain ⟨i, e1, e2, e3, e4⟩ := info20z
  refine ⟨if c = 1 then some ad else some (ad.add 1), fun W => ?_, fun hm => ⟨ad.add 1, by rw [if_neg (by omega)], ?_, fun i j u hi hu => ?_⟩⟩
  · by_cases hc : c = 1
    · have hm0 : m = 0 := by omega
      subst hc hm0
      simp [Instr.slice, Instr.sliceBounds, Instr.sliceBound, asIntOf, run_underlying Tryz.underlying62, sizeOf, typeInfo, e1, e3]
    · simp [Instr.slice, Instr.sliceBounds, Instr.sliceBound, asIntOf, run_underlying Tryz.underlying62, sizeOf, typeInfo, e1, e3, hc]
      intro h
      omega
  · obtain ⟨ad', e, ho, _⟩ := hr (by omega)
    cases e
    rw [block_add]
    exact ho
  · obtain ⟨ad', e, ho, hcell⟩ := hr (by omega)
    cases e
    have := hcell (i + 1) j u (by omega) hu
    rw [← this]
    congr 1
    unfold Addr.add
    split <;> split <;> simp_all <;> omega
theorem update_zero : UpdC [] := by
  intro v n ok okp A m c f x nx w hm hmc hp hjn hv hn hr he
  cases hm
  have HN := Lib.hid hn
  clear hn hr he hp hjn hv
  go_enter Tryz.func212, Tryz.ntmps212
  go_wp2_with fail
  refine bodyPost_ret (v := .tuple #[nx, .nilIface]) (by simp [results, Tryz.results212, go_sem]) rfl ?_
  exact ⟨_, _, rfl, Below.refl _ _, .inr ⟨_, rfl, rfl, HN.out⟩⟩
theorem update_str (s : ByteArray) (p : List J) (IH : UpdC p) : UpdC (.str s :: p) := by
  intro v n ok okp A m c f x nx w hm hmc hp hjn hv hn hr he
  obtain ⟨m', rfl⟩ : ∃ m', m = m' + 1 := ⟨p.length, by rw [← hm]; rfl⟩
  have hm' : p.length = m' := by simpa using hm
  have hp' : ∀ k, k ∈ p → StepOK k := fun k hk => hp k (List.mem_cons_of_mem _ hk)
  have hf0 : f 0 = .iface 9 (.string s) := by
    have := he 0 _ rfl
    generalize f 0 = y at this
    cases this
    rfl
  have he' : ∀ (i : Nat) (k : J), p[i]? = some k → Jr w okp k (f (i + 1)) := fun i k hk => he (i + 1) k (by simpa using hk)
  have hr1 := hr
  obtain ⟨ad, rfl, hao, hcell⟩ := hr (by omega)
  have hc : w.cell? ad = some (f 0) := hcell 0 0 (f 0) (by omega) rfl
  rw [hf0] at hc
  obtain ⟨A', hsl, hr'⟩ := row_tail hmc hr1
  cases v with
  | null =>
    obtain _ | _ := hv
    have HU := Lib.hid (updateObject_nil p IH s n okp A' m' (c - 1) (fun i => f (i + 1)) nx w hm' (by omega) hp' hn hr' he')
    clear hm hm' hp hp' hjn hn hr hr1 hr' he he' hcell hao IH hf0
    go_enter Tryz.func212, Tryz.ntmps212
    go_wp2_with fail
    refine HU.out.mono ?_
    rintro e' w2 ⟨y, z, rfl, hb2, hres⟩
    have HR := Lib.hid hres
    clear hres
    go_wp2_with fail
    refine bodyPost_ret (v := .tuple #[y, z]) (by simp [results, Tryz.results212, go_sem]) rfl ?_
    exact ⟨_, _, rfl, hb2, HR.out⟩
  | obj ks vs =>
    obtain ⟨b, hx⟩ : ∃ mo, x = .iface 85 mo := by cases hv; exact ⟨_, rfl⟩
    subst hx
    have HU := Lib.hid (updateObject_some p IH s n ks vs b ok okp A' m' (c - 1) (fun i => f (i + 1)) nx w hm' (by omega) hp' hjn hv hn hr' he')
    clear hm hm' hp hp' hjn hn hr hr1 hr' he he' hcell hao IH hf0 hv
    go_enter Tryz.func212, Tryz.ntmps212
    go_wp2_with fail
    refine HU.out.mono ?_
    rintro e' w2 ⟨y, z, rfl, hb2, hres⟩
    have HR := Lib.hid hres
    clear hres
    go_wp2_with fail
    refine bodyPost_ret (v := .tuple #[y, z]) (by simp [results, Tryz.results212, go_sem]) rfl ?_
    exact ⟨_, _, rfl, hb2, HR.out⟩
  | _ =>
    cases hv
    clear hm hm' hp hp' hjn hn hr hr1 hr' he he' hcell hao IH hf0
    go_enter Tryz.func212, Tryz.ntmps212
    go_wp2_with fail
    refine bodyPost_ret (v := .tuple #[.nilIface, .iface 169 (.pointer (some ⟨w.heap.size, 0, none⟩))]) (by simp [results, Tryz.results212, go_sem]) rfl ?_
    exact ⟨_, _, rfl, (Below.refl _ _).alloc (Nat.le_refl _) _, .inl ⟨rfl, rfl, _, _, rfl, fun W => err_169 _ W⟩⟩
theorem update_int (i : Nat) (hi : i ≤ 1000) (p : List J) (IH : UpdC p) : UpdC (.int i :: p) := by
  intro v n ok okp A m c f x nx w hm hmc hp hjn hv hn hr he
  obtain ⟨m', rfl⟩ : ∃ m', m = m' + 1 := ⟨p.length, by rw [← hm]; rfl⟩
  have hm' : p.length = m' := by simpa using hm
  have hp' : ∀ k, k ∈ p → StepOK k := fun k hk => hp k (List.mem_cons_of_mem _ hk)
  have hf0 : f 0 = .iface 3 (.int .i64 i) := by
    have := he 0 _ rfl
    generalize f 0 = y at this
    cases this
    rfl
  have he' : ∀ (i : Nat) (k : J), p[i]? = some k → Jr w okp k (f (i + 1)) := fun i k hk => he (i + 1) k (by simpa using hk)
  have hr1 := hr
  obtain ⟨ad, rfl, hao, hcell⟩ := hr (by omega)
  have hc : w.cell? ad = some (f 0) := hcell 0 0 (f 0) (by omega) rfl
  rw [hf0] at hc
  obtain ⟨A', hsl, hr'⟩ := row_tail hmc hr1
  have HTI := Lib.hid (fun W => toInt_any (i : Int) W)
  cases v with
  | null =>
    obtain _ | _ := hv
    have hu := updateArrayIndex_any p IH i hi n [] 0 rfl none 0 (fun _ => .nilIface) ok okp A' m' (c - 1) (fun i => f (i + 1)) nx w hm' (by omega) hp' (fun j h => by simp at h) (by omega) (fun h => by omega) (fun i j h => by simp at h) hn hr' he'
    have HU := Lib.hid hu
    clear hm hm' hp hp' hjn hn hr hr1 hr' he he' hcell hao IH hf0 hu hi
    go_enter Tryz.func212, Tryz.ntmps212
    go_wp2_with (go_at_call 162; refine (HTI.out _).mono ?_; rintro e' w' ⟨rfl, hw⟩; replace hw := hw.symm; subst hw)
    refine HU.out.mono ?_
    rintro e' w2 ⟨y, z, rfl, hb2, hres⟩
    have HR := Lib.hid hres
    clear hres
    go_wp2_with fail
    refine bodyPost_ret (v := .tuple #[y, z]) (by simp [results, Tryz.results212, go_sem]) rfl ?_
    exact ⟨_, _, rfl, hb2, HR.out⟩
  | arr l =>
    have hjl := jn_arr_elim hjn
    obtain _ | _ | _ | _ | _ | ⟨_, A0, c0, f0, hc0, hk0, r0, e0⟩ := hv
    have hu := updateArrayIndex_any p IH i hi n l l.length rfl A0 c0 f0 ok okp A' m' (c - 1) (fun i => f (i + 1)) nx w hm' (by omega) hp' hjl ⟨hc0, hk0⟩ r0 e0 hn hr' he'
    have HU := Lib.hid hu
    generalize l.length = L at HU
    clear hm hm' hp hp' hjn hn hr hr1 hr' he he' hcell hao IH hf0 hu hi hjl hc0 hk0 r0 e0
    go_enter Tryz.func212, Tryz.ntmps212
    go_wp2_with (go_at_call 162; refine (HTI.out _).mono ?_; rintro e' w' ⟨rfl, hw⟩; replace hw := hw.symm; subst hw)
    refine HU.out.mono ?_
    rintro e' w2 ⟨y, z, rfl, hb2, hres⟩
    have HR := Lib.hid hres
    clear hres
    go_wp2_with fail
    refine bodyPost_ret (v := .tuple #[y, z]) (by simp [results, Tryz.results212, go_sem]) rfl ?_
    exact ⟨_, _, rfl, hb2, HR.out⟩
  | _ =>
    cases hv
    clear hm hm' hp hp' hjn hn hr hr1 hr' he he' hcell hao IH hf0 hi
    go_enter Tryz.func212, Tryz.ntmps212
    go_wp2_with (go_at_call 162; refine (HTI.out _).mono ?_; rintro e' w' ⟨rfl, hw⟩; replace hw := hw.symm; subst hw)
    refine bodyPost_ret (v := .tuple #[.nilIface, .iface 176 (.pointer (some ⟨w.heap.size, 0, none⟩))]) (by simp [results, Tryz.results212, go_sem]) rfl ?_
    exact ⟨_, _, rfl, (Below.refl _ _).alloc (Nat.le_refl _) _, .inl ⟨rfl, rfl, _, _, rfl, fun W => err_176 _ W⟩⟩
theorem update_any : ∀ p : List J, (∀ k, k ∈ p → StepOK k) → UpdC p
  | [], _ => update_zero
  | k :: p, h => by
    have IH := update_any p fun k hk => h k (List.mem_cons_of_mem _ hk)
    rcases h k List.mem_cons_self with ⟨s, rfl, _⟩ | ⟨i, rfl, hi⟩
    · exact update_str s p IH
    · exact update_int i hi p IH
end Go.Proofs.YtpamlgdcnmcedaaGreatDoor

set_option linter.unusedVariables false
set_option linter.unusedSimpArgs false
set_option maxRecDepth 100000
namespace Go.Proofs.YtpamlgdcnmcedaaGreatDoor
open Go Go.RowKit
theorem err_241 (v : Value) (w : World) : (Instr.typeAssert (.iface 241 v) 20 89 true).run Tryz.prog w = .ok (.tuple #[.iface 241 v, .bool true]) w := by kernel_rfl
def OptPost (r : Option J) (w : World) (e : Ending) (w' : World) : Prop := ∃ x, e = .returned x ∧ Below w.heap.size w w' ∧ ((r = none ∧ IsErr x) ∨ ∃ j, r = some j ∧ Jr w' (fun _ => True) j x)
theorem setpath_any (v : J) (p : List J) (n : J) (ok okp : Nat → Prop) (x px nx : Value) (w : World) (hp : ∀ k, k ∈ p → StepOK k) (hjn : JN v) (hv : Jk w ok v x) (hpx : Jr w okp (.arr p) px) (hn : Jr w (fun _ => True) n nx) :
    Calls Tryz.prog 171 #[x, px, nx, .map none] w (OptPost (setJ p v n) w) := by
  obtain _ | _ | _ | _ | _ | ⟨_, A, c, f, hc, hr, he⟩ := hpx
  have HC := Lib.hid (update_any p hp v n ok okp A p.length c f x nx w rfl hc hp hjn hv hn hr he)
  generalize p.length = m at HC
  have hxf := hv.form
  have hnf := hn.form
  clear hr he hc hn hv hjn hp
  go_enter Tryz.func171, Tryz.ntmps171
  go_wp2_with fail
  refine HC.out.mono ?_
  rintro e' w2 ⟨y, z, rfl, hb2, hres⟩
  rcases hres with ⟨hr, rfl, t, ev, rfl, herr⟩ | ⟨j, hr, rfl, hj⟩
  · have HR := Lib.hid hr
    clear hr herr
    rcases hxf with rfl | ⟨tx, vx, rfl⟩ <;> rcases hnf with rfl | ⟨tn, vn, rfl⟩
    all_goals
     go_wp2_with fail
     go_ret
     rw [HR.out]
     exact ⟨_, rfl, hb2.trans (((Below.refl _ _).alloc (Nat.le_refl _) _).mono hb2.size), .inl ⟨rfl, _, _, rfl, fun W => err_241 _ W⟩⟩
  · have HR := Lib.hid hr
    have HJ := Lib.hid hj
    clear hr hj hxf hnf
    go_wp2_with fail
    go_ret
    rw [HR.out]
    exact ⟨_, rfl, hb2, .inr ⟨_, rfl, HJ.out⟩⟩
theorem zzSetPath_any (v : J) (p : List J) (n : J) (ok okp : Nat → Prop) (x px nx : Value) (w : World) (hp : ∀ k, k ∈ p → StepOK k) (hjn : JN v) (hv : Jk w ok v x) (hpx : Jr w okp (.arr p) px) (hn : Jr w (fun _ => True) n nx) :
    Calls Tryz.prog 66 #[x, px, nx] w (OptPost (setJ p v n) w) := by
  have H : Calls Tryz.prog 117 #[x, px, nx] w (OptPost (setJ p v n) w) := by
    have H := Lib.hid (setpath_any v p n ok okp x px nx w hp hjn hv hpx hn)
    clear hp hjn hv hpx hn
    go_enter Tryz.func117, Tryz.ntmps117
    go_wp2_with fail
    refine H.out.mono ?_
    rintro e' w' ⟨u, rfl, hb, hr⟩
    have HR := Lib.hid hr
    clear hr
    go_wp2_with fail
    go_ret
    exact ⟨_, rfl, hb, HR.out⟩
  have H := Lib.hid H
  clear hp hjn hv hpx hn
  go_enter Tryz.func66, Tryz.ntmps66
  go_wp2_with fail
  refine H.out.mono ?_
  rintro e' w' ⟨u, rfl, hb, hr⟩
  have HR := Lib.hid hr
  clear hr
  go_wp2_with fail
  go_ret
  exact ⟨_, rfl, hb, HR.out⟩
theorem jr_err {w : World} {ok : Nat → Prop} {j : J} {x : Value} (h : Jr w ok j x) (W : World) : (Instr.typeAssert x 20 89 true).run Tryz.prog W = .ok (.tuple #[.nilIface, .bool false]) W := by
  cases h with
  | null => exact err_nil W
  | bool b => exact err_4 _ W
  | int n => exact err_3 _ W
  | hf h => exact err_82 _ W
  | str s => exact err_9 _ W
  | arr _ _ _ _ _ _ _ => exact err_62 _ W
  | obj _ _ _ _ _ _ _ _ _ _ _ _ _ _ _ => exact err_85 _ W
/-- One step of a path. -/
theorem step_any (u k u' : J) (okp : Nat → Prop) (y kx : Value) (w : World) (hk : StepOK k) (hjn : JN u) (ha : atK u k = some u') (hu : Jr w (fun _ => True) u y) (hkx : Jr w okp k kx) :
    (y = .nilIface ∨ (∃ v, y = .iface 62 v) ∨ ∃ v, y = .iface 85 v) ∧ JN u' ∧ Calls Tryz.prog 114 #[.nilIface, y, kx] w fun e w' => ∃ x, e = .returned x ∧ Below w.heap.size w w' ∧ Jr w' (fun _ => True) u' x := by
  have key : ∀ r, r = some u' → Calls Tryz.prog 114 #[.nilIface, y, kx] w (IndexPost r w) → Calls Tryz.prog 114 #[.nilIface, y, kx] w fun e w' => ∃ x, e = .returned x ∧ Below w.heap.size w w' ∧ Jr w' (fun _ => True) u' x := fun r hr h => by
    refine h.mono ?_
    rintro e w' ⟨x, rfl, hb, h⟩
    rcases h with ⟨h1, _⟩ | ⟨j, h1, h2⟩
    · rw [hr] at h1; cases h1
    · rw [hr] at h1; cases h1
      exact ⟨x, rfl, hb, h2.keep hb⟩
  rcases hk with ⟨s, rfl, hs⟩ | ⟨i, rfl, hi⟩
  · cases hkx
    refine ⟨?_, ?_, key _ ha (index2_str u s y _ w hu)⟩
    · cases u with
      | null => cases hu; exact .inl rfl
      | obj ks vs => cases hu; exact .inr (.inr ⟨_, rfl⟩)
      | _ => simp [atK, atS] at ha
    · cases u with
      | null => simp [atK, atS] at ha; rw [← ha]; exact jn_null
      | obj ks vs =>
        simp only [atK, atS, Option.some.injEq] at ha
        rw [← ha]
        exact jn_look (jn_obj_elim hjn).2.2.2.2 s
      | _ => simp [atK, atS] at ha
  · cases hkx
    refine ⟨?_, ?_, key _ ha (index2_int u i (by omega) (fun s e => ?_) (fun l e => ?_) y _ w hu)⟩
    · cases u with
      | null => cases hu; exact .inl rfl
      | arr l => cases hu; exact .inr (.inl ⟨_, rfl⟩)
      | _ => simp [atK, atI] at ha
    · cases u with
      | null => simp [atK, atI] at ha; rw [← ha]; exact jn_null
      | arr l =>
        simp only [atK, atI, Option.some.injEq] at ha
        rw [← ha, idxJ_natU]
        exact jn_getD (jn_arr_elim hjn) i
      | _ => simp [atK, atI] at ha
    · subst e; simp [atK, atI] at ha
    · subst e
      have := jn_len hjn
      omega
theorem getpath_any (p : List J) (v r : J) (ok okp : Nat → Prop) (x px : Value) (w : World) (hp : ∀ k, k ∈ p → StepOK k) (hjn : JN v) (hv : Jr w ok v x) (hpx : Jr w okp (.arr p) px) (hl : p.length ≤ 1000000) (hg : getJ p v = some r) :
    Calls Tryz.prog 118 #[x, px] w (OptPost (some r) w) := by
  have hvt := hv.mono (ok' := fun _ => True) fun _ _ => trivial
  obtain _ | _ | _ | _ | _ | ⟨_, A, c, f, hc, hr, he⟩ := hpx
  obtain ⟨m, hm⟩ : ∃ m, p.length = m := ⟨_, rfl⟩
  rw [hm] at hc hr hl ⊢
  have HM := Lib.hid hm
  have HP := Lib.hid hp
  have HE := Lib.hid he
  have HR := Lib.hid hr
  have HG := Lib.hid hg
  have HV := Lib.hid hvt
  have HN := Lib.hid hjn
  clear hm hp he hr hg hv hvt hjn
  go_enter Tryz.func118, Tryz.ntmps118
  go_wp2_with fail
  go_loopw [0, 27] (fun y i wr => ∃ (k : Nat) (u : J), k ≤ m ∧ i = .int .i64 k ∧ Below w.heap.size w wr ∧ Jr wr (fun _ => True) u y ∧ JN u ∧ getJ (p.drop k) u = some r) (fun _ i _ => m - (intOf i).toNat)
  case atStart => exact ⟨0, v, Nat.zero_le _, rfl, Below.refl _ _, HV.out, HN.out, HG.out⟩
  case round =>
    obtain ⟨k, u, hk, rfl, hb, hu, hjn, hg⟩ := hrel
    by_cases hlt : k < m
    · have hpl : k < p.length := by have := HM.out; omega
      have hget : p[k]? = some p[k] := List.getElem?_eq_getElem hpl
      rw [List.drop_eq_getElem_cons hpl, getJ] at hg
      obtain ⟨u', ha, hg'⟩ := Option.bind_eq_some_iff.1 hg
      obtain ⟨ad, rfl, hao, hcell⟩ := HR.out (by omega)
      have hc0 := cell_kept hb (hcell k 0 (f k) hlt rfl)
      simp only [Nat.mul_one, Nat.add_zero] at hc0
      obtain ⟨hy, hju, hcall⟩ := step_any u p[k] u' okp _ (f k) wr (HP.out _ (List.getElem_mem hpl)) hjn ha hu ((HE.out k _ hget).keep hb)
      have HC := Lib.hid hcall
      have HJ := Lib.hid hju
      have HG' := Lib.hid hg'
      clear hcall hju hg' ha hg hjn hu hget hcell hao
      rcases hy with rfl | ⟨yv, rfl⟩ | ⟨yv, rfl⟩
      all_goals
        go_wp2_with fail
        refine HC.out.mono ?_
        rintro e' w2 ⟨x2, rfl, hb2, hx2⟩
        have hxe := jr_err hx2
        have HX := Lib.hid hx2
        clear hx2
        go_wp2_with fail
        refine ⟨⟨k + 1, u', by omega, by simp, below_trans hb hb2, HX.out, HJ.out, HG'.out⟩, ?_⟩
        simp [intOf]
        omega
    · have hkm : k = m := by omega
      subst hkm
      have hur : u = r := by
        rw [List.drop_eq_nil_of_le (by have := HM.out; omega), getJ] at hg
        injection hg
      have HU := Lib.hid hu
      have HUR := Lib.hid hur
      clear hu hur hg hjn hlt
      go_wp2_with fail
      go_ret
      exact ⟨_, rfl, hb, .inr ⟨_, rfl, HUR.out ▸ HU.out⟩⟩
theorem zzGetPath_any (p : List J) (v r : J) (ok okp : Nat → Prop) (x px : Value) (w : World) (hp : ∀ k, k ∈ p → StepOK k) (hjn : JN v) (hv : Jr w ok v x) (hpx : Jr w okp (.arr p) px) (hl : p.length ≤ 1000000) (hg : getJ p v = some r) :
    Calls Tryz.prog 67 #[x, px] w (OptPost (some r) w) := by
  have H := Lib.hid (getpath_any p v r ok okp x px w hp hjn hv hpx hl hg)
  clear hp hjn hv hpx hl hg
  go_enter Tryz.func67, Tryz.ntmps67
  go_wp2_with fail
  refine H.out.mono ?_
  rintro e' w' ⟨u, rfl, hb, hr⟩
  have HR := Lib.hid hr
  clear hr
  go_wp2_with fail
  go_ret
  exact ⟨_, rfl, hb, HR.out⟩
end Go.Proofs.YtpamlgdcnmcedaaGreatDoor
