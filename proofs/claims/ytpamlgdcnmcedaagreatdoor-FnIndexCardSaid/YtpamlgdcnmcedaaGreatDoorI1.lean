/- gojq.funcIndex2 at a string and at an integer: clampIndex, index; what stands at a key. -/
import Derived.Test.YtpamlgdcnmcedaaGreatDoorZ1
set_option linter.unusedVariables false
set_option linter.unusedSimpArgs false
set_option maxRecDepth 100000
namespace Go.Proofs.YtpamlgdcnmcedaaGreatDoor
open Go Go.RowKit
def fromEnd (i mx : Int) : Int := if i < 0 then i + mx else i
def clampZ (i mn mx : Int) : Int := if fromEnd i mx < mn then mn else if fromEnd i mx < mx then fromEnd i mx else mx
theorem clamp_any (i mn mx : Int) (hi : -4611686018427387904 ≤ i ∧ i ≤ 4611686018427387904) (hm : 0 ≤ mx ∧ mx ≤ 140737488351232) (w : World) :
    Calls Tryz.prog 206 #[.int .i64 i, .int .i64 mn, .int .i64 mx] w fun e w' => e = .returned (.int .i64 (clampZ i mn mx)) ∧ w' = w := by
  obtain ⟨c, hc⟩ : ∃ c, c = clampZ i mn mx := ⟨_, rfl⟩
  rw [← hc]
  unfold clampZ fromEnd at hc
  by_cases h1 : i < 0
  · rw [if_pos h1] at hc
    by_cases h2 : i + mx < mn
    · rw [if_pos h2] at hc
      subst hc
      go_enter Tryz.func206, Tryz.ntmps206
      go_wp2_with fail
      go_ret
      exact ⟨rfl, rfl⟩
    · rw [if_neg h2] at hc
      by_cases h3 : i + mx < mx
      · rw [if_pos h3] at hc
        subst hc
        go_enter Tryz.func206, Tryz.ntmps206
        go_wp2_with fail
        go_ret
        exact ⟨rfl, rfl⟩
      · omega
  · rw [if_neg h1] at hc
    by_cases h2 : i < mn
    · rw [if_pos h2] at hc
      subst hc
      go_enter Tryz.func206, Tryz.ntmps206
      go_wp2_with fail
      go_ret
      exact ⟨rfl, rfl⟩
    · rw [if_neg h2] at hc
      by_cases h3 : i < mx
      · rw [if_pos h3] at hc
        subst hc
        go_enter Tryz.func206, Tryz.ntmps206
        go_wp2_with fail
        go_ret
        exact ⟨rfl, rfl⟩
      · rw [if_neg h3] at hc
        subst hc
        go_enter Tryz.func206, Tryz.ntmps206
        go_wp2_with fail
        go_ret
        exact ⟨rfl, rfl⟩
/-- The element at an index, from the end on below 0; null beyond. -/
def idxJ (l : List J) (n : Int) : J := if 0 ≤ fromEnd n l.length ∧ fromEnd n l.length < l.length then l.getD (fromEnd n l.length).toNat .null else .null
theorem index_any (l : List J) (m : Nat) (hm : l.length = m) (A : Option Addr) (c : Nat) (f : Nat → Value) (n : Int) (ok : Nat → Prop) (w : World) (hn : -4611686018427387904 ≤ n ∧ n ≤ 4611686018427387904) (hmax : m ≤ 140737488351232)
    (r : RowAt w ok 1 A m fun i => [f i]) (e : ∀ (i : Nat) (j : J), l[i]? = some j → Jr w ok j (f i)) :
    Calls Tryz.prog 163 #[.slice A m c, .int .i64 n] w fun e w' => ∃ x, e = .returned x ∧ Jr w ok (idxJ l n) x ∧ w' = w := by
  have hc := clamp_any n (-1) m hn (by omega) w
  obtain ⟨p, hp⟩ : ∃ p, p = clampZ n (-1) m := ⟨_, rfl⟩
  rw [← hp] at hc
  have HC := Lib.hid hc
  by_cases hin : 0 ≤ p ∧ p < m
  · obtain ⟨q, rfl⟩ : ∃ q : Nat, p = q := ⟨p.toNat, by omega⟩
    have hfe : fromEnd n m = q := by
      unfold clampZ at hp
      split at hp
      · omega
      · split at hp
        · exact hp.symm
        · omega
    have hq : q < m := by omega
    obtain ⟨j, hj⟩ := at_lt (l := l) (p := q) (by omega)
    have hres : idxJ l n = j := by
      unfold idxJ
      rw [hm, hfe, if_pos (by omega)]
      simp [List.getD_eq_getElem?_getD, hj]
    obtain ⟨ad, hA, _, hcell⟩ := r (by omega)
    subst hA
    have hx : w.cell? (ad.add q) = some (f q) := by
      have := hcell q 0 (f q) hq rfl
      simpa using this
    have HJ := Lib.hid (e q j hj)
    have HR := Lib.hid hres
    have i0 : (0 : Int) ≤ (q : Int) := Int.natCast_nonneg _
    have i1 : (q : Int) < (m : Int) := by omega
    generalize f q = u at hx HJ
    clear hp hfe hres hj hm hcell e r hc hin
    go_enter Tryz.func163, Tryz.ntmps163
    go_wp2_with fail
    refine HC.out.mono ?_
    rintro e' w' ⟨rfl, rfl⟩
    go_wp2_with fail
    go_ret
    exact ⟨_, rfl, by rw [HR.out]; exact HJ.out, rfl⟩
  · have hres : idxJ l n = .null := by
      unfold idxJ
      rw [hm]
      refine if_neg fun h => hin ?_
      have h2 := h.2
      unfold clampZ at hp
      rw [if_neg (by omega), if_pos h2] at hp
      omega
    have HR := Lib.hid hres
    have hp2 : p < 0 ∨ p = m := by
      unfold clampZ at hp
      split at hp
      · omega
      · split at hp
        · omega
        · exact .inr hp
    clear hp hres hm e r hc hin
    rcases hp2 with h0 | rfl
    · go_enter Tryz.func163, Tryz.ntmps163
      go_wp2_with fail
      refine HC.out.mono ?_
      rintro e' w' ⟨rfl, rfl⟩
      go_wp2_with fail
      go_ret
      exact ⟨_, rfl, by rw [HR.out]; exact .null, rfl⟩
    · go_enter Tryz.func163, Tryz.ntmps163
      go_wp2_with fail
      refine HC.out.mono ?_
      rintro e' w' ⟨rfl, rfl⟩
      go_wp2_with fail
      go_ret
      exact ⟨_, rfl, by rw [HR.out]; exact .null, rfl⟩
/-! ### Keys of objects. -/
def lookO : List ByteArray → List J → ByteArray → Option J
  | k :: ks, v :: vs, s => if s = k then some v else lookO ks vs s
  | _, _, _ => none
theorem lookO_some : ∀ (ks : List ByteArray) (vs : List J) (s : ByteArray) (j : J), lookO ks vs s = some j → ∃ i : Nat, ks[i]? = some s ∧ vs[i]? = some j
  | [], _, _, _, h => by simp [lookO] at h
  | _ :: _, [], _, _, h => by simp [lookO] at h
  | k :: ks, v :: vs, s, j, h => by
    rw [lookO] at h
    split at h
    · rename_i e
      exact ⟨0, by simp [e], by simpa using h⟩
    · obtain ⟨i, h1, h2⟩ := lookO_some ks vs s j h
      exact ⟨i + 1, by simpa using h1, by simpa using h2⟩
theorem lookO_none : ∀ (ks : List ByteArray) (vs : List J) (s : ByteArray), ks.length = vs.length → lookO ks vs s = none → s ∉ ks
  | [], _, _, _, _ => by simp
  | _ :: _, [], _, hl, _ => by simp at hl
  | k :: ks, v :: vs, s, hl, h => by
    rw [lookO] at h
    split at h
    · cases h
    · rename_i e
      have := lookO_none ks vs s (by simpa using hl) h
      simp [e, this]
theorem getS_none : ∀ {es : List MapEntry} {s : ByteArray}, (∀ e, e ∈ es → e.key ≠ .string s) → getS es s = none
  | [], _, _ => rfl
  | e :: es, s, h => by
    have h0 := h e List.mem_cons_self
    have hr := getS_none (es := es) (s := s) fun e' h' => h e' (List.mem_cons_of_mem _ h')
    unfold getS
    split
    · rename_i s' hs
      rw [if_neg (fun he => h0 (by rw [he, hs]))]
      exact hr
    · exact hr
/-- 'm[k]' of an object in memory. -/
theorem jr_lookup {w : World} {ok : Nat → Prop} {ks : List ByteArray} {vs : List J} {x : Value} (h : Jr w ok (.obj ks vs) x) (s : ByteArray) :
    ∃ b y, x = .iface 85 (.map (some b)) ∧ (∀ W, W.heap[b]? = w.heap[b]? → (Instr.lookup 85 (.map (some b)) (.string s) false).run Tryz.prog W = .ok y W) ∧ Jr w ok ((lookO ks vs s).getD .null) y := by
  cases h with
  | obj _ _ b es clock f ho hb hn hv hnd he hg hst e =>
    have hall : AllS es.toList := fun e hee => by
      obtain ⟨s, h1, _⟩ := he e hee
      exact ⟨s, h1⟩
    refine ⟨b, (getS es.toList s).getD .nilIface, rfl, fun W hW => run_lookup_S (hW.trans hb) hall s, ?_⟩
    cases hl : lookO ks vs s with
    | none =>
      have hno := lookO_none ks vs s hv.symm hl
      rw [getS_none fun e hee hk => by
        obtain ⟨s', h1, h2⟩ := he e hee
        rw [h1] at hk
        injection hk with hk
        exact hno (hk ▸ h2)]
      exact .null
    | some j =>
      obtain ⟨i, h1, h2⟩ := lookO_some ks vs s j hl
      rw [hg i s h1]
      exact e i j h2
/-! ### funcIndex2 at a string, at an integer. -/
theorem toInt_any (n : Int) (w : World) : Calls Tryz.prog 162 #[.iface 3 (.int .i64 n)] w fun e w' => e = .returned (.tuple #[.int .i64 n, .bool true]) ∧ w' = w := by
  go_enter Tryz.func162, Tryz.ntmps162
  go_wp2_with fail
  go_ret2
  exact ⟨rfl, rfl⟩
def atS : J → ByteArray → Option J
  | .null, _ => some .null
  | .obj ks vs, s => some ((lookO ks vs s).getD .null)
  | _, _ => none
def atI : J → Int → Option J
  | .null, _ => some .null
  | .arr l, n => some (idxJ l n)
  | _, _ => none
def IndexPost (r : Option J) (w : World) (e : Ending) (w' : World) : Prop := ∃ x, e = .returned x ∧ Below w.heap.size w w' ∧ ((r = none ∧ IsErr x) ∨ ∃ j, r = some j ∧ Jr w (fun _ => True) j x)
theorem index2_str (v : J) (s : ByteArray) (x : Value) (ok : Nat → Prop) (w : World) (h : Jr w ok v x) : Calls Tryz.prog 114 #[.nilIface, x, .iface 9 (.string s)] w (IndexPost (atS v s) w) := by
  cases v with
  | null =>
    obtain _ | _ := h
    go_enter Tryz.func114, Tryz.ntmps114
    go_wp2_with fail
    go_ret
    exact ⟨_, rfl, Below.refl _ _, .inr ⟨_, rfl, .null⟩⟩
  | obj ks vs =>
    obtain ⟨b, y, rfl, hrun, hy⟩ := jr_lookup h s
    have hrun' := fun W hW => hrun W hW
    have h1 := hrun w rfl
    have HY := Lib.hid hy
    clear h hrun hrun' hy
    go_enter Tryz.func114, Tryz.ntmps114
    go_wp2_with fail
    go_ret
    exact ⟨_, rfl, Below.refl _ _, .inr ⟨_, rfl, HY.out.mono fun _ _ => trivial⟩⟩
  | _ =>
    cases h
    go_enter Tryz.func114, Tryz.ntmps114
    go_wp2_with fail
    go_ret
    exact ⟨_, rfl, (Below.refl _ _).alloc (Nat.le_refl _) _, .inl ⟨rfl, _, _, rfl, fun W => by first | exact err_138 _ W | exact err_162 _ W | exact err_169 _ W | exact err_176 _ W | exact err_178 _ W | exact err_181 _ W | exact err_183 _ W | exact err_185 _ W | exact err_193 _ W | exact err_196 _ W⟩⟩
end Go.Proofs.YtpamlgdcnmcedaaGreatDoor
