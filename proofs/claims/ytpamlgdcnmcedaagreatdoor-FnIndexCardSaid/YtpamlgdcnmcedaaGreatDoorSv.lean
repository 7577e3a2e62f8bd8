/- spec.Fit, laws.fits. -/
import Derived.Test.YtpamlgdcnmcedaaGreatDoorLv
import Derived.Test.YtpamlgdcnmcedaaGreatDoorS1
set_option linter.unusedVariables false
set_option linter.unusedSimpArgs false
set_option maxRecDepth 100000
namespace Go.Proofs.YtpamlgdcnmcedaaGreatDoor
open Go Go.RowKit
def FitPost (v : V) (w : World) (e : Ending) (w' : World) : Prop := Below w.heap.size w w' ∧ ∃ r, e = .returned (.bool r) ∧ (r = true → WF v ∧ v.parts ≤ 400 ∧ (Lib.validD v.text.data.toList = true ∧ v.text.size ≤ 2000))
theorem fit_any (v : V) (ok : Nat → Prop) (cs : List Value) (w : World) (hv : Vr w ok v cs) (hT : Lib.Utf8Tabs 0 1 w) : Calls Tryz.prog 15 #[.agg cs.toArray] w (FitPost v w) := by
  have HV := Lib.hid hv
  have HT := Lib.hid hT
  obtain ⟨k, h, t, l, ks, vs, A1, c1, A2, c2, A3, c3, f, g, ht, h1, h2, h3, b1, b2, b3, hk', hh', hs', r1, e1, r2, r3, e3⟩ := hv
  obtain ⟨W2, hW2⟩ : ∃ W2, W2 = (w.alloc (.cells #[.int .i64 k, .int .i64 h, .string t, .slice A1 l.length c1, .slice A2 ks.length c2, .slice A3 vs.length c3] 26)).alloc (.cells #[.int .i64 0, .int .i64 0, .bool false] 65) := ⟨_, rfl⟩
  have hB : Below w.heap.size w W2 := by rw [hW2]; exact ((Below.refl _ _).alloc (Nat.le_refl _) _).alloc (by simp) _
  have hS : W2.heap.size = w.heap.size + 2 := by rw [hW2]; simp
  have hL : Looks W2 (w.heap.size + 1) 0 0 false := by
    unfold Looks
    rw [hW2]
    have := heap_alloc_new (w.alloc (.cells #[.int .i64 k, .int .i64 h, .string t, .slice A1 l.length c1, .slice A2 ks.length c2, .slice A3 vs.length c3] 26)) (.cells #[.int .i64 0, .int .i64 0, .bool false] 65)
    simpa using this
  have HC := Lib.hid (value_any (V.mk k h t l ks vs) _ _ (w.heap.size + 1) 0 0 false 0 W2 (HV.out.bound.keep hB) (fun x hx => by omega) hL (by omega) (by omega) (by omega) (fun w' hw' => Utf8Tabs_below HT.out (hB.trans (grown_below hw' hB.size (fun k hk => by injection hk with hk; omega)))))
  have HW2 := Lib.hid hW2
  have HB := Lib.hid hB
  clear hW2 hB hL hT r1 e1 r2 r3 e3 hs'
  go_enter Tryz.func15, Tryz.ntmps15
  go_wp2_with fail
  rw [← HW2.out]
  refine HC.out.mono ?_
  rintro e' w3 ⟨rfl, hg, p', q', b', hl, hp0, hp1, hq0, himp⟩
  have zb := looks_bad hl
  have HG := Lib.hid (HB.out.trans (grown_below hg HB.out.size (fun k hk => by injection hk with hk; omega)))
  have HI := Lib.hid himp
  clear hg hl himp
  go_wp2_with fail
  go_ret
  exact ⟨HG.out, _, rfl, fun hr => by
    have hb : b' = false := by cases b' <;> simp at hr ⊢
    obtain ⟨_, h2, h3, h4, _, h6⟩ := HI.out hb
    exact ⟨h2, by omega, h6⟩⟩
def FitsPost (l : List V) (w : World) (e : Ending) (w' : World) : Prop := Below w.heap.size w w' ∧ ∃ r, e = .returned (.bool r) ∧ (r = true → ∀ v, v ∈ l → WF v ∧ v.parts ≤ 400 ∧ (Lib.validD v.text.data.toList = true ∧ v.text.size ≤ 2000))
theorem fits_any (l : List V) (m : Nat) (hm : l.length = m) (ok : Nat → Prop) (A : Option Addr) (c : Nat) (f : Nat → List Value) (w : World) (hr : RowAt w ok 6 A m f) (he : ∀ (i : Nat) (v : V), l[i]? = some v → Vr w ok v (f i)) (bm : m ≤ 140737488351232) (hT : Lib.Utf8Tabs 0 1 w) :
    Calls Tryz.prog 11 #[.slice A m c] w (FitsPost l w) := by
  have HM := Lib.hid hm
  have HT := Lib.hid hT
  clear hm hT
  go_enter Tryz.func11, Tryz.ntmps11
  go_wp2_with fail
  go_loopw [7] (fun i wr => ∃ k : Nat, k ≤ m ∧ i = .int .i64 k ∧ Below w.heap.size w wr ∧ ∀ v, v ∈ l.take k → WF v ∧ v.parts ≤ 400 ∧ (Lib.validD v.text.data.toList = true ∧ v.text.size ≤ 2000)) (fun i _ => m - (intOf i).toNat)
  case atStart => exact ⟨0, Nat.zero_le _, rfl, Below.refl _ _, by simp⟩
  case round =>
    obtain ⟨k, hk, rfl, hb, hall⟩ := hrel
    have HALL := Lib.hid hall
    clear hall
    by_cases hlt : k < m
    · obtain ⟨x, hx⟩ := at_lt (l := l) (p := k) (by rw [HM.out]; exact hlt)
      have hV := he k x hx
      obtain ⟨ad, hA, _, hc0⟩ := hr (by omega)
      subst hA
      have hc := fun j u hu => cell_kept hb (hc0 k j u hlt hu)
      have hV := Vr.keep hb hV
      generalize f k = fc at hV hc
      have HV := Lib.hid hV
      have HX := Lib.hid hx
      clear hc0 hx
      obtain ⟨k', h', t', l', ks', vs', B1, d1, B2, d2, B3, d3, f1, g1, ht', h1', h2', h3', b1', b2', b3', hk'', hh'', hs'', q1, e1', q2, q3, e3'⟩ := hV
      obtain ⟨z0, z1, z2, z3, z4, z5⟩ := cells6 hc
      clear hc q1 e1' q2 q3 e3' hs''
      go_wp2_with fail
      refine (fit_any _ _ _ _ (Vr.keep ((Below.refl _ _).alloc (Nat.le_refl _) _) HV.out) (Utf8Tabs_below HT.out (below_trans hb ((Below.refl _ _).alloc (Nat.le_refl _) _)))).mono ?_
      rintro e' w' ⟨hb', r, rfl, hr'⟩
      have HBN := Lib.hid (below_trans hb (below_trans ((Below.refl wr.heap.size wr).alloc (Nat.le_refl _) _) hb'))
      have HR := Lib.hid hr'
      clear z0 z1 z2 z3 z4 z5 hb' hr'
      cases r
      · go_wp2_with fail
        go_ret
        exact ⟨HBN.out, _, rfl, fun h => by cases h⟩
      · have hnext : ∀ v, v ∈ l.take (k + 1) → WF v ∧ v.parts ≤ 400 ∧ (Lib.validD v.text.data.toList = true ∧ v.text.size ≤ 2000) := fun v hv => by
          rw [List.take_add_one, HX.out] at hv
          rcases List.mem_append.1 hv with hv | hv
          · exact HALL.out v hv
          · simp at hv; rw [hv]; exact HR.out rfl
        have HNX := Lib.hid hnext
        clear hnext
        go_wp2_with fail
        go_roundw
        case rel => exact ⟨k + 1, by omega, by go_num, HBN.out, HNX.out⟩
        case measure => simp [intOf]; omega
    · have hkm : k = m := by omega
      subst hkm
      have hfin := HALL.out
      rw [List.take_of_length_le (by rw [HM.out]; exact Nat.le_refl _)] at hfin
      have HF := Lib.hid hfin
      clear hfin
      go_wp2_with fail
      go_ret
      exact ⟨hb, _, rfl, fun _ => HF.out⟩
end Go.Proofs.YtpamlgdcnmcedaaGreatDoor
