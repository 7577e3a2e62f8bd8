/- spec.looker.value. -/
import Derived.Test.YtpamlgdcnmcedaaGreatDoorL1
import Derived.Test.YtpamlgdcnmcedaaGreatDoorP1
import Derived.Deep.RegionHeld3
import Derived.StillTailTactics
set_option linter.unusedVariables false
set_option linter.unusedSimpArgs false
set_option maxRecDepth 100000
namespace Go.Proofs.YtpamlgdcnmcedaaGreatDoor
open Go Go.RowKit
def ValuePost (g : Nat) (v : V) (p : Int) (b : Bool) (w : World) (e : Ending) (w' : World) : Prop :=
  e = .returned (.tuple #[]) ∧ w.grownBy w' (some g) ∧ ∃ p' q' b', Looks w' g p' q' b' ∧ 0 ≤ p' ∧ p' ≤ 401 ∧ 0 ≤ q' ∧ (b' = false → b = false ∧ WF v ∧ p' = p + v.parts ∧ p' ≤ 400 ∧ q' ≤ 2000 ∧ (Lib.validD v.text.data.toList = true ∧ v.text.size ≤ 2000))
def ValueIH (n : Nat) : Prop := ∀ v ok cs g p q b d w, SizeOf.sizeOf v < n → Vr w ok v cs → (∀ x, ok x → x ≠ g) → Looks w g p q b → 0 ≤ p ∧ p ≤ 400 → 0 ≤ q ∧ q ≤ 300000000000000 → 0 ≤ d ∧ d ≤ 61 → (∀ w', w.grownBy w' (some g) → Lib.Utf8Tabs 0 1 w') →
  Calls Tryz.prog 50 #[.pointer (some ⟨g, 0, none⟩), .agg cs.toArray, .int .i64 d] w (ValuePost g v p b w)
/-- What looker.value asks of a value's own fields. -/
def Shape (k h : Int) (t : ByteArray) (nl nk nv : Nat) : Prop := (0 ≤ k ∧ k ≤ 6) ∧ (k = 3 ∨ h = 0) ∧ (k = 4 ∨ t = ⟨#[]⟩) ∧ (k = 5 ∨ nl = 0) ∧ (k = 6 ∨ nk = 0) ∧ nk = nv
theorem empty_of {t : ByteArray} (h : t.toList = []) : t = ⟨#[]⟩ := by
  rw [ByteArray.toList_eq] at h
  rcases t with ⟨⟨t⟩⟩
  simpa using h
theorem add_pos (ad : Addr) (n : Nat) (h : 0 < n) : ad.add n = ⟨ad.block, ad.off + n, none⟩ := by
  unfold Addr.add
  rw [if_neg (by omega)]
theorem partsL_take {l : List V} {k : Nat} {v : V} (h : l[k]? = some v) : V.partsL (l.take (k + 1)) = V.partsL (l.take k) + v.parts := by
  have app : ∀ a b : List V, V.partsL (a ++ b) = V.partsL a + V.partsL b := by
    intro a b
    induction a with
    | nil => simp [V.partsL]
    | cons x a ih => rw [List.cons_append, V.partsL, V.partsL, ih]; omega
  rw [List.take_add_one, h, app]
  simp [V.partsL]
set_option maxHeartbeats 16000000 in
theorem value_step (n : Nat) (ih : ValueIH n) : ValueIH (n + 1) := by
  intro v ok cs g p q b d w hn hv hok hl hp hq hd hT
  have HV := Lib.hid hv
  have HT := Lib.hid hT
  have HL := Lib.hid hl
  have HOK := Lib.hid hok
  obtain ⟨k, h, t, l, ks, vs, A1, c1, A2, c2, A3, c3, f, g', ht, h1, h2, h3, b1, b2, b3, hk', hh', hs', r1, e1, r2, r3, e3⟩ := hv
  have HNL := Lib.hid (show ∀ v, v ∈ l → SizeOf.sizeOf v < n from fun v hv => by have := sizeOf_lt_list (k := k) (h := h) (t := t) (ks := ks) (vs := vs) hv; omega)
  have HNV := Lib.hid (show ∀ v, v ∈ vs → SizeOf.sizeOf v < n from fun v hv => by have := sizeOf_lt_vals (k := k) (h := h) (t := t) (l := l) (ks := ks) hv; omega)
  obtain ⟨nl, hnl⟩ : ∃ nl, nl = l.length := ⟨_, rfl⟩
  obtain ⟨nk, hnk⟩ : ∃ nk, nk = ks.length := ⟨_, rfl⟩
  obtain ⟨nv, hnv⟩ : ∃ nv, nv = vs.length := ⟨_, rfl⟩
  rw [← hnl] at h1 b1 r1
  rw [← hnk] at h2 b2 r2
  rw [← hnv] at h3 b3 r3
  have HNN := Lib.hid (show nl = l.length ∧ nk = ks.length ∧ nv = vs.length from ⟨hnl, hnk, hnv⟩)
  have R1 := Lib.hid r1
  have R2 := Lib.hid r2
  have R3 := Lib.hid r3
  have E1 := Lib.hid e1
  have E3 := Lib.hid e3
  have HS := Lib.hid hs'
  clear hT hl hok hn r1 r2 r3 e1 e3 hs'
  obtain ⟨W1, hW1⟩ : ∃ W1, W1 = w.alloc (.cells #[.int .i64 k, .int .i64 h, .string t, .slice A1 nl c1, .slice A2 nk c2, .slice A3 nv c3] 26) := ⟨_, rfl⟩
  have hb1 : Below w.heap.size w W1 := by rw [hW1]; exact (Below.refl _ _).alloc (Nat.le_refl _) _
  have hl1 : Looks W1 g p q b := (hb1.block _ (Array.getElem?_eq_some_iff.1 HL.out).1).trans HL.out
  have hc1 : W1.heap[w.heap.size]? = some (.cells #[.int .i64 k, .int .i64 h, .string t, .slice A1 nl c1, .slice A2 nk c2, .slice A3 nv c3] 26) := by rw [hW1]; exact heap_alloc_new w _
  have hg1 : w.grownBy W1 (some g) := ⟨hb1.os, hb1.tape, hb1.output, hb1.size, fun k hk _ => hb1.block k hk⟩
  have hgw : g < w.heap.size := (Array.getElem?_eq_some_iff.1 HL.out).1
  have HW1 := Lib.hid hW1
  have HL1 := Lib.hid hl1
  have HC1 := Lib.hid hc1
  have HG1 := Lib.hid hg1
  clear hW1 hl1 hc1 hg1
  rw [hnl, hnk, hnv] at HW1
  go_enter Tryz.func50, Tryz.ntmps50
  go_wp2_with fail
  rw [← HW1.out]
  rw [← hnl, ← hnk, ← hnv] at HW1
  clear hnl hnk hnv
  refine (part_any g p q d b W1 HL1.out (by omega)).mono ?_
  rintro e' w2 ⟨rfl, hk2, hg2⟩
  have hwx : ∀ wx, w2.grownBy wx (some g) → wx.heap[w.heap.size]? = some (.cells #[.int .i64 k, .int .i64 h, .string t, .slice A1 nl c1, .slice A2 nk c2, .slice A3 nv c3] 26) := fun wx hgx =>
    ((grown_trans hg2 hgx).block _ (Array.getElem?_eq_some_iff.1 HC1.out).1 (fun e => by injection e with e; omega)).trans HC1.out
  have hc2 := hwx w2 ⟨rfl, rfl, rfl, Nat.le_refl _, fun _ _ _ => rfl⟩
  have z0 : w2.cell? ⟨w.heap.size, 0, none⟩ = some (.int .i64 k) := by simp [World.cell?, hc2]
  have z1 : w2.cell? ⟨w.heap.size, 1, none⟩ = some (.int .i64 h) := by simp [World.cell?, hc2]
  have z2 : w2.cell? ⟨w.heap.size, 2, none⟩ = some (.string t) := by simp [World.cell?, hc2]
  have z3 : w2.cell? ⟨w.heap.size, 3, none⟩ = some (.slice A1 nl c1) := by simp [World.cell?, hc2]
  have z4 : w2.cell? ⟨w.heap.size, 4, none⟩ = some (.slice A2 nk c2) := by simp [World.cell?, hc2]
  have z5 : w2.cell? ⟨w.heap.size, 5, none⟩ = some (.slice A3 nv c3) := by simp [World.cell?, hc2]
  have hg02 := grown_trans HG1.out hg2
  have HWX := Lib.hid hwx
  have HG2 := Lib.hid hg02
  clear hc2 hg02 hg2 hwx
  obtain ⟨B, hB⟩ : ∃ B, B = (b || !(decide (p + 1 ≤ 400) && decide (q ≤ 2000) && decide (d ≤ 60))) := ⟨_, rfl⟩
  rw [← hB] at hk2 ⊢
  have HK2 := Lib.hid hk2
  have HB := Lib.hid hB
  clear hk2 hB
  cases B with
  | true =>
    go_wp2_with fail
    go_end0
    refine ⟨rfl, HG2.out, p + 1, q, true, HK2.out, by omega, by omega, by omega, fun h => by cases h⟩
  | false =>
    have hbb : b = false ∧ p + 1 ≤ 400 ∧ q ≤ 2000 ∧ d ≤ 60 := by
      have := HB.out.symm
      simp only [Bool.or_eq_false_iff, Bool.not_eq_false', Bool.and_eq_true, decide_eq_true_eq] at this
      exact ⟨this.1, this.2.1.1, this.2.1.2, this.2.2⟩
    obtain ⟨rfl, hp1, hq1, hd1⟩ := hbb
    have HSH := Lib.hid (show ∀ c : Bool, Calls Tryz.prog 96 #[.pointer (some ⟨g, 0, none⟩), .bool c] w2 fun e w' => e = .returned (.tuple #[]) ∧ Looks w' g (p + 1) q (!c) ∧ w2.grownBy w' (some g) from fun c => by
      have := want_any g (p + 1) q false c w2 HK2.out
      simpa using this)
    go_upto_region 2 with fail
    go_cut [] from 12 to 72 (fun wx => w2.grownBy wx (some g) ∧ ∃ b1, Looks wx g (p + 1) q b1 ∧ (b1 = false → Shape k h t nl nk nv))
    case first =>
      by_cases c1' : 0 ≤ k
      · by_cases c2' : k ≤ 6
        · by_cases k3 : k = 3
          · subst k3
            by_cases q1 : t = ⟨#[]⟩
            · subst q1
              by_cases q2 : nl = 0
              · subst q2
                by_cases q3 : nk = 0
                · subst q3
                  go_wp2_with fail
                  refine (HSH.out (0 == (nv : Int))).mono ?_
                  rintro e' w3 ⟨rfl, hl3, hg3⟩
                  go_wp2_with fail
                  go_meet
                  exact ⟨hg3, _, hl3, fun hb => ⟨by omega, by omega, by first | exact .inl rfl | exact .inr rfl, by omega, by omega, by
                    simp only [Bool.not_eq_false', beq_iff_eq] at hb
                    show 0 = nv
                    omega⟩⟩
                · go_wp2_with fail
                  refine (HSH.out false).mono ?_
                  rintro e' w3 ⟨rfl, hl3, hg3⟩
                  go_wp2_with fail
                  go_meet
                  exact ⟨hg3, true, hl3, fun h => by cases h⟩
              · go_wp2_with fail
                refine (HSH.out false).mono ?_
                rintro e' w3 ⟨rfl, hl3, hg3⟩
                go_wp2_with fail
                go_meet
                exact ⟨hg3, true, hl3, fun h => by cases h⟩
            · have q1' : ¬ t.toList = [] := fun h => q1 (empty_of h)
              go_wp2_with fail
              refine (HSH.out false).mono ?_
              rintro e' w3 ⟨rfl, hl3, hg3⟩
              go_wp2_with fail
              go_meet
              exact ⟨hg3, true, hl3, fun h => by cases h⟩
          by_cases k4 : k = 4
          · subst k4
            by_cases q0 : h = 0
            · subst q0
              by_cases q2 : nl = 0
              · subst q2
                by_cases q3 : nk = 0
                · subst q3
                  go_wp2_with fail
                  refine (HSH.out (0 == (nv : Int))).mono ?_
                  rintro e' w3 ⟨rfl, hl3, hg3⟩
                  go_wp2_with fail
                  go_meet
                  exact ⟨hg3, _, hl3, fun hb => ⟨by omega, by omega, by first | exact .inl rfl | exact .inr rfl, by omega, by omega, by
                    simp only [Bool.not_eq_false', beq_iff_eq] at hb
                    show 0 = nv
                    omega⟩⟩
                · go_wp2_with fail
                  refine (HSH.out false).mono ?_
                  rintro e' w3 ⟨rfl, hl3, hg3⟩
                  go_wp2_with fail
                  go_meet
                  exact ⟨hg3, true, hl3, fun h => by cases h⟩
              · go_wp2_with fail
                refine (HSH.out false).mono ?_
                rintro e' w3 ⟨rfl, hl3, hg3⟩
                go_wp2_with fail
                go_meet
                exact ⟨hg3, true, hl3, fun h => by cases h⟩
            · go_wp2_with fail
              refine (HSH.out false).mono ?_
              rintro e' w3 ⟨rfl, hl3, hg3⟩
              go_wp2_with fail
              go_meet
              exact ⟨hg3, true, hl3, fun h => by cases h⟩
          by_cases k5 : k = 5
          · subst k5
            by_cases q0 : h = 0
            · subst q0
              by_cases q1 : t = ⟨#[]⟩
              · subst q1
                by_cases q3 : nk = 0
                · subst q3
                  go_wp2_with fail
                  refine (HSH.out (0 == (nv : Int))).mono ?_
                  rintro e' w3 ⟨rfl, hl3, hg3⟩
                  go_wp2_with fail
                  go_meet
                  exact ⟨hg3, _, hl3, fun hb => ⟨by omega, by omega, by first | exact .inl rfl | exact .inr rfl, by omega, by omega, by
                    simp only [Bool.not_eq_false', beq_iff_eq] at hb
                    show 0 = nv
                    omega⟩⟩
                · go_wp2_with fail
                  refine (HSH.out false).mono ?_
                  rintro e' w3 ⟨rfl, hl3, hg3⟩
                  go_wp2_with fail
                  go_meet
                  exact ⟨hg3, true, hl3, fun h => by cases h⟩
              · have q1' : ¬ t.toList = [] := fun h => q1 (empty_of h)
                go_wp2_with fail
                refine (HSH.out false).mono ?_
                rintro e' w3 ⟨rfl, hl3, hg3⟩
                go_wp2_with fail
                go_meet
                exact ⟨hg3, true, hl3, fun h => by cases h⟩
            · go_wp2_with fail
              refine (HSH.out false).mono ?_
              rintro e' w3 ⟨rfl, hl3, hg3⟩
              go_wp2_with fail
              go_meet
              exact ⟨hg3, true, hl3, fun h => by cases h⟩
          by_cases k6 : k = 6
          · subst k6
            by_cases q0 : h = 0
            · subst q0
              by_cases q1 : t = ⟨#[]⟩
              · subst q1
                by_cases q2 : nl = 0
                · subst q2
                  go_wp2_with fail
                  refine (HSH.out ((nk : Int) == (nv : Int))).mono ?_
                  rintro e' w3 ⟨rfl, hl3, hg3⟩
                  go_wp2_with fail
                  go_meet
                  exact ⟨hg3, _, hl3, fun hb => ⟨by omega, by omega, by first | exact .inl rfl | exact .inr rfl, by omega, by omega, by
                    simp only [Bool.not_eq_false', beq_iff_eq] at hb
                    show nk = nv
                    omega⟩⟩
                · go_wp2_with fail
                  refine (HSH.out false).mono ?_
                  rintro e' w3 ⟨rfl, hl3, hg3⟩
                  go_wp2_with fail
                  go_meet
                  exact ⟨hg3, true, hl3, fun h => by cases h⟩
              · have q1' : ¬ t.toList = [] := fun h => q1 (empty_of h)
                go_wp2_with fail
                refine (HSH.out false).mono ?_
                rintro e' w3 ⟨rfl, hl3, hg3⟩
                go_wp2_with fail
                go_meet
                exact ⟨hg3, true, hl3, fun h => by cases h⟩
            · go_wp2_with fail
              refine (HSH.out false).mono ?_
              rintro e' w3 ⟨rfl, hl3, hg3⟩
              go_wp2_with fail
              go_meet
              exact ⟨hg3, true, hl3, fun h => by cases h⟩
          by_cases q0 : h = 0
          · subst q0
            by_cases q1 : t = ⟨#[]⟩
            · subst q1
              by_cases q2 : nl = 0
              · subst q2
                by_cases q3 : nk = 0
                · subst q3
                  go_wp2_with fail
                  refine (HSH.out (0 == (nv : Int))).mono ?_
                  rintro e' w3 ⟨rfl, hl3, hg3⟩
                  go_wp2_with fail
                  go_meet
                  exact ⟨hg3, _, hl3, fun hb => ⟨by omega, by omega, by first | exact .inl rfl | exact .inr rfl, by omega, by omega, by
                    simp only [Bool.not_eq_false', beq_iff_eq] at hb
                    show 0 = nv
                    omega⟩⟩
                · go_wp2_with fail
                  refine (HSH.out false).mono ?_
                  rintro e' w3 ⟨rfl, hl3, hg3⟩
                  go_wp2_with fail
                  go_meet
                  exact ⟨hg3, true, hl3, fun h => by cases h⟩
              · go_wp2_with fail
                refine (HSH.out false).mono ?_
                rintro e' w3 ⟨rfl, hl3, hg3⟩
                go_wp2_with fail
                go_meet
                exact ⟨hg3, true, hl3, fun h => by cases h⟩
            · have q1' : ¬ t.toList = [] := fun h => q1 (empty_of h)
              go_wp2_with fail
              refine (HSH.out false).mono ?_
              rintro e' w3 ⟨rfl, hl3, hg3⟩
              go_wp2_with fail
              go_meet
              exact ⟨hg3, true, hl3, fun h => by cases h⟩
          · go_wp2_with fail
            refine (HSH.out false).mono ?_
            rintro e' w3 ⟨rfl, hl3, hg3⟩
            go_wp2_with fail
            go_meet
            exact ⟨hg3, true, hl3, fun h => by cases h⟩
        · go_wp2_with fail
          refine (HSH.out false).mono ?_
          rintro e' w3 ⟨rfl, hl3, hg3⟩
          go_wp2_with fail
          go_meet
          exact ⟨hg3, true, hl3, fun h => by cases h⟩
      · go_wp2_with fail
        refine (HSH.out false).mono ?_
        rintro e' w3 ⟨rfl, hl3, hg3⟩
        go_wp2_with fail
        go_meet
        exact ⟨hg3, true, hl3, fun h => by cases h⟩
    case rest =>
      obtain ⟨hg3, b1', hl3, hs3⟩ := hcut
      have hc3 := HWX.out wc hg3
      have z1 : wc.cell? ⟨w.heap.size, 1, none⟩ = some (.int .i64 h) := by simp [World.cell?, hc3]
      have z2 : wc.cell? ⟨w.heap.size, 2, none⟩ = some (.string t) := by simp [World.cell?, hc3]
      have HG3 := Lib.hid hg3
      have HL3 := Lib.hid hl3
      have HS3 := Lib.hid hs3
      have HSH3 := Lib.hid (show ∀ c : Bool, Calls Tryz.prog 96 #[.pointer (some ⟨g, 0, none⟩), .bool c] wc fun e w' => e = .returned (.tuple #[]) ∧ Looks w' g (p + 1) q (b1' || !c) ∧ wc.grownBy w' (some g) from fun c => want_any g (p + 1) q b1' c wc HL3.out)
      clear hc3 hg3 hl3 hs3 z0 z3 z4 z5
      go_upto_region 3 with fail
      go_cut [] from 73 to 98 (fun wx => wc.grownBy wx (some g) ∧ ∃ b2, Looks wx g (p + 1) q b2 ∧ (b2 = false → b1' = false ∧ (-18014398509481984 ≤ h ∧ h ≤ 18014398509481984) ∧ (h.tmod 2 = 0 ∨ (-9007199254740992 < h ∧ h < 9007199254740992))))
      case first =>
        have bad : ∀ wx, Looks wx g (p + 1) q (b1' || !false) → wc.grownBy wx (some g) → wc.grownBy wx (some g) ∧ ∃ b2, Looks wx g (p + 1) q b2 ∧ (b2 = false → b1' = false ∧ (-18014398509481984 ≤ h ∧ h ≤ 18014398509481984) ∧ (h.tmod 2 = 0 ∨ (-9007199254740992 < h ∧ h < 9007199254740992))) := fun wx h1 h2 => ⟨h2, _, h1, fun h => by cases b1' <;> cases h⟩
        have BAD := Lib.hid bad
        clear bad
        by_cases a1 : -18014398509481984 ≤ h
        · by_cases a2 : h ≤ 18014398509481984
          · by_cases a3 : h.tmod 2 = 0
            · go_wp2_with fail
              refine (HSH3.out true).mono ?_
              rintro e' w4 ⟨rfl, hl4, hg4⟩
              go_wp2_with fail
              go_meet
              exact ⟨hg4, b1', by simpa using hl4, fun h => ⟨h, ⟨a1, a2⟩, .inl a3⟩⟩
            · have a3b : (h.tmod 2 == 0) = false := by simpa using a3
              by_cases a4 : -9007199254740992 < h
              · by_cases a5 : h < 9007199254740992
                · go_wp2_with fail
                  refine (HSH3.out true).mono ?_
                  rintro e' w4 ⟨rfl, hl4, hg4⟩
                  go_wp2_with fail
                  go_meet
                  exact ⟨hg4, b1', by simpa using hl4, fun h => ⟨h, ⟨a1, a2⟩, .inr ⟨a4, a5⟩⟩⟩
                · have a3c : ¬ h % 2 = 0 := by rw [← Int.tmod_eq_emod_of_nonneg (show 0 ≤ h by omega)]; exact a3
                  have a3e : (h % 2 == 0) = false := by simpa using a3c
                  go_wp2_with fail
                  refine (HSH3.out false).mono ?_
                  rintro e' w4 ⟨rfl, hl4, hg4⟩
                  go_wp2_with fail
                  go_meet
                  exact BAD.out _ hl4 hg4
              · go_wp2_with fail
                refine (HSH3.out false).mono ?_
                rintro e' w4 ⟨rfl, hl4, hg4⟩
                go_wp2_with fail
                go_meet
                exact BAD.out _ hl4 hg4
          · go_wp2_with fail
            refine (HSH3.out false).mono ?_
            rintro e' w4 ⟨rfl, hl4, hg4⟩
            go_wp2_with fail
            go_meet
            exact BAD.out _ hl4 hg4
        · go_wp2_with fail
          refine (HSH3.out false).mono ?_
          rintro e' w4 ⟨rfl, hl4, hg4⟩
          go_wp2_with fail
          go_meet
          exact BAD.out _ hl4 hg4
      case rest =>
        obtain ⟨hg4, b2', hl4, hs4⟩ := hcut
        have hgq := grown_trans HG3.out hg4
        have hc4 := HWX.out _ hgq
        have z2 : wc.cell? ⟨w.heap.size, 2, none⟩ = some (.string t) := by simp [World.cell?, hc4]
        have HG4 := Lib.hid hgq
        have HL4 := Lib.hid hl4
        have HS4 := Lib.hid hs4
        clear hc4 hg4 hl4 hs4 hgq z1
        go_wp2_with fail
        refine (str_any g (p + 1) q b2' t _ HL4.out (by omega) (by omega) (fun w' hw' => HT.out _ (grown_trans HG2.out (grown_trans HG4.out hw')))).mono ?_
        rintro e' w5 ⟨rfl, hl5, hg5⟩
        obtain ⟨b3', hb3'⟩ : ∃ b3', b3' = (b2' || !(decide (q + t.size ≤ 2000) && Lib.validD t.data.toList)) := ⟨_, rfl⟩
        rw [← hb3'] at hl5
        have HB3 := Lib.hid (show b3' = false → b2' = false ∧ q + t.size ≤ 2000 from fun h => by
          rw [hb3'] at h
          simp only [Bool.or_eq_false_iff, Bool.not_eq_false', Bool.and_eq_true, decide_eq_true_eq] at h
          exact ⟨h.1, h.2.1⟩)
        have HVT := Lib.hid (show b3' = false → Lib.validD t.data.toList = true ∧ t.size ≤ 2000 from fun h => by
          rw [hb3'] at h
          simp only [Bool.or_eq_false_iff, Bool.not_eq_false', Bool.and_eq_true, decide_eq_true_eq] at h
          exact ⟨h.2.2, by have := h.2.1; omega⟩)
        have HG5 := Lib.hid (grown_trans HG4.out hg5)
        have HL5 := Lib.hid hl5
        clear hb3' hl5 hg5 z2
        obtain ⟨q3, hq3⟩ : ∃ q3 : Int, q3 = q + t.size := ⟨_, rfl⟩
        rw [← hq3] at HL5 HB3
        have hq30 : 0 ≤ q3 := by omega
        have HQ3 := Lib.hid hq3
        clear hq3
        go_wp2_with fail
        go_loopw [6] (fun i wr => ∃ k : Nat, k ≤ nl ∧ i = .int .i64 k ∧ w2.grownBy wr (some g) ∧ ∃ p' q' b', Looks wr g p' q' b' ∧ (0 ≤ p' ∧ p' ≤ 401) ∧ 0 ≤ q' ∧ (b' = false → b3' = false ∧ (∀ v, v ∈ l.take k → WF v) ∧ p' = p + 1 + V.partsL (l.take k) ∧ p' ≤ 400 ∧ q' ≤ 2000)) (fun i _ => nl - (intOf i).toNat)
        case atStart => exact ⟨0, Nat.zero_le _, rfl, HG5.out, p + 1, q3, b3', HL5.out, by omega, hq30, fun h => ⟨h, by simp, by simp [V.partsL], hp1, (HB3.out h).2⟩⟩
        case round =>
          obtain ⟨i, hi, rfl, hgr, p', q', b', hlr, hpr, hqr, hir⟩ := hrel
          have hcr := HWX.out _ hgr
          have z3 : wr.cell? ⟨w.heap.size, 3, none⟩ = some (.slice A1 nl c1) := by simp [World.cell?, hcr]
          have zb := looks_bad hlr
          have HGR := Lib.hid hgr
          have HLR := Lib.hid hlr
          have HIR := Lib.hid hir
          clear hcr hgr hlr hir
          have i0 : (0 : Int) ≤ (i : Int) := Int.natCast_nonneg _
          go_upto_region 6 with fail
          go_cut [114] from 103 to 125 (fun c wx => c = .bool (decide (i < nl) && !b') ∧ wx = wr)
          case first =>
            by_cases hlt : i < nl
            · have i1 : (i : Int) < (nl : Int) := by omega
              have e1 : decide (i < nl) = true := decide_eq_true hlt
              cases b'
              · go_wp2_with fail
                go_meet
                exact ⟨by rw [e1]; rfl, rfl⟩
              · go_wp2_with fail
                go_meet
                exact ⟨by rw [e1]; rfl, rfl⟩
            · have i1 : ¬ (i : Int) < (nl : Int) := by omega
              have e1 : decide (i < nl) = false := decide_eq_false hlt
              go_wp2_with fail
              go_meet
              exact ⟨by rw [e1]; rfl, rfl⟩
          case rest =>
            obtain ⟨rfl, rfl⟩ := hcut
            obtain ⟨C, hC⟩ : ∃ C, C = (decide (i < nl) && !b') := ⟨_, rfl⟩
            rw [← hC]
            have HC := Lib.hid hC
            clear hC
            cases C
            · have HE := Lib.hid (show b' = false → b3' = false ∧ (∀ v, v ∈ l → WF v) ∧ p' = p + 1 + V.partsL l ∧ p' ≤ 400 ∧ q' ≤ 2000 from fun h => by
                have hc := HC.out
                rw [h, Bool.not_false, Bool.and_true] at hc
                have hin : ¬ i < nl := of_decide_eq_false hc.symm
                have h2 := HIR.out h
                rw [List.take_of_length_le (by rw [← HNN.out.1]; omega)] at h2
                exact h2)
              have HGX := Lib.hid HGR.out
              have HLX := Lib.hid HLR.out
              obtain ⟨P1, hP1⟩ : ∃ P1, P1 = p' := ⟨_, rfl⟩
              clear z3 zb
              go_wp2_with fail
              go_loopw [7] (fun i wr => ∃ k : Nat, k ≤ nk ∧ i = .int .i64 k ∧ w2.grownBy wr (some g) ∧ ∃ p' q' b', Looks wr g p' q' b' ∧ (0 ≤ p' ∧ p' ≤ 401) ∧ 0 ≤ q' ∧ (b' = false → b3' = false ∧ (∀ v, v ∈ l → WF v) ∧ (∀ v, v ∈ vs.take k → WF v) ∧ (∀ (j : Nat) (a b : ByteArray), j + 1 < k → ks[j]? = some a → ks[j + 1]? = some b → Op.bytesLess a.toList b.toList = true) ∧ p' = p + 1 + V.partsL l + V.partsL (vs.take k) ∧ p' ≤ 400 ∧ q' ≤ 2000)) (fun i _ => nk - (intOf i).toNat)
              case atStart => exact ⟨0, Nat.zero_le _, rfl, HGX.out, p', q', b', HLX.out, hpr, hqr, fun h => by
                obtain ⟨e1, e2, e3, e4, e5⟩ := HE.out h
                exact ⟨e1, e2, by simp, fun j a b hj => by omega, by simp [V.partsL]; exact e3, e4, e5⟩⟩
              case round =>
                obtain ⟨i2, hi2, rfl, hgr, p2, q2, c2', hlr, hpr2, hqr2, hir⟩ := hrel
                have hcr := HWX.out _ hgr
                have z4 : wr.cell? ⟨w.heap.size, 4, none⟩ = some (.slice A2 nk c2) := by simp [World.cell?, hcr]
                have z5 : wr.cell? ⟨w.heap.size, 5, none⟩ = some (.slice A3 nv c3) := by simp [World.cell?, hcr]
                have zb := looks_bad hlr
                have HGR2 := Lib.hid hgr
                have HLR2 := Lib.hid hlr
                have HIR2 := Lib.hid hir
                clear hcr hgr hlr hir
                have i0' : (0 : Int) ≤ (i2 : Int) := Int.natCast_nonneg _
                go_upto_region 10 with fail
                go_cut [137] from 126 to 173 (fun c wx => c = .bool (decide (i2 < nk) && !c2') ∧ wx = wr)
                case first =>
                  by_cases hlt : i2 < nk
                  · have i1 : (i2 : Int) < (nk : Int) := by omega
                    have e1 : decide (i2 < nk) = true := decide_eq_true hlt
                    cases c2'
                    · go_wp2_with fail
                      go_meet
                      exact ⟨by rw [e1]; rfl, rfl⟩
                    · go_wp2_with fail
                      go_meet
                      exact ⟨by rw [e1]; rfl, rfl⟩
                  · have i1 : ¬ (i2 : Int) < (nk : Int) := by omega
                    have e1 : decide (i2 < nk) = false := decide_eq_false hlt
                    go_wp2_with fail
                    go_meet
                    exact ⟨by rw [e1]; rfl, rfl⟩
                case rest =>
                  obtain ⟨rfl, rfl⟩ := hcut
                  obtain ⟨C2, hC2⟩ : ∃ C2, C2 = (decide (i2 < nk) && !c2') := ⟨_, rfl⟩
                  rw [← hC2]
                  have HC2 := Lib.hid hC2
                  clear hC2
                  cases C2
                  · clear z4 z5 zb
                    go_wp2_with fail
                    go_end0
                    refine ⟨rfl, grown_trans HG2.out HGR2.out, p2, q2, c2', HLR2.out, hpr2.1, hpr2.2, hqr2, fun hfin => ?_⟩
                    have hc := HC2.out
                    rw [hfin, Bool.not_false, Bool.and_true] at hc
                    have hin : ¬ i2 < nk := of_decide_eq_false hc.symm
                    obtain ⟨f1, f2, f3, f4, f5, f6, f7⟩ := HIR2.out hfin
                    obtain ⟨g1, g2⟩ := HB3.out f1
                    obtain ⟨g3, g4, g5⟩ := HS4.out g1
                    obtain ⟨s1, s2, s3, s4, s5, s6⟩ := HS3.out g3
                    obtain ⟨n1, n2, n3⟩ := HNN.out
                    have hnv : vs.take i2 = vs := List.take_of_length_le (by omega)
                    rw [hnv] at f3 f5
                    refine ⟨rfl, .mk k h t l ks vs s1 s2 s3 (s4.imp id fun e => List.eq_nil_of_length_eq_zero (by omega)) (s5.imp id fun e => List.eq_nil_of_length_eq_zero (by omega)) (by omega) g4 g5 (fun j a b ha hb => f4 j a b ?_ ha hb) f2 f3, ?_, f6, f7, HVT.out f1⟩
                    · have := (List.getElem?_eq_some_iff.1 hb).1; omega
                    · rw [V.parts, f5]; omega
                  · have hc := HC2.out.symm
                    simp only [Bool.and_eq_true, decide_eq_true_eq, Bool.not_eq_true'] at hc
                    obtain ⟨hlt, rfl⟩ := hc
                    obtain ⟨f1, f2, f3, f4, f5, f6, f7⟩ := HIR2.out rfl
                    obtain ⟨g1, g2⟩ := HB3.out f1
                    obtain ⟨g3, g4, g5⟩ := HS4.out g1
                    obtain ⟨s1, s2, s3, s4, s5, s6⟩ := HS3.out g3
                    obtain ⟨s, hs⟩ := at_lt (l := ks) (p := i2) (by rw [← HNN.out.2.1]; exact hlt)
                    obtain ⟨x, hx⟩ := at_lt (l := vs) (p := i2) (by rw [← HNN.out.2.2]; omega)
                    have hgw2 := grown_trans HG2.out HGR2.out
                    obtain ⟨ad2, hA2, hok2, hk0⟩ := R2.out (by omega)
                    obtain ⟨ad3, hA3, hok3, hc0⟩ := R3.out (by omega)
                    subst hA2 hA3
                    have HF := Lib.hid (And.intro f1 (And.intro f2 (And.intro f3 (And.intro f4 (And.intro f5 (And.intro f6 f7))))))
                    have HGW2 := Lib.hid hgw2
                    have HKS := Lib.hid hs
                    have HVS := Lib.hid hx
                    have HSZ := Lib.hid (HS.out i2 s hs)
                    have hkey : ∀ (wz : World), w.grownBy wz (some g) → ∀ (j : Nat) (a : ByteArray), ks[j]? = some a → j < nk → wz.cell? (ad2.add j) = some (.string a) := fun wz hz j a ha hj => by
                      have h0 := hk0 j 0 (.string a) hj (by simp [strCell, List.getD_eq_getElem?_getD, ha])
                      have hbl := World.block_lt_of_cell? w _ h0
                      rw [block_add] at hbl
                      rw [Nat.mul_one, Nat.add_zero] at h0
                      rw [← h0]
                      exact cell_of_block (by rw [block_add]; exact hz.block _ hbl (fun e => HOK.out _ hok2 (by injection e)))
                    have HKEY := Lib.hid hkey
                    have k0 := hkey wc hgw2 i2 s hs hlt
                    have i1 : (i2 : Int) < (nk : Int) := by omega
                    have i1v : (i2 : Int) < (nv : Int) := by omega
                    have HC0 := Lib.hid hc0
                    clear hkey hk0 hc0 hs hx hgw2 f1 f2 f3 f4 f5 g1 g2 g3 g4 g5 s1 s2 s3 s4 s5 s6
                    go_wp2_with fail
                    refine (str_any g p2 q2 false s wc HLR2.out (by omega) HSZ.out (fun w' hw' => HT.out _ (grown_trans HGW2.out hw'))).mono ?_
                    rintro e' w6 ⟨rfl, hl6, hg6⟩
                    obtain ⟨b4, hb4⟩ : ∃ b4, b4 = (false || !(decide (q2 + s.size ≤ 2000) && Lib.validD s.data.toList)) := ⟨_, rfl⟩
                    rw [← hb4] at hl6
                    have hsz : s.size ≤ 140737488351232 := HSZ.out
                    obtain ⟨q6, hq6⟩ : ∃ q6 : Int, q6 = q2 + s.size := ⟨_, rfl⟩
                    rw [← hq6] at hl6
                    have hq60 : 0 ≤ q6 ∧ q6 ≤ 140737488353232 := by omega
                    have HL6 := Lib.hid hl6
                    have HG6 := Lib.hid hg6
                    have hgw6 := grown_trans HGW2.out hg6
                    have HGW6 := Lib.hid hgw6
                    have hgr6 := grown_trans HGR2.out hg6
                    have HGR6 := Lib.hid hgr6
                    have hc6 := HWX.out w6 hgr6
                    have z4 : w6.cell? ⟨w.heap.size, 4, none⟩ = some (.slice (some ad2) nk c2) := by simp [World.cell?, hc6]
                    clear hl6 hg6 hgw6 hgr6 hc6 hb4 hq6 hsz k0 zb z5
                    have HW6 := Lib.hid (show ∀ c : Bool, Calls Tryz.prog 96 #[.pointer (some ⟨g, 0, none⟩), .bool c] w6.drew fun e w' => e = .returned (.tuple #[]) ∧ Looks w' g p2 q6 (b4 || !c) ∧ w6.grownBy w' (some g) from fun c => (want_any g p2 q6 b4 c w6.drew HL6.out).mono fun e w' h => ⟨h.1, h.2.1, grown_trans (show w6.grownBy w6.drew (some g) from ⟨rfl, rfl, rfl, Nat.le_refl _, fun _ _ _ => rfl⟩) h.2.2⟩)
                    go_upto_region 13 with fail
                    go_cut [] from 126 to 173 (fun wx => w6.grownBy wx (some g) ∧ ∃ b5, Looks wx g p2 q6 b5 ∧ (b5 = false → b4 = false ∧ (i2 = 0 ∨ ∃ a, ks[i2 - 1]? = some a ∧ Op.bytesLess a.toList s.toList = true)))
                    case first =>
                      obtain rfl | ⟨j', rfl⟩ : i2 = 0 ∨ ∃ j', i2 = j' + 1 := by
                        cases i2 with
                        | zero => exact .inl rfl
                        | succ j => exact .inr ⟨j, rfl⟩
                      · have HKEEP := Lib.hid (show ∀ W, w6.grownBy W (some g) → W.cell? ⟨w.heap.size, 4, none⟩ = some (.slice (some ad2) nk c2) from fun W hW => by
                          have hc7 := HWX.out W (grown_trans HGR6.out hW)
                          simp [World.cell?, hc7])
                        refine wp_region_held_drew (S := fun _ => True) (by kernel_rfl) trivial (fun _ => ?_)
                        refine wpAnyH_take (i := 0) (v := .pointer (some ⟨g, 0, none⟩)) rfl (by kernel_rfl) (by kernel_rfl) (by kernel_rfl) (fun _ _ _ h => h) (Or.inl ⟨by rfl, ?_⟩) trivial ?_
                        · intro W _
                          go_simp
                        simp only [List.getElem_toArray, List.getElem_cons_zero, List.getElem_cons_succ, Act.put, List.setIfInBounds_toArray, List.set_cons_zero, List.set_cons_succ]
                        refine wpAnyH_take (i := 1) (v := .int .i64 0) rfl (by kernel_rfl) (by kernel_rfl) (by kernel_rfl) (fun _ _ _ h => h) (Or.inl ⟨by rfl, ?_⟩) trivial ?_
                        · intro W _
                          go_simp
                        simp only [List.getElem_toArray, List.getElem_cons_zero, List.getElem_cons_succ, Act.put, List.setIfInBounds_toArray, List.set_cons_zero, List.set_cons_succ]
                        refine wpAnyH_take (i := 2) (v := .bool true) rfl (by kernel_rfl) (by kernel_rfl) (by kernel_rfl) (fun _ _ _ h => h) (Or.inl ⟨by rfl, ?_⟩) trivial ?_
                        · intro W _
                          go_simp
                        simp only [List.getElem_toArray, List.getElem_cons_zero, List.getElem_cons_succ, Act.put, List.setIfInBounds_toArray, List.set_cons_zero, List.set_cons_succ]
                        refine wpAnyH_take (i := 3) (v := .bool true) rfl (by kernel_rfl) (by kernel_rfl) (by kernel_rfl) (fun _ _ _ h => h) (Or.inl ⟨by rfl, ?_⟩) trivial ?_
                        · intro W _
                          go_simp
                        simp only [List.getElem_toArray, List.getElem_cons_zero, List.getElem_cons_succ, Act.put, List.setIfInBounds_toArray, List.set_cons_zero, List.set_cons_succ]
                        refine wpAnyH_take (i := 4) (v := undef) rfl (by kernel_rfl) (by kernel_rfl) (by kernel_rfl) (fun _ _ _ h => h) (Or.inr ⟨by rfl, rfl⟩) trivial ?_
                        simp only [List.getElem_toArray, List.getElem_cons_zero, List.getElem_cons_succ, Act.put, List.setIfInBounds_toArray, List.set_cons_zero, List.set_cons_succ]
                        refine wpAnyH_take (i := 5) (v := undef) rfl (by kernel_rfl) (by kernel_rfl) (by kernel_rfl) (fun _ _ _ h => h) (Or.inr ⟨by rfl, rfl⟩) trivial ?_
                        simp only [List.getElem_toArray, List.getElem_cons_zero, List.getElem_cons_succ, Act.put, List.setIfInBounds_toArray, List.set_cons_zero, List.set_cons_succ]
                        refine wpAnyH_take (i := 6) (v := undef) rfl (by kernel_rfl) (by kernel_rfl) (by kernel_rfl) (fun _ _ _ h => h) (Or.inr ⟨by rfl, rfl⟩) trivial ?_
                        simp only [List.getElem_toArray, List.getElem_cons_zero, List.getElem_cons_succ, Act.put, List.setIfInBounds_toArray, List.set_cons_zero, List.set_cons_succ]
                        refine wpAnyH_take (i := 7) (v := undef) rfl (by kernel_rfl) (by kernel_rfl) (by kernel_rfl) (fun _ _ _ h => h) (Or.inr ⟨by rfl, rfl⟩) trivial ?_
                        simp only [List.getElem_toArray, List.getElem_cons_zero, List.getElem_cons_succ, Act.put, List.setIfInBounds_toArray, List.set_cons_zero, List.set_cons_succ]
                        refine wpAnyH_take (i := 8) (v := undef) rfl (by kernel_rfl) (by kernel_rfl) (by kernel_rfl) (fun _ _ _ h => h) (Or.inr ⟨by rfl, rfl⟩) trivial ?_
                        simp only [List.getElem_toArray, List.getElem_cons_zero, List.getElem_cons_succ, Act.put, List.setIfInBounds_toArray, List.set_cons_zero, List.set_cons_succ]
                        refine wpAnyH_take (i := 9) (v := undef) rfl (by kernel_rfl) (by kernel_rfl) (by kernel_rfl) (fun _ _ _ h => h) (Or.inr ⟨by rfl, rfl⟩) trivial ?_
                        simp only [List.getElem_toArray, List.getElem_cons_zero, List.getElem_cons_succ, Act.put, List.setIfInBounds_toArray, List.set_cons_zero, List.set_cons_succ]
                        refine wpAnyH_take (i := 10) (v := undef) rfl (by kernel_rfl) (by kernel_rfl) (by kernel_rfl) (fun _ _ _ h => h) (Or.inr ⟨by rfl, rfl⟩) trivial ?_
                        simp only [List.getElem_toArray, List.getElem_cons_zero, List.getElem_cons_succ, Act.put, List.setIfInBounds_toArray, List.set_cons_zero, List.set_cons_succ]
                        refine wpAnyH_take (i := 11) (v := undef) rfl (by kernel_rfl) (by kernel_rfl) (by kernel_rfl) (fun _ _ _ h => h) (Or.inr ⟨by rfl, rfl⟩) trivial ?_
                        simp only [List.getElem_toArray, List.getElem_cons_zero, List.getElem_cons_succ, Act.put, List.setIfInBounds_toArray, List.set_cons_zero, List.set_cons_succ]
                        refine wpAnyH_take (i := 12) (v := undef) rfl (by kernel_rfl) (by kernel_rfl) (by kernel_rfl) (fun _ _ _ h => h) (Or.inr ⟨by rfl, rfl⟩) trivial ?_
                        simp only [List.getElem_toArray, List.getElem_cons_zero, List.getElem_cons_succ, Act.put, List.setIfInBounds_toArray, List.set_cons_zero, List.set_cons_succ]
                        refine wpAnyH_take (i := 13) (v := undef) rfl (by kernel_rfl) (by kernel_rfl) (by kernel_rfl) (fun _ _ _ h => h) (Or.inr ⟨by rfl, rfl⟩) trivial ?_
                        simp only [List.getElem_toArray, List.getElem_cons_zero, List.getElem_cons_succ, Act.put, List.setIfInBounds_toArray, List.set_cons_zero, List.set_cons_succ]
                        refine wpAnyH_take (i := 14) (v := undef) rfl (by kernel_rfl) (by kernel_rfl) (by kernel_rfl) (fun _ _ _ h => h) (Or.inr ⟨by rfl, rfl⟩) trivial ?_
                        simp only [List.getElem_toArray, List.getElem_cons_zero, List.getElem_cons_succ, Act.put, List.setIfInBounds_toArray, List.set_cons_zero, List.set_cons_succ]
                        refine wpAnyH_take (i := 15) (v := undef) rfl (by kernel_rfl) (by kernel_rfl) (by kernel_rfl) (fun _ _ _ h => h) (Or.inr ⟨by rfl, rfl⟩) trivial ?_
                        simp only [List.getElem_toArray, List.getElem_cons_zero, List.getElem_cons_succ, Act.put, List.setIfInBounds_toArray, List.set_cons_zero, List.set_cons_succ]
                        refine wpAnyH_take (i := 16) (v := .bool true) rfl (by kernel_rfl) (by kernel_rfl) (by kernel_rfl) (fun _ _ _ h => h) (Or.inl ⟨by rfl, ?_⟩) trivial ?_
                        · intro W _
                          go_simp
                        simp only [List.getElem_toArray, List.getElem_cons_zero, List.getElem_cons_succ, Act.put, List.setIfInBounds_toArray, List.set_cons_zero, List.set_cons_succ]
                        refine wpAnyH_ready (rs := [17]) (by kernel_rfl) (by simp) ?_
                        refine AllReadyH.cons rfl (fun K hK => ?_) AllReadyH.nil
                        go_simp
                        go_wp2_with (go_at_call 96; refine (HW6.out true).mono ?_; rintro e' w' ⟨rfl, hlq, hgq⟩; have hS := HKEEP.out w' hgq)
                        refine hK.out _ _ trivial (fun _ => ?_)
                        clear hK K
                        refine wpAnyH_done (by kernel_rfl) ?_ _
                        have HLQ := Lib.hid hlq
                        have HGQ := Lib.hid hgq
                        clear hlq hgq hS
                        go_wp2_with fail
                        go_meet
                        exact ⟨HGQ.out, b4, by simpa using HLQ.out, fun h => ⟨h, .inl (by first | rfl | trivial)⟩⟩
                      · obtain ⟨a, ha⟩ := at_lt (l := ks) (p := j') (by rw [← HNN.out.2.1]; omega)
                        have HKEEP := Lib.hid (show ∀ W, w6.grownBy W (some g) → W.cell? ⟨w.heap.size, 4, none⟩ = some (.slice (some ad2) nk c2) ∧ W.cell? (ad2.add j') = some (.string a) ∧ W.cell? ⟨ad2.block, ad2.off + (j' + 1), none⟩ = some (.string s) from fun W hW => by
                          have hc7 := HWX.out W (grown_trans HGR6.out hW)
                          exact ⟨by simp [World.cell?, hc7], HKEY.out W (grown_trans HGW6.out hW) j' a ha (by omega), (by rw [← add_pos ad2 (j' + 1) (by omega)]; exact HKEY.out W (grown_trans HGW6.out hW) (j' + 1) s HKS.out hlt)⟩)
                        have j0 : (0 : Int) ≤ (j' : Int) := Int.natCast_nonneg _
                        have j1 : (j' : Int) < (nk : Int) := by omega
                        have j2 : (0 : Int) ≤ (j' : Int) + 1 := by omega
                        have j3 : (j' : Int) + 1 < (nk : Int) := by omega
                        have w1 : IntKind.i64.wrap (((j' + 1 : Nat) : Int) - 1) = (j' : Int) := by rw [IntKind.wrap_i64]; omega
                        have w2 : IntKind.i64.wrap ((j' : Int) + 1 - 1) = (j' : Int) := by rw [IntKind.wrap_i64]; omega
                        have w3 : IntKind.i64.wrap (j' : Int) = (j' : Int) := by rw [IntKind.wrap_i64]; omega
                        have n1 : ¬ (j' : Int) + 1 = 0 := by omega
                        have HA := Lib.hid ha
                        obtain ⟨_, k1, k2⟩ := HKEEP.out w6 ⟨rfl, rfl, rfl, Nat.le_refl _, fun _ _ _ => rfl⟩
                        clear ha
                        obtain ⟨bb, hbb⟩ : ∃ bb, bb = Op.bytesLess a.toList s.toList := ⟨_, rfl⟩
                        have HBB := Lib.hid hbb
                        cases bb
                        · have hb1' : Op.bytesLess a.toList s.toList = false := hbb.symm
                          clear hbb
                          have hS0 := HKEEP.out w6.drew ⟨rfl, rfl, rfl, Nat.le_refl _, fun _ _ _ => rfl⟩
                          have HS0 := Lib.hid hS0
                          clear hS0
                          refine wp_region_held_drew (S := (fun W => W.cell? ⟨w.heap.size, 4, none⟩ = some (.slice (some ad2) nk c2) ∧ W.cell? (ad2.add j') = some (.string a) ∧ W.cell? ⟨ad2.block, ad2.off + (j' + 1), none⟩ = some (.string s))) (by kernel_rfl) HS0.out (fun _ => ?_)
                          refine wpAnyH_take (i := 0) (v := .pointer (some ⟨g, 0, none⟩)) rfl (by kernel_rfl) (by kernel_rfl) (by kernel_rfl) (fun _ _ _ h => h) (Or.inl ⟨by rfl, ?_⟩) HS0.out ?_
                          · intro W hSw
                            obtain ⟨s0, s1, s2⟩ := hSw
                            go_simp
                          simp only [List.getElem_toArray, List.getElem_cons_zero, List.getElem_cons_succ, Act.put, List.setIfInBounds_toArray, List.set_cons_zero, List.set_cons_succ]
                          refine wpAnyH_take (i := 1) (v := .int .i64 ((j' + 1 : Nat) : Int)) rfl (by kernel_rfl) (by kernel_rfl) (by kernel_rfl) (fun _ _ _ h => h) (Or.inl ⟨by rfl, ?_⟩) HS0.out ?_
                          · intro W hSw
                            obtain ⟨s0, s1, s2⟩ := hSw
                            go_simp
                          simp only [List.getElem_toArray, List.getElem_cons_zero, List.getElem_cons_succ, Act.put, List.setIfInBounds_toArray, List.set_cons_zero, List.set_cons_succ]
                          refine wpAnyH_take (i := 2) (v := .bool false) rfl (by kernel_rfl) (by kernel_rfl) (by kernel_rfl) (fun _ _ _ h => h) (Or.inl ⟨by rfl, ?_⟩) HS0.out ?_
                          · intro W hSw
                            obtain ⟨s0, s1, s2⟩ := hSw
                            go_simp
                          simp only [List.getElem_toArray, List.getElem_cons_zero, List.getElem_cons_succ, Act.put, List.setIfInBounds_toArray, List.set_cons_zero, List.set_cons_succ]
                          refine wpAnyH_take (i := 3) (v := .bool false) rfl (by kernel_rfl) (by kernel_rfl) (by kernel_rfl) (fun _ _ _ h => h) (Or.inl ⟨by rfl, ?_⟩) HS0.out ?_
                          · intro W hSw
                            obtain ⟨s0, s1, s2⟩ := hSw
                            go_simp
                          simp only [List.getElem_toArray, List.getElem_cons_zero, List.getElem_cons_succ, Act.put, List.setIfInBounds_toArray, List.set_cons_zero, List.set_cons_succ]
                          refine wpAnyH_take (i := 4) (v := .pointer (some ⟨w.heap.size, 4, none⟩)) rfl (by kernel_rfl) (by kernel_rfl) (by kernel_rfl) (fun _ _ _ h => h) (Or.inl ⟨by rfl, ?_⟩) HS0.out ?_
                          · intro W hSw
                            obtain ⟨s0, s1, s2⟩ := hSw
                            go_simp
                          simp only [List.getElem_toArray, List.getElem_cons_zero, List.getElem_cons_succ, Act.put, List.setIfInBounds_toArray, List.set_cons_zero, List.set_cons_succ]
                          refine wpAnyH_take (i := 5) (v := .slice (some ad2) nk c2) rfl (by kernel_rfl) (by kernel_rfl) (by kernel_rfl) (fun _ _ _ h => h) (Or.inl ⟨by rfl, ?_⟩) HS0.out ?_
                          · intro W hSw
                            obtain ⟨s0, s1, s2⟩ := hSw
                            go_simp
                          simp only [List.getElem_toArray, List.getElem_cons_zero, List.getElem_cons_succ, Act.put, List.setIfInBounds_toArray, List.set_cons_zero, List.set_cons_succ]
                          refine wpAnyH_take (i := 6) (v := .int .i64 ((j' + 1 : Nat) : Int)) rfl (by kernel_rfl) (by kernel_rfl) (by kernel_rfl) (fun _ _ _ h => h) (Or.inl ⟨by rfl, ?_⟩) HS0.out ?_
                          · intro W hSw
                            obtain ⟨s0, s1, s2⟩ := hSw
                            go_simp
                          simp only [List.getElem_toArray, List.getElem_cons_zero, List.getElem_cons_succ, Act.put, List.setIfInBounds_toArray, List.set_cons_zero, List.set_cons_succ]
                          refine wpAnyH_take (i := 7) (v := .int .i64 (j' : Int)) rfl (by kernel_rfl) (by kernel_rfl) (by kernel_rfl) (fun _ _ _ h => h) (Or.inl ⟨by rfl, ?_⟩) HS0.out ?_
                          · intro W hSw
                            obtain ⟨s0, s1, s2⟩ := hSw
                            go_simp
                          simp only [List.getElem_toArray, List.getElem_cons_zero, List.getElem_cons_succ, Act.put, List.setIfInBounds_toArray, List.set_cons_zero, List.set_cons_succ]
                          refine wpAnyH_take (i := 8) (v := .pointer (some (ad2.add j'))) rfl (by kernel_rfl) (by kernel_rfl) (by kernel_rfl) (fun _ _ _ h => h) (Or.inl ⟨by rfl, ?_⟩) HS0.out ?_
                          · intro W hSw
                            obtain ⟨s0, s1, s2⟩ := hSw
                            go_simp
                          simp only [List.getElem_toArray, List.getElem_cons_zero, List.getElem_cons_succ, Act.put, List.setIfInBounds_toArray, List.set_cons_zero, List.set_cons_succ]
                          refine wpAnyH_take (i := 9) (v := .string a) rfl (by kernel_rfl) (by kernel_rfl) (by kernel_rfl) (fun _ _ _ h => h) (Or.inl ⟨by rfl, ?_⟩) HS0.out ?_
                          · intro W hSw
                            obtain ⟨s0, s1, s2⟩ := hSw
                            go_simp
                          simp only [List.getElem_toArray, List.getElem_cons_zero, List.getElem_cons_succ, Act.put, List.setIfInBounds_toArray, List.set_cons_zero, List.set_cons_succ]
                          refine wpAnyH_take (i := 10) (v := .pointer (some ⟨w.heap.size, 4, none⟩)) rfl (by kernel_rfl) (by kernel_rfl) (by kernel_rfl) (fun _ _ _ h => h) (Or.inl ⟨by rfl, ?_⟩) HS0.out ?_
                          · intro W hSw
                            obtain ⟨s0, s1, s2⟩ := hSw
                            go_simp
                          simp only [List.getElem_toArray, List.getElem_cons_zero, List.getElem_cons_succ, Act.put, List.setIfInBounds_toArray, List.set_cons_zero, List.set_cons_succ]
                          refine wpAnyH_take (i := 11) (v := .slice (some ad2) nk c2) rfl (by kernel_rfl) (by kernel_rfl) (by kernel_rfl) (fun _ _ _ h => h) (Or.inl ⟨by rfl, ?_⟩) HS0.out ?_
                          · intro W hSw
                            obtain ⟨s0, s1, s2⟩ := hSw
                            go_simp
                          simp only [List.getElem_toArray, List.getElem_cons_zero, List.getElem_cons_succ, Act.put, List.setIfInBounds_toArray, List.set_cons_zero, List.set_cons_succ]
                          refine wpAnyH_take (i := 12) (v := .int .i64 ((j' + 1 : Nat) : Int)) rfl (by kernel_rfl) (by kernel_rfl) (by kernel_rfl) (fun _ _ _ h => h) (Or.inl ⟨by rfl, ?_⟩) HS0.out ?_
                          · intro W hSw
                            obtain ⟨s0, s1, s2⟩ := hSw
                            go_simp
                          simp only [List.getElem_toArray, List.getElem_cons_zero, List.getElem_cons_succ, Act.put, List.setIfInBounds_toArray, List.set_cons_zero, List.set_cons_succ]
                          refine wpAnyH_take (i := 13) (v := .pointer (some ⟨ad2.block, ad2.off + (j' + 1), none⟩)) rfl (by kernel_rfl) (by kernel_rfl) (by kernel_rfl) (fun _ _ _ h => h) (Or.inl ⟨by rfl, ?_⟩) HS0.out ?_
                          · intro W hSw
                            obtain ⟨s0, s1, s2⟩ := hSw
                            go_simp
                          simp only [List.getElem_toArray, List.getElem_cons_zero, List.getElem_cons_succ, Act.put, List.setIfInBounds_toArray, List.set_cons_zero, List.set_cons_succ]
                          refine wpAnyH_take (i := 14) (v := .string s) rfl (by kernel_rfl) (by kernel_rfl) (by kernel_rfl) (fun _ _ _ h => h) (Or.inl ⟨by rfl, ?_⟩) HS0.out ?_
                          · intro W hSw
                            obtain ⟨s0, s1, s2⟩ := hSw
                            go_simp
                          simp only [List.getElem_toArray, List.getElem_cons_zero, List.getElem_cons_succ, Act.put, List.setIfInBounds_toArray, List.set_cons_zero, List.set_cons_succ]
                          refine wpAnyH_take (i := 15) (v := .bool false) rfl (by kernel_rfl) (by kernel_rfl) (by kernel_rfl) (fun _ _ _ h => h) (Or.inl ⟨by rfl, ?_⟩) HS0.out ?_
                          · intro W hSw
                            obtain ⟨s0, s1, s2⟩ := hSw
                            go_simp
                          simp only [List.getElem_toArray, List.getElem_cons_zero, List.getElem_cons_succ, Act.put, List.setIfInBounds_toArray, List.set_cons_zero, List.set_cons_succ]
                          refine wpAnyH_take (i := 16) (v := .bool false) rfl (by kernel_rfl) (by kernel_rfl) (by kernel_rfl) (fun _ _ _ h => h) (Or.inl ⟨by rfl, ?_⟩) HS0.out ?_
                          · intro W hSw
                            obtain ⟨s0, s1, s2⟩ := hSw
                            go_simp
                          simp only [List.getElem_toArray, List.getElem_cons_zero, List.getElem_cons_succ, Act.put, List.setIfInBounds_toArray, List.set_cons_zero, List.set_cons_succ]
                          refine wpAnyH_ready (rs := [17]) (by kernel_rfl) (by simp) ?_
                          refine AllReadyH.cons rfl (fun K hK => ?_) AllReadyH.nil
                          go_simp
                          go_wp2_with (go_at_call 96; refine (HW6.out false).mono ?_; rintro e' w' ⟨rfl, hlq, hgq⟩; have hS := HKEEP.out w' hgq)
                          refine hK.out _ _ hS (fun _ => ?_)
                          clear hK K
                          refine wpAnyH_done (by kernel_rfl) ?_ _
                          have HLQ := Lib.hid hlq
                          have HGQ := Lib.hid hgq
                          clear hlq hgq hS
                          go_wp2_with fail
                          go_meet
                          exact ⟨HGQ.out, true, by simpa using HLQ.out, fun h => by cases h⟩
                        · have hb1' : Op.bytesLess a.toList s.toList = true := hbb.symm
                          clear hbb
                          have hS0 := HKEEP.out w6.drew ⟨rfl, rfl, rfl, Nat.le_refl _, fun _ _ _ => rfl⟩
                          have HS0 := Lib.hid hS0
                          clear hS0
                          refine wp_region_held_drew (S := (fun W => W.cell? ⟨w.heap.size, 4, none⟩ = some (.slice (some ad2) nk c2) ∧ W.cell? (ad2.add j') = some (.string a) ∧ W.cell? ⟨ad2.block, ad2.off + (j' + 1), none⟩ = some (.string s))) (by kernel_rfl) HS0.out (fun _ => ?_)
                          refine wpAnyH_take (i := 0) (v := .pointer (some ⟨g, 0, none⟩)) rfl (by kernel_rfl) (by kernel_rfl) (by kernel_rfl) (fun _ _ _ h => h) (Or.inl ⟨by rfl, ?_⟩) HS0.out ?_
                          · intro W hSw
                            obtain ⟨s0, s1, s2⟩ := hSw
                            go_simp
                          simp only [List.getElem_toArray, List.getElem_cons_zero, List.getElem_cons_succ, Act.put, List.setIfInBounds_toArray, List.set_cons_zero, List.set_cons_succ]
                          refine wpAnyH_take (i := 1) (v := .int .i64 ((j' + 1 : Nat) : Int)) rfl (by kernel_rfl) (by kernel_rfl) (by kernel_rfl) (fun _ _ _ h => h) (Or.inl ⟨by rfl, ?_⟩) HS0.out ?_
                          · intro W hSw
                            obtain ⟨s0, s1, s2⟩ := hSw
                            go_simp
                          simp only [List.getElem_toArray, List.getElem_cons_zero, List.getElem_cons_succ, Act.put, List.setIfInBounds_toArray, List.set_cons_zero, List.set_cons_succ]
                          refine wpAnyH_take (i := 2) (v := .bool false) rfl (by kernel_rfl) (by kernel_rfl) (by kernel_rfl) (fun _ _ _ h => h) (Or.inl ⟨by rfl, ?_⟩) HS0.out ?_
                          · intro W hSw
                            obtain ⟨s0, s1, s2⟩ := hSw
                            go_simp
                          simp only [List.getElem_toArray, List.getElem_cons_zero, List.getElem_cons_succ, Act.put, List.setIfInBounds_toArray, List.set_cons_zero, List.set_cons_succ]
                          refine wpAnyH_take (i := 3) (v := .bool false) rfl (by kernel_rfl) (by kernel_rfl) (by kernel_rfl) (fun _ _ _ h => h) (Or.inl ⟨by rfl, ?_⟩) HS0.out ?_
                          · intro W hSw
                            obtain ⟨s0, s1, s2⟩ := hSw
                            go_simp
                          simp only [List.getElem_toArray, List.getElem_cons_zero, List.getElem_cons_succ, Act.put, List.setIfInBounds_toArray, List.set_cons_zero, List.set_cons_succ]
                          refine wpAnyH_take (i := 4) (v := .pointer (some ⟨w.heap.size, 4, none⟩)) rfl (by kernel_rfl) (by kernel_rfl) (by kernel_rfl) (fun _ _ _ h => h) (Or.inl ⟨by rfl, ?_⟩) HS0.out ?_
                          · intro W hSw
                            obtain ⟨s0, s1, s2⟩ := hSw
                            go_simp
                          simp only [List.getElem_toArray, List.getElem_cons_zero, List.getElem_cons_succ, Act.put, List.setIfInBounds_toArray, List.set_cons_zero, List.set_cons_succ]
                          refine wpAnyH_take (i := 5) (v := .slice (some ad2) nk c2) rfl (by kernel_rfl) (by kernel_rfl) (by kernel_rfl) (fun _ _ _ h => h) (Or.inl ⟨by rfl, ?_⟩) HS0.out ?_
                          · intro W hSw
                            obtain ⟨s0, s1, s2⟩ := hSw
                            go_simp
                          simp only [List.getElem_toArray, List.getElem_cons_zero, List.getElem_cons_succ, Act.put, List.setIfInBounds_toArray, List.set_cons_zero, List.set_cons_succ]
                          refine wpAnyH_take (i := 6) (v := .int .i64 ((j' + 1 : Nat) : Int)) rfl (by kernel_rfl) (by kernel_rfl) (by kernel_rfl) (fun _ _ _ h => h) (Or.inl ⟨by rfl, ?_⟩) HS0.out ?_
                          · intro W hSw
                            obtain ⟨s0, s1, s2⟩ := hSw
                            go_simp
                          simp only [List.getElem_toArray, List.getElem_cons_zero, List.getElem_cons_succ, Act.put, List.setIfInBounds_toArray, List.set_cons_zero, List.set_cons_succ]
                          refine wpAnyH_take (i := 7) (v := .int .i64 (j' : Int)) rfl (by kernel_rfl) (by kernel_rfl) (by kernel_rfl) (fun _ _ _ h => h) (Or.inl ⟨by rfl, ?_⟩) HS0.out ?_
                          · intro W hSw
                            obtain ⟨s0, s1, s2⟩ := hSw
                            go_simp
                          simp only [List.getElem_toArray, List.getElem_cons_zero, List.getElem_cons_succ, Act.put, List.setIfInBounds_toArray, List.set_cons_zero, List.set_cons_succ]
                          refine wpAnyH_take (i := 8) (v := .pointer (some (ad2.add j'))) rfl (by kernel_rfl) (by kernel_rfl) (by kernel_rfl) (fun _ _ _ h => h) (Or.inl ⟨by rfl, ?_⟩) HS0.out ?_
                          · intro W hSw
                            obtain ⟨s0, s1, s2⟩ := hSw
                            go_simp
                          simp only [List.getElem_toArray, List.getElem_cons_zero, List.getElem_cons_succ, Act.put, List.setIfInBounds_toArray, List.set_cons_zero, List.set_cons_succ]
                          refine wpAnyH_take (i := 9) (v := .string a) rfl (by kernel_rfl) (by kernel_rfl) (by kernel_rfl) (fun _ _ _ h => h) (Or.inl ⟨by rfl, ?_⟩) HS0.out ?_
                          · intro W hSw
                            obtain ⟨s0, s1, s2⟩ := hSw
                            go_simp
                          simp only [List.getElem_toArray, List.getElem_cons_zero, List.getElem_cons_succ, Act.put, List.setIfInBounds_toArray, List.set_cons_zero, List.set_cons_succ]
                          refine wpAnyH_take (i := 10) (v := .pointer (some ⟨w.heap.size, 4, none⟩)) rfl (by kernel_rfl) (by kernel_rfl) (by kernel_rfl) (fun _ _ _ h => h) (Or.inl ⟨by rfl, ?_⟩) HS0.out ?_
                          · intro W hSw
                            obtain ⟨s0, s1, s2⟩ := hSw
                            go_simp
                          simp only [List.getElem_toArray, List.getElem_cons_zero, List.getElem_cons_succ, Act.put, List.setIfInBounds_toArray, List.set_cons_zero, List.set_cons_succ]
                          refine wpAnyH_take (i := 11) (v := .slice (some ad2) nk c2) rfl (by kernel_rfl) (by kernel_rfl) (by kernel_rfl) (fun _ _ _ h => h) (Or.inl ⟨by rfl, ?_⟩) HS0.out ?_
                          · intro W hSw
                            obtain ⟨s0, s1, s2⟩ := hSw
                            go_simp
                          simp only [List.getElem_toArray, List.getElem_cons_zero, List.getElem_cons_succ, Act.put, List.setIfInBounds_toArray, List.set_cons_zero, List.set_cons_succ]
                          refine wpAnyH_take (i := 12) (v := .int .i64 ((j' + 1 : Nat) : Int)) rfl (by kernel_rfl) (by kernel_rfl) (by kernel_rfl) (fun _ _ _ h => h) (Or.inl ⟨by rfl, ?_⟩) HS0.out ?_
                          · intro W hSw
                            obtain ⟨s0, s1, s2⟩ := hSw
                            go_simp
                          simp only [List.getElem_toArray, List.getElem_cons_zero, List.getElem_cons_succ, Act.put, List.setIfInBounds_toArray, List.set_cons_zero, List.set_cons_succ]
                          refine wpAnyH_take (i := 13) (v := .pointer (some ⟨ad2.block, ad2.off + (j' + 1), none⟩)) rfl (by kernel_rfl) (by kernel_rfl) (by kernel_rfl) (fun _ _ _ h => h) (Or.inl ⟨by rfl, ?_⟩) HS0.out ?_
                          · intro W hSw
                            obtain ⟨s0, s1, s2⟩ := hSw
                            go_simp
                          simp only [List.getElem_toArray, List.getElem_cons_zero, List.getElem_cons_succ, Act.put, List.setIfInBounds_toArray, List.set_cons_zero, List.set_cons_succ]
                          refine wpAnyH_take (i := 14) (v := .string s) rfl (by kernel_rfl) (by kernel_rfl) (by kernel_rfl) (fun _ _ _ h => h) (Or.inl ⟨by rfl, ?_⟩) HS0.out ?_
                          · intro W hSw
                            obtain ⟨s0, s1, s2⟩ := hSw
                            go_simp
                          simp only [List.getElem_toArray, List.getElem_cons_zero, List.getElem_cons_succ, Act.put, List.setIfInBounds_toArray, List.set_cons_zero, List.set_cons_succ]
                          refine wpAnyH_take (i := 15) (v := .bool true) rfl (by kernel_rfl) (by kernel_rfl) (by kernel_rfl) (fun _ _ _ h => h) (Or.inl ⟨by rfl, ?_⟩) HS0.out ?_
                          · intro W hSw
                            obtain ⟨s0, s1, s2⟩ := hSw
                            go_simp
                          simp only [List.getElem_toArray, List.getElem_cons_zero, List.getElem_cons_succ, Act.put, List.setIfInBounds_toArray, List.set_cons_zero, List.set_cons_succ]
                          refine wpAnyH_take (i := 16) (v := .bool true) rfl (by kernel_rfl) (by kernel_rfl) (by kernel_rfl) (fun _ _ _ h => h) (Or.inl ⟨by rfl, ?_⟩) HS0.out ?_
                          · intro W hSw
                            obtain ⟨s0, s1, s2⟩ := hSw
                            go_simp
                          simp only [List.getElem_toArray, List.getElem_cons_zero, List.getElem_cons_succ, Act.put, List.setIfInBounds_toArray, List.set_cons_zero, List.set_cons_succ]
                          refine wpAnyH_ready (rs := [17]) (by kernel_rfl) (by simp) ?_
                          refine AllReadyH.cons rfl (fun K hK => ?_) AllReadyH.nil
                          go_simp
                          go_wp2_with (go_at_call 96; refine (HW6.out true).mono ?_; rintro e' w' ⟨rfl, hlq, hgq⟩; have hS := HKEEP.out w' hgq)
                          refine hK.out _ _ hS (fun _ => ?_)
                          clear hK K
                          refine wpAnyH_done (by kernel_rfl) ?_ _
                          have HLQ := Lib.hid hlq
                          have HGQ := Lib.hid hgq
                          clear hlq hgq hS
                          go_wp2_with fail
                          go_meet
                          exact ⟨HGQ.out, b4, by simpa using HLQ.out, fun h => ⟨h, .inr ⟨a, HA.out, HBB.out.symm⟩⟩⟩
                    case rest =>
                      obtain ⟨hg7, b5, hl7, hs7⟩ := hcut
                      have hgr7 := grown_trans HGR6.out hg7
                      have hgw7 := grown_trans HGW6.out hg7
                      have hc7 := HWX.out wc hgr7
                      have z5 : wc.cell? ⟨w.heap.size, 5, none⟩ = some (.slice (some ad3) nv c3) := by simp [World.cell?, hc7]
                      have HL7 := Lib.hid hl7
                      have HS7 := Lib.hid hs7
                      have HGR7 := Lib.hid hgr7
                      have HGW7 := Lib.hid hgw7
                      have hVx : Vr wc ok x (g' i2) := ((E3.out i2 x HVS.out).bound.move fun b hb => hgw7.block b hb.2 (fun e => HOK.out b hb.1 (by injection e))).mono fun _ h => h.1
                      have hcc : ∀ j u, (g' i2)[j]? = some u → wc.cell? (ad3.add (i2 * 6 + j)) = some u := fun j u hu => by
                        have h0 := HC0.out i2 j u (by omega) hu
                        have hbl := World.block_lt_of_cell? w _ h0
                        rw [block_add] at hbl
                        rw [← h0]
                        exact cell_of_block (by rw [block_add]; exact hgw7.block _ hbl (fun e => HOK.out _ hok3 (by injection e)))
                      have HVX := Lib.hid hVx
                      have hp24 : p2 ≤ 400 := HF.out.2.2.2.2.2.1
                      clear hc7 hg7 hl7 hs7 hgr7 hgw7 z4
                      generalize g' i2 = fc at hVx hcc HVX
                      obtain ⟨k', h', t', l', ks', vs', B1, d1, B2, d2, B3, d3, f1', g1', ht'', h1', h2', h3', b1'', b2'', b3'', hk'', hh'', hs'', q1, e1', q2', q3', e3'⟩ := hVx
                      obtain ⟨y0, y1, y2, y3, y4, y5⟩ := cells6 hcc
                      clear hcc q1 e1' q2' q3' e3' hs''
                      go_wp2_with fail
                      refine (ih _ ok _ g p2 q6 b5 (d + 1) wc (HNV.out _ (List.mem_of_getElem? HVS.out)) HVX.out HOK.out HL7.out (by omega) (by omega) (by omega) (fun w' hw' => HT.out _ (grown_trans HGW7.out hw'))).mono ?_
                      rintro e' w8 ⟨rfl, hg8, p8, q8, b8, hl8, hp80, hp81, hq80, himp⟩
                      have HNEXT := Lib.hid (show b8 = false → b3' = false ∧ (∀ v, v ∈ l → WF v) ∧ (∀ v, v ∈ vs.take (i2 + 1) → WF v) ∧ (∀ (j : Nat) (a b : ByteArray), j + 1 < i2 + 1 → ks[j]? = some a → ks[j + 1]? = some b → Op.bytesLess a.toList b.toList = true) ∧ p8 = p + 1 + V.partsL l + V.partsL (vs.take (i2 + 1)) ∧ p8 ≤ 400 ∧ q8 ≤ 2000 from fun h => by
                        obtain ⟨e5, hw8, hp8, hp84, hq82, _⟩ := himp h
                        obtain ⟨f1, f2, f3, f4, f5, f6, f7⟩ := HF.out
                        obtain ⟨_, hord⟩ := HS7.out e5
                        refine ⟨f1, f2, fun v hv => ?_, fun j a b hj ha hb => ?_, ?_, hp84, hq82⟩
                        · rw [List.take_add_one, HVS.out] at hv
                          rcases List.mem_append.1 hv with hv | hv
                          · exact f3 v hv
                          · simp at hv; rw [hv]; exact hw8
                        · by_cases hji : j + 1 < i2
                          · exact f4 j a b hji ha hb
                          · have ej : j + 1 = i2 := by omega
                            rcases hord with h0 | ⟨a', ha', hba⟩
                            · omega
                            · rw [show i2 - 1 = j by omega, ha] at ha'
                              injection ha' with ha'
                              rw [ej, HKS.out] at hb
                              injection hb with hb
                              rw [ha', ← hb]
                              exact hba
                        · rw [partsL_take HVS.out, hp8, f5]; omega)
                      have HG8 := Lib.hid (grown_trans HGR7.out hg8)
                      have HL8 := Lib.hid hl8
                      clear himp hg8 hl8 y0 y1 y2 y3 y4 y5 z5
                      go_wp2_with fail
                      go_roundw
                      case rel => exact ⟨i2 + 1, by omega, by go_num, HG8.out, p8, q8, b8, HL8.out, ⟨hp80, hp81⟩, hq80, HNEXT.out⟩
                      case measure => simp [intOf]; omega
            · have hc := HC.out.symm
              simp only [Bool.and_eq_true, decide_eq_true_eq, Bool.not_eq_true'] at hc
              obtain ⟨hlt, rfl⟩ := hc
              obtain ⟨hb30, hwf, hpe, hp4, hq4⟩ := HIR.out rfl
              obtain ⟨x, hx⟩ := at_lt (l := l) (p := i) (by rw [← HNN.out.1]; exact hlt)
              obtain ⟨ad, hA, hoka, hc0⟩ := R1.out (by omega)
              subst hA
              have hgw2 := grown_trans HG2.out HGR.out
              have hVx : Vr wc ok x (f i) := ((E1.out i x hx).bound.move fun b hb => hgw2.block b hb.2 (fun e => HOK.out b hb.1 (by injection e))).mono fun _ h => h.1
              have hcc : ∀ j u, (f i)[j]? = some u → wc.cell? (ad.add (i * 6 + j)) = some u := fun j u hu => by
                have h0 := hc0 i j u hlt hu
                have hbl := World.block_lt_of_cell? w _ h0
                rw [block_add] at hbl
                rw [← h0]
                exact cell_of_block (by rw [block_add]; exact hgw2.block _ hbl (fun e => HOK.out _ hoka (by injection e)))
              have HX := Lib.hid hx
              have HVX := Lib.hid hVx
              have HWFX := Lib.hid (show ∀ v, v ∈ l.take i → WF v from hwf)
              have HPE := Lib.hid hpe
              have HGW := Lib.hid hgw2
              have HB30 := Lib.hid hb30
              clear hc0 hx hwf hpe hgw2 hb30
              generalize f i = fc at hVx hcc HVX
              obtain ⟨k', h', t', l', ks', vs', B1, d1, B2, d2, B3, d3, f1, g1, ht'', h1', h2', h3', b1'', b2'', b3'', hk'', hh'', hs'', q1, e1', q2, q3', e3'⟩ := hVx
              obtain ⟨y0, y1, y2, y3, y4, y5⟩ := cells6 hcc
              have i1 : (i : Int) < (nl : Int) := by omega
              clear hcc q1 e1' q2 q3' e3' hs''
              go_wp2_with fail
              refine (ih _ ok _ g p' q' false (d + 1) wc (HNL.out _ (List.mem_of_getElem? HX.out)) HVX.out HOK.out HLR.out (by omega) (by omega) (by omega) (fun w' hw' => HT.out _ (grown_trans HGW.out hw'))).mono ?_
              rintro e' w6 ⟨rfl, hg6, p6, q6, b6, hl6, hp60, hp61, hq60, himp⟩
              have HNEXT := Lib.hid (show b6 = false → b3' = false ∧ (∀ v, v ∈ l.take (i + 1) → WF v) ∧ p6 = p + 1 + V.partsL (l.take (i + 1)) ∧ p6 ≤ 400 ∧ q6 ≤ 2000 from fun h => by
                obtain ⟨_, hw6, hp6, hp64, hq62, _⟩ := himp h
                refine ⟨HB30.out, fun v hv => ?_, ?_, hp64, hq62⟩
                · rw [List.take_add_one, HX.out] at hv
                  rcases List.mem_append.1 hv with hv | hv
                  · exact HWFX.out v hv
                  · simp at hv; rw [hv]; exact hw6
                · rw [partsL_take HX.out, hp6, HPE.out]; omega)
              have HG6 := Lib.hid (grown_trans HGR.out hg6)
              have HL6 := Lib.hid hl6
              clear himp hg6 hl6 y0 y1 y2 y3 y4 y5 z3 zb
              go_wp2_with fail
              go_roundw
              case rel => exact ⟨i + 1, by omega, by go_num, HG6.out, p6, q6, b6, HL6.out, ⟨hp60, hp61⟩, hq60, HNEXT.out⟩
              case measure => simp [intOf]; omega
theorem value_all : ∀ n, ValueIH n
  | 0 => fun v ok cs g p q b d w hn => absurd hn (Nat.not_lt_zero _)
  | n + 1 => value_step n (value_all n)
theorem value_any (v : V) (ok : Nat → Prop) (cs : List Value) (g : Nat) (p q : Int) (b : Bool) (d : Int) (w : World) (hv : Vr w ok v cs) (hok : ∀ x, ok x → x ≠ g) (hl : Looks w g p q b) (hp : 0 ≤ p ∧ p ≤ 400) (hq : 0 ≤ q ∧ q ≤ 300000000000000) (hd : 0 ≤ d ∧ d ≤ 61) (hT : ∀ w', w.grownBy w' (some g) → Lib.Utf8Tabs 0 1 w') :
    Calls Tryz.prog 50 #[.pointer (some ⟨g, 0, none⟩), .agg cs.toArray, .int .i64 d] w (ValuePost g v p b w) :=
  value_all (SizeOf.sizeOf v + 1) v ok cs g p q b d w (Nat.lt_succ_self _) hv hok hl hp hq hd hT
end Go.Proofs.YtpamlgdcnmcedaaGreatDoor
