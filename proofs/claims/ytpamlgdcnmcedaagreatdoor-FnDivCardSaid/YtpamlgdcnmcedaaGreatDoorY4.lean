/- spec.number, over, Operate at '/'. -/
import Derived.Test.YtpamlgdcnmcedaaGreatDoorS1
import Derived.Test.YtpamlgdcnmcedaaGreatDoorDw
set_option linter.unusedVariables false
set_option linter.unusedSimpArgs false
set_option maxRecDepth 100000
namespace Go.Proofs.YtpamlgdcnmcedaaGreatDoor
open Go Go.RowKit
/-- A number by its half, plainly. -/
def NumPost (k h code : Int) (w : World) (e : Ending) (w' : World) : Prop := e = .returned (.tuple #[.agg #[.int .i64 k, .int .i64 h, .string ⟨#[]⟩, .slice none 0 0, .slice none 0 0, .slice none 0 0], .int .i64 code]) ∧ Below w.heap.size w w'
theorem number_fine (h : Int) (hb : Fl.Hb h) (w : World) : Calls Tryz.prog 100 #[.int .i64 h] w (NumPost 3 h 0 w) := by
  obtain ⟨⟨b1, b2⟩, b3⟩ := hb
  have c1 : ¬ h < -18014398509481984 := by omega
  have c2 : ¬ 18014398509481984 < h := by omega
  by_cases he : h.tmod 2 = 0
  · clear b3
    go_enter Tryz.func100, Tryz.ntmps100
    go_wp2_with fail
    refine bodyPost_ret (v := .tuple #[.agg #[.int .i64 3, .int .i64 h, .string ⟨#[]⟩, .slice none 0 0, .slice none 0 0, .slice none 0 0], .int .i64 0]) (by simp [results, Tryz.results100, go_sem]) rfl ?_
    exact ⟨rfl, by (repeat' (first | exact Below.refl _ _ | refine Below.setCell ?_ (by (try simp); (try omega)) _ | refine Below.alloc ?_ (by (try simp); (try omega)) _))⟩
  · have b4 := b3.resolve_left he
    have c3 : ¬ h ≤ -9007199254740992 := by omega
    have c4 : ¬ 9007199254740992 ≤ h := by omega
    have heb : (h.tmod 2 == 0) = false := by simpa using he
    clear b3
    go_enter Tryz.func100, Tryz.ntmps100
    go_wp2_with fail
    refine bodyPost_ret (v := .tuple #[.agg #[.int .i64 3, .int .i64 h, .string ⟨#[]⟩, .slice none 0 0, .slice none 0 0, .slice none 0 0], .int .i64 0]) (by simp [results, Tryz.results100, go_sem]) rfl ?_
    exact ⟨rfl, by (repeat' (first | exact Below.refl _ _ | refine Below.setCell ?_ (by (try simp); (try omega)) _ | refine Below.alloc ?_ (by (try simp); (try omega)) _))⟩
theorem number_silent (h : Int) (hb : ¬ Fl.Hb h) (w : World) : Calls Tryz.prog 100 #[.int .i64 h] w (NumPost 0 0 2 w) := by
  by_cases c1 : h < -18014398509481984
  · clear hb
    go_enter Tryz.func100, Tryz.ntmps100
    go_wp2_with fail
    refine bodyPost_ret (v := .tuple #[.agg #[.int .i64 0, .int .i64 0, .string ⟨#[]⟩, .slice none 0 0, .slice none 0 0, .slice none 0 0], .int .i64 2]) (by simp [results, Tryz.results100, go_sem]) rfl ?_
    exact ⟨rfl, by (repeat' (first | exact Below.refl _ _ | refine Below.setCell ?_ (by (try simp); (try omega)) _ | refine Below.alloc ?_ (by (try simp); (try omega)) _))⟩
  · by_cases c2 : 18014398509481984 < h
    · clear hb
      go_enter Tryz.func100, Tryz.ntmps100
      go_wp2_with fail
      refine bodyPost_ret (v := .tuple #[.agg #[.int .i64 0, .int .i64 0, .string ⟨#[]⟩, .slice none 0 0, .slice none 0 0, .slice none 0 0], .int .i64 2]) (by simp [results, Tryz.results100, go_sem]) rfl ?_
      exact ⟨rfl, by (repeat' (first | exact Below.refl _ _ | refine Below.setCell ?_ (by (try simp); (try omega)) _ | refine Below.alloc ?_ (by (try simp); (try omega)) _))⟩
    · have he : ¬ h.tmod 2 = 0 := fun he => hb ⟨by omega, .inl he⟩
      have heb : (h.tmod 2 == 0) = false := by simpa using he
      have h3 : ¬ (-9007199254740992 < h ∧ h < 9007199254740992) := fun h3 => hb ⟨by omega, .inr h3⟩
      by_cases c3 : h ≤ -9007199254740992
      · clear hb h3
        go_enter Tryz.func100, Tryz.ntmps100
        go_wp2_with fail
        refine bodyPost_ret (v := .tuple #[.agg #[.int .i64 0, .int .i64 0, .string ⟨#[]⟩, .slice none 0 0, .slice none 0 0, .slice none 0 0], .int .i64 2]) (by simp [results, Tryz.results100, go_sem]) rfl ?_
        exact ⟨rfl, by (repeat' (first | exact Below.refl _ _ | refine Below.setCell ?_ (by (try simp); (try omega)) _ | refine Below.alloc ?_ (by (try simp); (try omega)) _))⟩
      · have c4 : 9007199254740992 ≤ h := by omega
        have hem : ¬ h % 2 = 0 := by rw [← Int.tmod_eq_emod_of_nonneg (by omega)]; exact he
        have hemb : (h % 2 == 0) = false := by simpa using hem
        clear hb h3
        go_enter Tryz.func100, Tryz.ntmps100
        go_wp2_with fail
        refine bodyPost_ret (v := .tuple #[.agg #[.int .i64 0, .int .i64 0, .string ⟨#[]⟩, .slice none 0 0, .slice none 0 0, .slice none 0 0], .int .i64 2]) (by simp [results, Tryz.results100, go_sem]) rfl ?_
        exact ⟨rfl, by (repeat' (first | exact Below.refl _ _ | refine Below.setCell ?_ (by (try simp); (try omega)) _ | refine Below.alloc ?_ (by (try simp); (try omega)) _))⟩
/-- q is the Half of the quotient, and the manual speaks of it. -/
def FineQ (a b q : Int) : Prop := Fl.Hb q ∧ 2 * a = q * b ∧ (a = 0 → 0 < b)
def OverRel (a b d : V) (code : Int) : Prop := code = 2 ∨ (code = 1 ∧ (¬ (a.kind = 3 ∧ b.kind = 3) ∨ b.half = 0)) ∨ (code = 0 ∧ a.kind = 3 ∧ b.kind = 3 ∧ b.half ≠ 0 ∧ ∃ q, FineQ a.half b.half q ∧ d = V.mk 3 q ⟨#[]⟩ [] [] [])
def OverPost (a b : V) (w : World) (e : Ending) (w' : World) : Prop := ∃ k h code : Int, NumPost k h code w e w' ∧ (-9223372036854775808 ≤ k ∧ k ≤ 9223372036854775807) ∧ (-9223372036854775808 ≤ h ∧ h ≤ 9223372036854775807) ∧ OverRel a b (V.mk k h ⟨#[]⟩ [] [] []) code
theorem overPost_mono {a b : V} {w w1 w' : World} {e : Ending} (hb : Below w.heap.size w w1) (h : OverPost a b w1 e w') : OverPost a b w e w' := by
  obtain ⟨k, h, code, ⟨he, hb'⟩, h1, h2, h3⟩ := h
  exact ⟨k, h, code, ⟨he, below_trans hb hb'⟩, h1, h2, h3⟩

set_option maxHeartbeats 4000000 in
theorem over_any (v1 v2 : V) (ok : Nat → Prop) (cs1 cs2 : List Value) (w : World) (hv1 : Vr w ok v1 cs1) (hv2 : Vr w ok v2 cs2) (wf1 : WF v1) (wf2 : WF v2) (hnt : ¬ (v1.kind = 4 ∧ v2.kind = 4)) :
    Calls Tryz.prog 56 #[.agg cs1.toArray, .agg cs2.toArray] w (OverPost v1 v2 w) := by
  obtain ⟨k1, h1, t1, l1, ks1, vs1, P1, p1, Q1, q1, R1, r1, f1, g1, i1, i2, i3, i4, i5, i6, i7, i8, i9, i10, i11, i12, i13, i14, i15⟩ := hv1
  clear i1 i2 i3 i4 i5 i6 i7 i8 i9 i10 i11 i12 i13 i14 i15
  obtain ⟨k2, h2, t2, l2, ks2, vs2, P2, p2, Q2, q2, R2, r2, f2, g2, i1, i2, i3, i4, i5, i6, i7, i8, i9, i10, i11, i12, i13, i14, i15⟩ := hv2
  clear i1 i2 i3 i4 i5 i6 i7 i8 i9 i10 i11 i12 i13 i14 i15

  have hnt' : ¬ (k1 = 4 ∧ k2 = 4) := hnt
  have hbb : (-18014398509481984 ≤ h1 ∧ h1 ≤ 18014398509481984) ∧ (-18014398509481984 ≤ h2 ∧ h2 ≤ 18014398509481984) := by
    obtain ⟨_, _, _, _, _, _, _, _, _, _, _, _, b1, _, _, _, _⟩ := wf1
    obtain ⟨_, _, _, _, _, _, _, _, _, _, _, _, b2, _, _, _, _⟩ := wf2
    exact ⟨b1, b2⟩
  obtain ⟨⟨bl1, bh1⟩, bl2, bh2⟩ := hbb
  clear hnt wf1 wf2
  obtain ⟨W0, hW0⟩ : ∃ W0, W0 = ((w.alloc (.cells #[.int .i64 k1, .int .i64 h1, .string t1, .slice P1 l1.length p1, .slice Q1 ks1.length q1, .slice R1 vs1.length r1] 26)).alloc (.cells #[.int .i64 k2, .int .i64 h2, .string t2, .slice P2 l2.length p2, .slice Q2 ks2.length q2, .slice R2 vs2.length r2] 26)).alloc (.cells #[.int .i64 0, .int .i64 0, .string ⟨#[]⟩, .slice none 0 0, .slice none 0 0, .slice none 0 0] 26) := ⟨_, rfl⟩
  have hBW0 : Below w.heap.size w W0 := by rw [hW0]; exact ((((Below.refl _ _).alloc (Nat.le_refl _) _).alloc (by (try simp); (try omega)) _).alloc (by (try simp); (try omega)) _)
  have hSW0 : W0.heap.size = w.heap.size + 3 := by rw [hW0]; simp
  have hD0 : W0.heap[w.heap.size]? = some (.cells #[.int .i64 k1, .int .i64 h1, .string t1, .slice P1 l1.length p1, .slice Q1 ks1.length q1, .slice R1 vs1.length r1] 26) := by
    rw [hW0]
    have := heap_alloc_new w (.cells #[.int .i64 k1, .int .i64 h1, .string t1, .slice P1 l1.length p1, .slice Q1 ks1.length q1, .slice R1 vs1.length r1] 26)
    exact (Below.heap_alloc _ _ _ (by (try simp); (try omega))).trans ((Below.heap_alloc _ _ _ (by (try simp); (try omega))).trans (this))
  have hD1 : W0.heap[w.heap.size + 1]? = some (.cells #[.int .i64 k2, .int .i64 h2, .string t2, .slice P2 l2.length p2, .slice Q2 ks2.length q2, .slice R2 vs2.length r2] 26) := by
    rw [hW0]
    have := heap_alloc_new (w.alloc (.cells #[.int .i64 k1, .int .i64 h1, .string t1, .slice P1 l1.length p1, .slice Q1 ks1.length q1, .slice R1 vs1.length r1] 26)) (.cells #[.int .i64 k2, .int .i64 h2, .string t2, .slice P2 l2.length p2, .slice Q2 ks2.length q2, .slice R2 vs2.length r2] 26)
    rw [show (w.alloc (.cells #[.int .i64 k1, .int .i64 h1, .string t1, .slice P1 l1.length p1, .slice Q1 ks1.length q1, .slice R1 vs1.length r1] 26)).heap.size = w.heap.size + 1 from by simp] at this
    exact (Below.heap_alloc _ _ _ (by (try simp); (try omega))).trans (this)
  have hD2 : W0.heap[w.heap.size + 2]? = some (.cells #[.int .i64 0, .int .i64 0, .string ⟨#[]⟩, .slice none 0 0, .slice none 0 0, .slice none 0 0] 26) := by
    rw [hW0]
    have := heap_alloc_new ((w.alloc (.cells #[.int .i64 k1, .int .i64 h1, .string t1, .slice P1 l1.length p1, .slice Q1 ks1.length q1, .slice R1 vs1.length r1] 26)).alloc (.cells #[.int .i64 k2, .int .i64 h2, .string t2, .slice P2 l2.length p2, .slice Q2 ks2.length q2, .slice R2 vs2.length r2] 26)) (.cells #[.int .i64 0, .int .i64 0, .string ⟨#[]⟩, .slice none 0 0, .slice none 0 0, .slice none 0 0] 26)
    rw [show ((w.alloc (.cells #[.int .i64 k1, .int .i64 h1, .string t1, .slice P1 l1.length p1, .slice Q1 ks1.length q1, .slice R1 vs1.length r1] 26)).alloc (.cells #[.int .i64 k2, .int .i64 h2, .string t2, .slice P2 l2.length p2, .slice Q2 ks2.length q2, .slice R2 vs2.length r2] 26)).heap.size = w.heap.size + 2 from by simp] at this
    exact this
  have hfar : ∀ W, Below W0.heap.size W0 W → W.heap[w.heap.size]? = some (.cells #[.int .i64 k1, .int .i64 h1, .string t1, .slice P1 l1.length p1, .slice Q1 ks1.length q1, .slice R1 vs1.length r1] 26) ∧ W.heap[w.heap.size + 1]? = some (.cells #[.int .i64 k2, .int .i64 h2, .string t2, .slice P2 l2.length p2, .slice Q2 ks2.length q2, .slice R2 vs2.length r2] 26) ∧ W.heap[w.heap.size + 2]? = some (.cells #[.int .i64 0, .int .i64 0, .string ⟨#[]⟩, .slice none 0 0, .slice none 0 0, .slice none 0 0] 26) := fun W hb => ⟨(hb.block _ (by omega)).trans hD0, (hb.block _ (by omega)).trans hD1, (hb.block _ (by omega)).trans hD2⟩
  have HFAR := Lib.hid hfar
  have HW0 := Lib.hid hW0
  have HBW0 := Lib.hid hBW0
  have HSW0 := Lib.hid hSW0
  clear hfar hW0 hBW0 hSW0 hD0 hD1 hD2
  by_cases hk : k1 = 3 ∧ k2 = 3
  · obtain ⟨rfl, rfl⟩ := hk
    clear hnt'
    by_cases hz : h2 = 0
    · subst hz
      go_enter Tryz.func56, Tryz.ntmps56
      go_wp2_with fail
      refine bodyPost_ret (v := .tuple #[.agg #[.int .i64 0, .int .i64 0, .string ⟨#[]⟩, .slice none 0 0, .slice none 0 0, .slice none 0 0], .int .i64 1]) (by simp [results, Tryz.results56, go_sem]) rfl ?_
      exact ⟨0, 0, 1, ⟨rfl, by (repeat' (first | exact Below.refl _ _ | refine Below.setCell ?_ (by (try simp); (try omega)) _ | refine Below.alloc ?_ (by (try simp); (try omega)) _))⟩, by decide, by decide, .inr (.inl ⟨rfl, .inr rfl⟩)⟩
    · have hz2 : (h2 == 0) = false := by simpa using hz
      have hw2 : IntKind.i64.wrap (2 * h1) = 2 * h1 := by rw [IntKind.wrap_i64]; omega
      by_cases hm : (2 * h1).tmod h2 = 0
      · have hq := Int.tmod_add_mul_tdiv (2 * h1) h2
        rw [hm, Int.zero_add] at hq
        have hqb : ((2 * h1).tdiv h2).natAbs ≤ (2 * h1).natAbs := Int.natAbs_tdiv_le_natAbs _ _
        obtain ⟨q, hqq⟩ : ∃ q, q = (2 * h1).tdiv h2 := ⟨_, rfl⟩
        rw [← hqq] at hq hqb
        have hqr : -9223372036854775808 ≤ q ∧ q ≤ 9223372036854775807 := by omega
        have hwq : IntKind.i64.wrap ((2 * h1).tdiv h2) = q := by rw [← hqq, IntKind.wrap_i64]; omega
        have HQ := Lib.hid (show 2 * h1 = q * h2 by rw [Int.mul_comm q h2]; omega)
        have HZ := Lib.hid hz
        have HQQ := Lib.hid hqq
        clear hq hqb hqq
        by_cases e0 : h1 = 0
        · subst e0
          by_cases hs : h2 < 0
          · clear hwq
            go_enter Tryz.func56, Tryz.ntmps56
            go_wp2_with fail
            refine bodyPost_ret (v := .tuple #[.agg #[.int .i64 0, .int .i64 0, .string ⟨#[]⟩, .slice none 0 0, .slice none 0 0, .slice none 0 0], .int .i64 2]) (by simp [results, Tryz.results56, go_sem]) rfl ?_
            exact ⟨0, 0, 2, ⟨rfl, by (repeat' (first | exact Below.refl _ _ | refine Below.setCell ?_ (by (try simp); (try omega)) _ | refine Below.alloc ?_ (by (try simp); (try omega)) _))⟩, by decide, by decide, .inl rfl⟩
          · have HFQ := Lib.hid (show 0 < h2 by have := HZ.out; omega)
            have hq0 : q = 0 := by rw [HQQ.out]; simp
            clear hwq HQQ
            subst hq0
            have HNUM := Lib.hid (fun w => number_fine 0 ⟨by decide, .inl (by decide)⟩ w)
            have HHB := Lib.hid (show Fl.Hb 0 from ⟨by decide, .inl (by decide)⟩)
            go_enter Tryz.func56, Tryz.ntmps56
            go_wp2_with fail
            rw [← HW0.out]
            refine (HNUM.out _).mono ?_
            rintro e' w' ⟨rfl, hb'⟩
            have hr := (HFAR.out w' hb').2.2
            have hsz : w.heap.size + 3 ≤ w'.heap.size := by have := hb'.size; have := HSW0.out; omega
            have y0 : w'.cell? ⟨w.heap.size + 2, 0, none⟩ = some (.int .i64 0) := by simp [World.cell?, hr]
            have y1 : w'.cell? ⟨w.heap.size + 2, 1, none⟩ = some (.int .i64 0) := by simp [World.cell?, hr]
            have y2 : w'.cell? ⟨w.heap.size + 2, 2, none⟩ = some (.string ⟨#[]⟩) := by simp [World.cell?, hr]
            have y3 : w'.cell? ⟨w.heap.size + 2, 3, none⟩ = some (.slice none 0 0) := by simp [World.cell?, hr]
            have y4 : w'.cell? ⟨w.heap.size + 2, 4, none⟩ = some (.slice none 0 0) := by simp [World.cell?, hr]
            have y5 : w'.cell? ⟨w.heap.size + 2, 5, none⟩ = some (.slice none 0 0) := by simp [World.cell?, hr]
            have x0 : w'.cell? ⟨w.heap.size + 1 + 1, 0, none⟩ = some (.int .i64 0) := by simp [World.cell?, hr]
            have x1 : w'.cell? ⟨w.heap.size + 1 + 1, 1, none⟩ = some (.int .i64 0) := by simp [World.cell?, hr]
            have x2 : w'.cell? ⟨w.heap.size + 1 + 1, 2, none⟩ = some (.string ⟨#[]⟩) := by simp [World.cell?, hr]
            have x3 : w'.cell? ⟨w.heap.size + 1 + 1, 3, none⟩ = some (.slice none 0 0) := by simp [World.cell?, hr]
            have x4 : w'.cell? ⟨w.heap.size + 1 + 1, 4, none⟩ = some (.slice none 0 0) := by simp [World.cell?, hr]
            have x5 : w'.cell? ⟨w.heap.size + 1 + 1, 5, none⟩ = some (.slice none 0 0) := by simp [World.cell?, hr]
            have yf : ∀ i, w'.frozen? ⟨w.heap.size + 2, i, none⟩ = false := fun i => by simp [World.frozen?, hr]
            have xf : ∀ i, w'.frozen? ⟨w.heap.size + 1 + 1, i, none⟩ = false := fun i => by simp [World.frozen?, hr]
            have HBX := Lib.hid (below_trans HBW0.out hb')
            clear hr hb'
            go_wp2_with fail
            refine bodyPost_ret (v := .tuple #[.agg #[.int .i64 3, .int .i64 0, .string ⟨#[]⟩, .slice none 0 0, .slice none 0 0, .slice none 0 0], .int .i64 0]) (by simp [results, Tryz.results56, go_sem, y0, y1, y2, y3, y4, y5, x0, x1, x2, x3, x4, x5]) rfl ?_
            have hle : w.heap.size ≤ w.heap.size + 2 := by omega
            refine ⟨3, 0, 0, ⟨rfl, ?_⟩, by first | decide | omega, hqr, .inr (.inr ⟨rfl, rfl, rfl, HZ.out, 0, ⟨HHB.out, by show 2 * (0 : Int) = 0 * h2; simp, fun _ => HFQ.out⟩, rfl⟩)⟩
            exact ((((((HBX.out.setCell hle _).setCell hle _).setCell hle _).setCell hle _).setCell hle _).setCell hle _)
        · have HFQ := Lib.hid (show h1 = 0 → 0 < h2 from fun h => absurd h e0)
          have e1 : (h1 == 0) = false := by simpa using e0
          by_cases hb : Fl.Hb q
          · have HNUM := Lib.hid (fun w => number_fine q hb w)
            have HHB := Lib.hid hb
            clear hb
            go_enter Tryz.func56, Tryz.ntmps56
            go_wp2_with fail
            rw [← HW0.out]
            refine (HNUM.out _).mono ?_
            rintro e' w' ⟨rfl, hb'⟩
            have hr := (HFAR.out w' hb').2.2
            have hsz : w.heap.size + 3 ≤ w'.heap.size := by have := hb'.size; have := HSW0.out; omega
            have y0 : w'.cell? ⟨w.heap.size + 2, 0, none⟩ = some (.int .i64 0) := by simp [World.cell?, hr]
            have y1 : w'.cell? ⟨w.heap.size + 2, 1, none⟩ = some (.int .i64 0) := by simp [World.cell?, hr]
            have y2 : w'.cell? ⟨w.heap.size + 2, 2, none⟩ = some (.string ⟨#[]⟩) := by simp [World.cell?, hr]
            have y3 : w'.cell? ⟨w.heap.size + 2, 3, none⟩ = some (.slice none 0 0) := by simp [World.cell?, hr]
            have y4 : w'.cell? ⟨w.heap.size + 2, 4, none⟩ = some (.slice none 0 0) := by simp [World.cell?, hr]
            have y5 : w'.cell? ⟨w.heap.size + 2, 5, none⟩ = some (.slice none 0 0) := by simp [World.cell?, hr]
            have x0 : w'.cell? ⟨w.heap.size + 1 + 1, 0, none⟩ = some (.int .i64 0) := by simp [World.cell?, hr]
            have x1 : w'.cell? ⟨w.heap.size + 1 + 1, 1, none⟩ = some (.int .i64 0) := by simp [World.cell?, hr]
            have x2 : w'.cell? ⟨w.heap.size + 1 + 1, 2, none⟩ = some (.string ⟨#[]⟩) := by simp [World.cell?, hr]
            have x3 : w'.cell? ⟨w.heap.size + 1 + 1, 3, none⟩ = some (.slice none 0 0) := by simp [World.cell?, hr]
            have x4 : w'.cell? ⟨w.heap.size + 1 + 1, 4, none⟩ = some (.slice none 0 0) := by simp [World.cell?, hr]
            have x5 : w'.cell? ⟨w.heap.size + 1 + 1, 5, none⟩ = some (.slice none 0 0) := by simp [World.cell?, hr]
            have yf : ∀ i, w'.frozen? ⟨w.heap.size + 2, i, none⟩ = false := fun i => by simp [World.frozen?, hr]
            have xf : ∀ i, w'.frozen? ⟨w.heap.size + 1 + 1, i, none⟩ = false := fun i => by simp [World.frozen?, hr]
            have HBX := Lib.hid (below_trans HBW0.out hb')
            clear hr hb'
            go_wp2_with fail
            refine bodyPost_ret (v := .tuple #[.agg #[.int .i64 3, .int .i64 q, .string ⟨#[]⟩, .slice none 0 0, .slice none 0 0, .slice none 0 0], .int .i64 0]) (by simp [results, Tryz.results56, go_sem, y0, y1, y2, y3, y4, y5, x0, x1, x2, x3, x4, x5]) rfl ?_
            have hle : w.heap.size ≤ w.heap.size + 2 := by omega
            refine ⟨3, q, 0, ⟨rfl, ?_⟩, by first | decide | omega, hqr, .inr (.inr ⟨rfl, rfl, rfl, HZ.out, q, ⟨HHB.out, HQ.out, HFQ.out⟩, rfl⟩)⟩
            exact ((((((HBX.out.setCell hle _).setCell hle _).setCell hle _).setCell hle _).setCell hle _).setCell hle _)
          · have HNUM := Lib.hid (fun w => number_silent q hb w)
            clear hb
            go_enter Tryz.func56, Tryz.ntmps56
            go_wp2_with fail
            rw [← HW0.out]
            refine (HNUM.out _).mono ?_
            rintro e' w' ⟨rfl, hb'⟩
            have hr := (HFAR.out w' hb').2.2
            have hsz : w.heap.size + 3 ≤ w'.heap.size := by have := hb'.size; have := HSW0.out; omega
            have y0 : w'.cell? ⟨w.heap.size + 2, 0, none⟩ = some (.int .i64 0) := by simp [World.cell?, hr]
            have y1 : w'.cell? ⟨w.heap.size + 2, 1, none⟩ = some (.int .i64 0) := by simp [World.cell?, hr]
            have y2 : w'.cell? ⟨w.heap.size + 2, 2, none⟩ = some (.string ⟨#[]⟩) := by simp [World.cell?, hr]
            have y3 : w'.cell? ⟨w.heap.size + 2, 3, none⟩ = some (.slice none 0 0) := by simp [World.cell?, hr]
            have y4 : w'.cell? ⟨w.heap.size + 2, 4, none⟩ = some (.slice none 0 0) := by simp [World.cell?, hr]
            have y5 : w'.cell? ⟨w.heap.size + 2, 5, none⟩ = some (.slice none 0 0) := by simp [World.cell?, hr]
            have x0 : w'.cell? ⟨w.heap.size + 1 + 1, 0, none⟩ = some (.int .i64 0) := by simp [World.cell?, hr]
            have x1 : w'.cell? ⟨w.heap.size + 1 + 1, 1, none⟩ = some (.int .i64 0) := by simp [World.cell?, hr]
            have x2 : w'.cell? ⟨w.heap.size + 1 + 1, 2, none⟩ = some (.string ⟨#[]⟩) := by simp [World.cell?, hr]
            have x3 : w'.cell? ⟨w.heap.size + 1 + 1, 3, none⟩ = some (.slice none 0 0) := by simp [World.cell?, hr]
            have x4 : w'.cell? ⟨w.heap.size + 1 + 1, 4, none⟩ = some (.slice none 0 0) := by simp [World.cell?, hr]
            have x5 : w'.cell? ⟨w.heap.size + 1 + 1, 5, none⟩ = some (.slice none 0 0) := by simp [World.cell?, hr]
            have yf : ∀ i, w'.frozen? ⟨w.heap.size + 2, i, none⟩ = false := fun i => by simp [World.frozen?, hr]
            have xf : ∀ i, w'.frozen? ⟨w.heap.size + 1 + 1, i, none⟩ = false := fun i => by simp [World.frozen?, hr]
            have HBX := Lib.hid (below_trans HBW0.out hb')
            clear hr hb'
            go_wp2_with fail
            refine bodyPost_ret (v := .tuple #[.agg #[.int .i64 0, .int .i64 0, .string ⟨#[]⟩, .slice none 0 0, .slice none 0 0, .slice none 0 0], .int .i64 2]) (by simp [results, Tryz.results56, go_sem, y0, y1, y2, y3, y4, y5, x0, x1, x2, x3, x4, x5]) rfl ?_
            have hle : w.heap.size ≤ w.heap.size + 2 := by omega
            refine ⟨0, 0, 2, ⟨rfl, ?_⟩, by first | decide | omega, by decide, .inl rfl⟩
            exact ((((((HBX.out.setCell hle _).setCell hle _).setCell hle _).setCell hle _).setCell hle _).setCell hle _)
      · have hmb : ((2 * h1).tmod h2 == 0) = false := by simpa using hm
        go_enter Tryz.func56, Tryz.ntmps56
        go_wp2_with fail
        refine bodyPost_ret (v := .tuple #[.agg #[.int .i64 0, .int .i64 0, .string ⟨#[]⟩, .slice none 0 0, .slice none 0 0, .slice none 0 0], .int .i64 2]) (by simp [results, Tryz.results56, go_sem]) rfl ?_
        exact ⟨0, 0, 2, ⟨rfl, by (repeat' (first | exact Below.refl _ _ | refine Below.setCell ?_ (by (try simp); (try omega)) _ | refine Below.alloc ?_ (by (try simp); (try omega)) _))⟩, by decide, by decide, .inl rfl⟩
  · have HK := Lib.hid (show ¬ ((V.mk k1 h1 t1 l1 ks1 vs1).kind = 3 ∧ (V.mk k2 h2 t2 l2 ks2 vs2).kind = 3) from hk)
    have hc : (¬ k1 = 3 ∧ ¬ k1 = 4) ∨ (k1 = 4 ∧ ¬ k2 = 4) ∨ (k1 = 3 ∧ ¬ k2 = 3) := by omega
    clear hk hnt'
    rcases hc with ⟨c1, c2⟩ | ⟨rfl, c2⟩ | ⟨rfl, c2⟩
    · have c1' : (k1 == 3) = false := by simpa using c1
      have c2' : (k1 == 4) = false := by simpa using c2
      go_enter Tryz.func56, Tryz.ntmps56
      go_wp2_with fail
      refine bodyPost_ret (v := .tuple #[.agg #[.int .i64 0, .int .i64 0, .string ⟨#[]⟩, .slice none 0 0, .slice none 0 0, .slice none 0 0], .int .i64 1]) (by simp [results, Tryz.results56, go_sem]) rfl ?_
      exact ⟨0, 0, 1, ⟨rfl, by (repeat' (first | exact Below.refl _ _ | refine Below.setCell ?_ (by (try simp); (try omega)) _ | refine Below.alloc ?_ (by (try simp); (try omega)) _))⟩, by decide, by decide, .inr (.inl ⟨rfl, .inl HK.out⟩)⟩
    · have c2' : (k2 == 4) = false := by simpa using c2
      go_enter Tryz.func56, Tryz.ntmps56
      go_wp2_with fail
      refine bodyPost_ret (v := .tuple #[.agg #[.int .i64 0, .int .i64 0, .string ⟨#[]⟩, .slice none 0 0, .slice none 0 0, .slice none 0 0], .int .i64 1]) (by simp [results, Tryz.results56, go_sem]) rfl ?_
      exact ⟨0, 0, 1, ⟨rfl, by (repeat' (first | exact Below.refl _ _ | refine Below.setCell ?_ (by (try simp); (try omega)) _ | refine Below.alloc ?_ (by (try simp); (try omega)) _))⟩, by decide, by decide, .inr (.inl ⟨rfl, .inl HK.out⟩)⟩
    · have c2' : (k2 == 3) = false := by simpa using c2
      go_enter Tryz.func56, Tryz.ntmps56
      go_wp2_with fail
      refine bodyPost_ret (v := .tuple #[.agg #[.int .i64 0, .int .i64 0, .string ⟨#[]⟩, .slice none 0 0, .slice none 0 0, .slice none 0 0], .int .i64 1]) (by simp [results, Tryz.results56, go_sem]) rfl ?_
      exact ⟨0, 0, 1, ⟨rfl, by (repeat' (first | exact Below.refl _ _ | refine Below.setCell ?_ (by (try simp); (try omega)) _ | refine Below.alloc ?_ (by (try simp); (try omega)) _))⟩, by decide, by decide, .inr (.inl ⟨rfl, .inl HK.out⟩)⟩
set_option maxHeartbeats 2000000 in
theorem operate_any (v1 v2 : V) (ok : Nat → Prop) (cs1 cs2 : List Value) (w : World) (hv1 : Vr w ok v1 cs1) (hv2 : Vr w ok v2 cs2) (wf1 : WF v1) (wf2 : WF v2) (hnt : ¬ (v1.kind = 4 ∧ v2.kind = 4)) :
    Calls Tryz.prog 20 #[.string { data := #[47] }, .agg cs1.toArray, .agg cs2.toArray] w (OverPost v1 v2 w) := by
  have HV1 := Lib.hid hv1
  have HV2 := Lib.hid hv2
  have HNT := Lib.hid hnt
  clear hnt
  obtain ⟨k1, h1, t1, l1, ks1, vs1, P1, p1, Q1, q1, R1, r1, f1, g1, i1, i2, i3, i4, i5, i6, i7, i8, i9, i10, i11, i12, i13, i14, i15⟩ := hv1
  clear i1 i2 i3 i4 i5 i6 i7 i8 i9 i10 i11 i12 i13 i14 i15
  obtain ⟨k2, h2, t2, l2, ks2, vs2, P2, p2, Q2, q2, R2, r2, f2, g2, i1, i2, i3, i4, i5, i6, i7, i8, i9, i10, i11, i12, i13, i14, i15⟩ := hv2
  clear i1 i2 i3 i4 i5 i6 i7 i8 i9 i10 i11 i12 i13 i14 i15

  obtain ⟨W0, hW0⟩ : ∃ W0, W0 = ((w.alloc (.cells #[.int .i64 k1, .int .i64 h1, .string t1, .slice P1 l1.length p1, .slice Q1 ks1.length q1, .slice R1 vs1.length r1] 26)).alloc (.cells #[.int .i64 k2, .int .i64 h2, .string t2, .slice P2 l2.length p2, .slice Q2 ks2.length q2, .slice R2 vs2.length r2] 26)).alloc (.cells #[.int .i64 0, .int .i64 0, .string ⟨#[]⟩, .slice none 0 0, .slice none 0 0, .slice none 0 0] 26) := ⟨_, rfl⟩
  have hBW0 : Below w.heap.size w W0 := by rw [hW0]; exact ((((Below.refl _ _).alloc (Nat.le_refl _) _).alloc (by (try simp); (try omega)) _).alloc (by (try simp); (try omega)) _)
  have hSW0 : W0.heap.size = w.heap.size + 3 := by rw [hW0]; simp
  have hD0 : W0.heap[w.heap.size]? = some (.cells #[.int .i64 k1, .int .i64 h1, .string t1, .slice P1 l1.length p1, .slice Q1 ks1.length q1, .slice R1 vs1.length r1] 26) := by
    rw [hW0]
    have := heap_alloc_new w (.cells #[.int .i64 k1, .int .i64 h1, .string t1, .slice P1 l1.length p1, .slice Q1 ks1.length q1, .slice R1 vs1.length r1] 26)
    exact (Below.heap_alloc _ _ _ (by (try simp); (try omega))).trans ((Below.heap_alloc _ _ _ (by (try simp); (try omega))).trans (this))
  have hD1 : W0.heap[w.heap.size + 1]? = some (.cells #[.int .i64 k2, .int .i64 h2, .string t2, .slice P2 l2.length p2, .slice Q2 ks2.length q2, .slice R2 vs2.length r2] 26) := by
    rw [hW0]
    have := heap_alloc_new (w.alloc (.cells #[.int .i64 k1, .int .i64 h1, .string t1, .slice P1 l1.length p1, .slice Q1 ks1.length q1, .slice R1 vs1.length r1] 26)) (.cells #[.int .i64 k2, .int .i64 h2, .string t2, .slice P2 l2.length p2, .slice Q2 ks2.length q2, .slice R2 vs2.length r2] 26)
    rw [show (w.alloc (.cells #[.int .i64 k1, .int .i64 h1, .string t1, .slice P1 l1.length p1, .slice Q1 ks1.length q1, .slice R1 vs1.length r1] 26)).heap.size = w.heap.size + 1 from by simp] at this
    exact (Below.heap_alloc _ _ _ (by (try simp); (try omega))).trans (this)
  have hD2 : W0.heap[w.heap.size + 2]? = some (.cells #[.int .i64 0, .int .i64 0, .string ⟨#[]⟩, .slice none 0 0, .slice none 0 0, .slice none 0 0] 26) := by
    rw [hW0]
    have := heap_alloc_new ((w.alloc (.cells #[.int .i64 k1, .int .i64 h1, .string t1, .slice P1 l1.length p1, .slice Q1 ks1.length q1, .slice R1 vs1.length r1] 26)).alloc (.cells #[.int .i64 k2, .int .i64 h2, .string t2, .slice P2 l2.length p2, .slice Q2 ks2.length q2, .slice R2 vs2.length r2] 26)) (.cells #[.int .i64 0, .int .i64 0, .string ⟨#[]⟩, .slice none 0 0, .slice none 0 0, .slice none 0 0] 26)
    rw [show ((w.alloc (.cells #[.int .i64 k1, .int .i64 h1, .string t1, .slice P1 l1.length p1, .slice Q1 ks1.length q1, .slice R1 vs1.length r1] 26)).alloc (.cells #[.int .i64 k2, .int .i64 h2, .string t2, .slice P2 l2.length p2, .slice Q2 ks2.length q2, .slice R2 vs2.length r2] 26)).heap.size = w.heap.size + 2 from by simp] at this
    exact this
  have hfar : ∀ W, Below W0.heap.size W0 W → W.heap[w.heap.size]? = some (.cells #[.int .i64 k1, .int .i64 h1, .string t1, .slice P1 l1.length p1, .slice Q1 ks1.length q1, .slice R1 vs1.length r1] 26) ∧ W.heap[w.heap.size + 1]? = some (.cells #[.int .i64 k2, .int .i64 h2, .string t2, .slice P2 l2.length p2, .slice Q2 ks2.length q2, .slice R2 vs2.length r2] 26) ∧ W.heap[w.heap.size + 2]? = some (.cells #[.int .i64 0, .int .i64 0, .string ⟨#[]⟩, .slice none 0 0, .slice none 0 0, .slice none 0 0] 26) := fun W hb => ⟨(hb.block _ (by omega)).trans hD0, (hb.block _ (by omega)).trans hD1, (hb.block _ (by omega)).trans hD2⟩
  have HFAR := Lib.hid hfar
  have HW0 := Lib.hid hW0
  have HBW0 := Lib.hid hBW0
  have HSW0 := Lib.hid hSW0
  clear hfar hW0 hBW0 hSW0 hD0 hD1 hD2
  go_enter Tryz.func20, Tryz.ntmps20
  go_wp2_with fail
  rw [← HW0.out]
  refine (vague_any (V.mk k1 h1 t1 l1 ks1 vs1) ok _ W0 wf1 (HV1.out.keep HBW0.out)).mono ?_
  rintro e' w3 ⟨rfl, hb3⟩
  have HB3 := Lib.hid hb3
  clear hb3
  obtain ⟨qq1, qq2, qq3⟩ := HFAR.out w3 HB3.out
  have z0 : w3.cell? ⟨w.heap.size, 0, none⟩ = some (.int .i64 k1) := by simp [World.cell?, qq1]
  have z1 : w3.cell? ⟨w.heap.size, 1, none⟩ = some (.int .i64 h1) := by simp [World.cell?, qq1]
  have z2 : w3.cell? ⟨w.heap.size, 2, none⟩ = some (.string t1) := by simp [World.cell?, qq1]
  have z3 : w3.cell? ⟨w.heap.size, 3, none⟩ = some (.slice P1 l1.length p1) := by simp [World.cell?, qq1]
  have z4 : w3.cell? ⟨w.heap.size, 4, none⟩ = some (.slice Q1 ks1.length q1) := by simp [World.cell?, qq1]
  have z5 : w3.cell? ⟨w.heap.size, 5, none⟩ = some (.slice R1 vs1.length r1) := by simp [World.cell?, qq1]
  have y0 : w3.cell? ⟨w.heap.size + 1, 0, none⟩ = some (.int .i64 k2) := by simp [World.cell?, qq2]
  have y1 : w3.cell? ⟨w.heap.size + 1, 1, none⟩ = some (.int .i64 h2) := by simp [World.cell?, qq2]
  have y2 : w3.cell? ⟨w.heap.size + 1, 2, none⟩ = some (.string t2) := by simp [World.cell?, qq2]
  have y3 : w3.cell? ⟨w.heap.size + 1, 3, none⟩ = some (.slice P2 l2.length p2) := by simp [World.cell?, qq2]
  have y4 : w3.cell? ⟨w.heap.size + 1, 4, none⟩ = some (.slice Q2 ks2.length q2) := by simp [World.cell?, qq2]
  have y5 : w3.cell? ⟨w.heap.size + 1, 5, none⟩ = some (.slice R2 vs2.length r2) := by simp [World.cell?, qq2]
  clear qq1 qq2 qq3
  go_wp2_with fail
  refine (vague_any (V.mk k2 h2 t2 l2 ks2 vs2) ok _ w3 wf2 (HV2.out.keep (below_trans HBW0.out HB3.out))).mono ?_
  rintro e' w4 ⟨rfl, hb4⟩
  have HB4 := Lib.hid (below_trans HB3.out hb4)
  clear hb4 z0 z1 z2 z3 z4 z5 y0 y1 y2 y3 y4 y5
  obtain ⟨qq1, qq2, qq3⟩ := HFAR.out w4 HB4.out
  have z0 : w4.cell? ⟨w.heap.size, 0, none⟩ = some (.int .i64 k1) := by simp [World.cell?, qq1]
  have z1 : w4.cell? ⟨w.heap.size, 1, none⟩ = some (.int .i64 h1) := by simp [World.cell?, qq1]
  have z2 : w4.cell? ⟨w.heap.size, 2, none⟩ = some (.string t1) := by simp [World.cell?, qq1]
  have z3 : w4.cell? ⟨w.heap.size, 3, none⟩ = some (.slice P1 l1.length p1) := by simp [World.cell?, qq1]
  have z4 : w4.cell? ⟨w.heap.size, 4, none⟩ = some (.slice Q1 ks1.length q1) := by simp [World.cell?, qq1]
  have z5 : w4.cell? ⟨w.heap.size, 5, none⟩ = some (.slice R1 vs1.length r1) := by simp [World.cell?, qq1]
  have y0 : w4.cell? ⟨w.heap.size + 1, 0, none⟩ = some (.int .i64 k2) := by simp [World.cell?, qq2]
  have y1 : w4.cell? ⟨w.heap.size + 1, 1, none⟩ = some (.int .i64 h2) := by simp [World.cell?, qq2]
  have y2 : w4.cell? ⟨w.heap.size + 1, 2, none⟩ = some (.string t2) := by simp [World.cell?, qq2]
  have y3 : w4.cell? ⟨w.heap.size + 1, 3, none⟩ = some (.slice P2 l2.length p2) := by simp [World.cell?, qq2]
  have y4 : w4.cell? ⟨w.heap.size + 1, 4, none⟩ = some (.slice Q2 ks2.length q2) := by simp [World.cell?, qq2]
  have y5 : w4.cell? ⟨w.heap.size + 1, 5, none⟩ = some (.slice R2 vs2.length r2) := by simp [World.cell?, qq2]
  clear qq1 qq2 qq3
  go_wp2_with fail
  refine (over_any (V.mk k1 h1 t1 l1 ks1 vs1) (V.mk k2 h2 t2 l2 ks2 vs2) ok _ _ w4 (HV1.out.keep (below_trans HBW0.out HB4.out)) (HV2.out.keep (below_trans HBW0.out HB4.out)) wf1 wf2 HNT.out).mono ?_
  rintro e' w5 ⟨k, h, code, ⟨rfl, hb5⟩, hkr, hhr, hrel⟩
  have HREL := Lib.hid hrel
  have HKR := Lib.hid hkr
  have HHR := Lib.hid hhr
  have hr := (HFAR.out w5 (below_trans HB4.out hb5)).2.2
  have hsz : w.heap.size + 3 ≤ w5.heap.size := by have := (below_trans HB4.out hb5).size; have := HSW0.out; omega
  have HBX := Lib.hid (below_trans HBW0.out (below_trans HB4.out hb5))
  clear hrel hkr hhr hb5 z0 z1 z2 z3 z4 z5 y0 y1 y2 y3 y4 y5
  have y0 : w5.cell? ⟨w.heap.size + 2, 0, none⟩ = some (.int .i64 0) := by simp [World.cell?, hr]
  have y1 : w5.cell? ⟨w.heap.size + 2, 1, none⟩ = some (.int .i64 0) := by simp [World.cell?, hr]
  have y2 : w5.cell? ⟨w.heap.size + 2, 2, none⟩ = some (.string ⟨#[]⟩) := by simp [World.cell?, hr]
  have y3 : w5.cell? ⟨w.heap.size + 2, 3, none⟩ = some (.slice none 0 0) := by simp [World.cell?, hr]
  have y4 : w5.cell? ⟨w.heap.size + 2, 4, none⟩ = some (.slice none 0 0) := by simp [World.cell?, hr]
  have y5 : w5.cell? ⟨w.heap.size + 2, 5, none⟩ = some (.slice none 0 0) := by simp [World.cell?, hr]
  have x0 : w5.cell? ⟨w.heap.size + 1 + 1, 0, none⟩ = some (.int .i64 0) := by simp [World.cell?, hr]
  have x1 : w5.cell? ⟨w.heap.size + 1 + 1, 1, none⟩ = some (.int .i64 0) := by simp [World.cell?, hr]
  have x2 : w5.cell? ⟨w.heap.size + 1 + 1, 2, none⟩ = some (.string ⟨#[]⟩) := by simp [World.cell?, hr]
  have x3 : w5.cell? ⟨w.heap.size + 1 + 1, 3, none⟩ = some (.slice none 0 0) := by simp [World.cell?, hr]
  have x4 : w5.cell? ⟨w.heap.size + 1 + 1, 4, none⟩ = some (.slice none 0 0) := by simp [World.cell?, hr]
  have x5 : w5.cell? ⟨w.heap.size + 1 + 1, 5, none⟩ = some (.slice none 0 0) := by simp [World.cell?, hr]
  have yf : ∀ i, w5.frozen? ⟨w.heap.size + 2, i, none⟩ = false := fun i => by simp [World.frozen?, hr]
  have xf : ∀ i, w5.frozen? ⟨w.heap.size + 1 + 1, i, none⟩ = false := fun i => by simp [World.frozen?, hr]
  clear hr
  go_wp2_with fail
  refine bodyPost_ret (v := .tuple #[.agg #[.int .i64 k, .int .i64 h, .string ⟨#[]⟩, .slice none 0 0, .slice none 0 0, .slice none 0 0], .int .i64 code]) (by simp [results, Tryz.results20, go_sem, y0, y1, y2, y3, y4, y5, x0, x1, x2, x3, x4, x5]) rfl ?_
  have hle : w.heap.size ≤ w.heap.size + 2 := by omega
  refine ⟨k, h, code, ⟨rfl, ?_⟩, HKR.out, HHR.out, HREL.out⟩
  exact ((((((HBX.out.setCell hle _).setCell hle _).setCell hle _).setCell hle _).setCell hle _).setCell hle _)
end Go.Proofs.YtpamlgdcnmcedaaGreatDoor
