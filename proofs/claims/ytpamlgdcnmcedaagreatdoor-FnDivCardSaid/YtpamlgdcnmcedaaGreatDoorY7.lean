/- laws.FnDiv: the walk. -/
import Derived.Test.YtpamlgdcnmcedaaGreatDoorY3
import Derived.Test.YtpamlgdcnmcedaaGreatDoorY6
import Derived.Deep.RegionHeld3
import Derived.Deep.QuietTactic
import Derived.BigQuiet
set_option linter.unusedVariables false
set_option linter.unusedSimpArgs false
set_option maxRecDepth 100000
namespace Go.Proofs.YtpamlgdcnmcedaaGreatDoor
open Go Go.RowKit
theorem wf_num {q : Int} (hq : Fl.Hb q) : WF (V.mk 3 q ⟨#[]⟩ [] [] []) :=
  .mk 3 q ⟨#[]⟩ [] [] [] (by decide) (.inl rfl) (.inr rfl) (.inr rfl) (.inr rfl) rfl hq.1 hq.2 (fun i a b ha => by simp at ha) (fun v hv => by simp at hv) (fun v hv => by simp at hv)
/-- The two answers agree. -/
theorem div_told {a b d v : V} {c code : Int} (h1 : OverRel a b d code) (h2 : DivT a b v c) : ToldOK v c d code := by
  rcases h1 with h1 | ⟨h1, h3⟩ | ⟨h1, ka, kb, h0, q, hq, hd⟩
  · exact .inl h1
  · refine .inr (.inl ⟨h1, ?_⟩)
    rcases h2 with ⟨_, _, hc⟩ | ⟨ka, kb, h0, _⟩
    · exact hc
    · rcases h3 with h3 | h3
      · exact absurd ⟨ka, kb⟩ h3
      · exact absurd h3 h0
  · refine .inr (.inr ⟨h1, ?_⟩)
    rcases h2 with ⟨h3, _⟩ | ⟨_, _, _, h4⟩
    · rcases h3 with h3 | h3
      · exact absurd ⟨ka, kb⟩ h3
      · exact absurd h3 h0
    · obtain ⟨hv, hc⟩ := h4 q hq
      rw [hv, hd]
      exact ⟨hc, wf_num hq.1, wf_num hq.1, cmpV_self _⟩
set_option maxHeartbeats 8000000 in
theorem div_law (v1 v2 : V) (ok : Nat → Prop) (cs1 cs2 : List Value) (w : World) (hv1 : Vr w ok v1 cs1) (hv2 : Vr w ok v2 cs2) (hT : Lib.Utf8Tabs 0 1 w) :
    Calls Tryz.prog 5 #[.agg cs1.toArray, .agg cs2.toArray] w (LawP w) := by
  have HV1 := Lib.hid hv1
  have HV2 := Lib.hid hv2
  have HT := Lib.hid hT
  obtain ⟨k1, h1, t1, l1, ks1, vs1, P1, p1, Q1, q1, R1, r1, f1, g1, i1, i2, i3, i4, i5, i6, i7, i8, i9, i10, i11, i12, i13, i14, i15⟩ := hv1
  clear i1 i2 i3 i4 i5 i6 i7 i8 i9 i10 i11 i12 i13 i14 i15
  obtain ⟨k2, h2, t2, l2, ks2, vs2, P2, p2, Q2, q2, R2, r2, f2, g2, i1, i2, i3, i4, i5, i6, i7, i8, i9, i10, i11, i12, i13, i14, i15⟩ := hv2
  clear i1 i2 i3 i4 i5 i6 i7 i8 i9 i10 i11 i12 i13 i14 i15

  obtain ⟨W0, hW0⟩ : ∃ W0, W0 = (w.alloc (.cells #[.int .i64 k1, .int .i64 h1, .string t1, .slice P1 l1.length p1, .slice Q1 ks1.length q1, .slice R1 vs1.length r1] 26)).alloc (.cells #[.int .i64 k2, .int .i64 h2, .string t2, .slice P2 l2.length p2, .slice Q2 ks2.length q2, .slice R2 vs2.length r2] 26) := ⟨_, rfl⟩
  have hBW0 : Below w.heap.size w W0 := by rw [hW0]; exact (((Below.refl _ _).alloc (Nat.le_refl _) _).alloc (by (try simp); (try omega)) _)
  have hSW0 : W0.heap.size = w.heap.size + 2 := by rw [hW0]; simp
  have hD0 : W0.heap[w.heap.size]? = some (.cells #[.int .i64 k1, .int .i64 h1, .string t1, .slice P1 l1.length p1, .slice Q1 ks1.length q1, .slice R1 vs1.length r1] 26) := by
    rw [hW0]
    have := heap_alloc_new w (.cells #[.int .i64 k1, .int .i64 h1, .string t1, .slice P1 l1.length p1, .slice Q1 ks1.length q1, .slice R1 vs1.length r1] 26)
    exact (Below.heap_alloc _ _ _ (by (try simp); (try omega))).trans (this)
  have hD1 : W0.heap[w.heap.size + 1]? = some (.cells #[.int .i64 k2, .int .i64 h2, .string t2, .slice P2 l2.length p2, .slice Q2 ks2.length q2, .slice R2 vs2.length r2] 26) := by
    rw [hW0]
    have := heap_alloc_new (w.alloc (.cells #[.int .i64 k1, .int .i64 h1, .string t1, .slice P1 l1.length p1, .slice Q1 ks1.length q1, .slice R1 vs1.length r1] 26)) (.cells #[.int .i64 k2, .int .i64 h2, .string t2, .slice P2 l2.length p2, .slice Q2 ks2.length q2, .slice R2 vs2.length r2] 26)
    rw [show (w.alloc (.cells #[.int .i64 k1, .int .i64 h1, .string t1, .slice P1 l1.length p1, .slice Q1 ks1.length q1, .slice R1 vs1.length r1] 26)).heap.size = w.heap.size + 1 from by simp] at this
    exact this
  have hfar : ∀ W, Below W0.heap.size W0 W → W.heap[w.heap.size]? = some (.cells #[.int .i64 k1, .int .i64 h1, .string t1, .slice P1 l1.length p1, .slice Q1 ks1.length q1, .slice R1 vs1.length r1] 26) ∧ W.heap[w.heap.size + 1]? = some (.cells #[.int .i64 k2, .int .i64 h2, .string t2, .slice P2 l2.length p2, .slice Q2 ks2.length q2, .slice R2 vs2.length r2] 26) := fun W hb => ⟨(hb.block _ (by omega)).trans hD0, (hb.block _ (by omega)).trans hD1⟩
  have HFAR := Lib.hid hfar
  have HW0 := Lib.hid hW0
  have HBW0 := Lib.hid hBW0
  have HSW0 := Lib.hid hSW0
  clear hfar hW0 hBW0 hSW0 hD0 hD1
  clear hT
  go_enter Tryz.func5, Tryz.ntmps5
  go_wp2_with fail
  rw [← HW0.out]
  refine (zzFits1_any (V.mk k1 h1 t1 l1 ks1 vs1) ok _ W0 (HV1.out.keep HBW0.out)).mono ?_
  rintro e' w3 ⟨⟨r, rfl⟩, hb3⟩
  have HB3 := Lib.hid hb3
  clear hb3
  obtain ⟨qq1, qq2⟩ := HFAR.out w3 HB3.out
  have z0 : w3.cell? ⟨w.heap.size, 0, none⟩ = some (.int .i64 k1) := by simp [World.cell?, qq1]
  have z1 : w3.cell? ⟨w.heap.size, 1, none⟩ = some (.int .i64 h1) := by simp [World.cell?, qq1]
  have z2 : w3.cell? ⟨w.heap.size, 2, none⟩ = some (.string t1) := by simp [World.cell?, qq1]
  have z3 : w3.cell? ⟨w.heap.size, 3, none⟩ = some (.slice P1 l1.length p1) := by simp [World.cell?, qq1]
  have z4 : w3.cell? ⟨w.heap.size, 4, none⟩ = some (.slice Q1 ks1.length q1) := by simp [World.cell?, qq1]
  have z5 : w3.cell? ⟨w.heap.size, 5, none⟩ = some (.slice R1 vs1.length r1) := by simp [World.cell?, qq1]
  have y0 : w3.cell? ⟨w.heap.size + 1, 0, none⟩ = some (.int .i64 k2) := by simp [World.cell?, qq2]
  have y1 : w3.cell? ⟨w.heap.size + 1, 1, none⟩ = some (.int .i64 h2) := by simp [World.cell?, qq2]
  have y2 : w3.cell? ⟨w.heap.size + 1, 2, none⟩ = some (.string t2) := by simp [World.cell?, qq2]
  have y3 : w3.cell? ⟨w.heap.size + 1, 3, none⟩ = some (.slice P2 l2.length p2) := by simp [World.cell?, qq2]
  have y4 : w3.cell? ⟨w.heap.size + 1, 4, none⟩ = some (.slice Q2 ks2.length q2) := by simp [World.cell?, qq2]
  have y5 : w3.cell? ⟨w.heap.size + 1, 5, none⟩ = some (.slice R2 vs2.length r2) := by simp [World.cell?, qq2]
  clear qq1 qq2
  cases r
  · go_wp2_with fail
    go_ret
    exact ⟨rfl, below_trans HBW0.out HB3.out⟩
  go_wp2_with fail
  refine (zzFits1_any (V.mk k2 h2 t2 l2 ks2 vs2) ok _ w3 (HV2.out.keep (below_trans HBW0.out HB3.out))).mono ?_
  rintro e' w4 ⟨⟨r, rfl⟩, hb4⟩
  have HB4 := Lib.hid (below_trans HB3.out hb4)
  clear hb4
  clear z0 z1 z2 z3 z4 z5 y0 y1 y2 y3 y4 y5
  obtain ⟨qq1, qq2⟩ := HFAR.out w4 HB4.out
  have z0 : w4.cell? ⟨w.heap.size, 0, none⟩ = some (.int .i64 k1) := by simp [World.cell?, qq1]
  have z1 : w4.cell? ⟨w.heap.size, 1, none⟩ = some (.int .i64 h1) := by simp [World.cell?, qq1]
  have z2 : w4.cell? ⟨w.heap.size, 2, none⟩ = some (.string t1) := by simp [World.cell?, qq1]
  have z3 : w4.cell? ⟨w.heap.size, 3, none⟩ = some (.slice P1 l1.length p1) := by simp [World.cell?, qq1]
  have z4 : w4.cell? ⟨w.heap.size, 4, none⟩ = some (.slice Q1 ks1.length q1) := by simp [World.cell?, qq1]
  have z5 : w4.cell? ⟨w.heap.size, 5, none⟩ = some (.slice R1 vs1.length r1) := by simp [World.cell?, qq1]
  have y0 : w4.cell? ⟨w.heap.size + 1, 0, none⟩ = some (.int .i64 k2) := by simp [World.cell?, qq2]
  have y1 : w4.cell? ⟨w.heap.size + 1, 1, none⟩ = some (.int .i64 h2) := by simp [World.cell?, qq2]
  have y2 : w4.cell? ⟨w.heap.size + 1, 2, none⟩ = some (.string t2) := by simp [World.cell?, qq2]
  have y3 : w4.cell? ⟨w.heap.size + 1, 3, none⟩ = some (.slice P2 l2.length p2) := by simp [World.cell?, qq2]
  have y4 : w4.cell? ⟨w.heap.size + 1, 4, none⟩ = some (.slice Q2 ks2.length q2) := by simp [World.cell?, qq2]
  have y5 : w4.cell? ⟨w.heap.size + 1, 5, none⟩ = some (.slice R2 vs2.length r2) := by simp [World.cell?, qq2]
  clear qq1 qq2
  cases r
  · go_wp2_with fail
    go_ret
    exact ⟨rfl, below_trans HBW0.out HB4.out⟩
  go_wp2_with fail
  refine (fit2_any (V.mk k1 h1 t1 l1 ks1 vs1) (V.mk k2 h2 t2 l2 ks2 vs2) ok _ _ w4 (HV1.out.keep (below_trans HBW0.out HB4.out)) (HV2.out.keep (below_trans HBW0.out HB4.out)) (Utf8Tabs_below HT.out (below_trans HBW0.out HB4.out))).mono ?_
  rintro e' w5 ⟨hb5, r, rfl, hfit⟩
  have HB5 := Lib.hid (below_trans HB4.out hb5)
  have HF := Lib.hid hfit
  clear hb5 hfit
  clear z0 z1 z2 z3 z4 z5 y0 y1 y2 y3 y4 y5
  obtain ⟨qq1, qq2⟩ := HFAR.out w5 HB5.out
  have z0 : w5.cell? ⟨w.heap.size, 0, none⟩ = some (.int .i64 k1) := by simp [World.cell?, qq1]
  have z1 : w5.cell? ⟨w.heap.size, 1, none⟩ = some (.int .i64 h1) := by simp [World.cell?, qq1]
  have z2 : w5.cell? ⟨w.heap.size, 2, none⟩ = some (.string t1) := by simp [World.cell?, qq1]
  have z3 : w5.cell? ⟨w.heap.size, 3, none⟩ = some (.slice P1 l1.length p1) := by simp [World.cell?, qq1]
  have z4 : w5.cell? ⟨w.heap.size, 4, none⟩ = some (.slice Q1 ks1.length q1) := by simp [World.cell?, qq1]
  have z5 : w5.cell? ⟨w.heap.size, 5, none⟩ = some (.slice R1 vs1.length r1) := by simp [World.cell?, qq1]
  have y0 : w5.cell? ⟨w.heap.size + 1, 0, none⟩ = some (.int .i64 k2) := by simp [World.cell?, qq2]
  have y1 : w5.cell? ⟨w.heap.size + 1, 1, none⟩ = some (.int .i64 h2) := by simp [World.cell?, qq2]
  have y2 : w5.cell? ⟨w.heap.size + 1, 2, none⟩ = some (.string t2) := by simp [World.cell?, qq2]
  have y3 : w5.cell? ⟨w.heap.size + 1, 3, none⟩ = some (.slice P2 l2.length p2) := by simp [World.cell?, qq2]
  have y4 : w5.cell? ⟨w.heap.size + 1, 4, none⟩ = some (.slice Q2 ks2.length q2) := by simp [World.cell?, qq2]
  have y5 : w5.cell? ⟨w.heap.size + 1, 5, none⟩ = some (.slice R2 vs2.length r2) := by simp [World.cell?, qq2]
  clear qq1 qq2
  cases r
  · go_wp2_with fail
    go_ret
    exact ⟨rfl, below_trans HBW0.out HB5.out⟩
  have WV := Lib.hid (HF.out rfl)
  by_cases hnt : k1 = 4 ∧ k2 = 4
  · obtain ⟨rfl, rfl⟩ := hnt
    go_wp2_with fail
    go_ret
    exact ⟨rfl, below_trans HBW0.out HB5.out⟩
  have HNT := Lib.hid (show ¬ ((V.mk k1 h1 t1 l1 ks1 vs1).kind = 4 ∧ (V.mk k2 h2 t2 l2 ks2 vs2).kind = 4) from hnt)
  have hbeq : ¬ k1 = 4 ∨ (k1 = 4 ∧ ¬ k2 = 4) := by omega
  have HOP := Lib.hid (operate_any (V.mk k1 h1 t1 l1 ks1 vs1) (V.mk k2 h2 t2 l2 ks2 vs2) ok _ _ w5 (HV1.out.keep (below_trans HBW0.out HB5.out)) (HV2.out.keep (below_trans HBW0.out HB5.out)) WV.out.1.1 WV.out.2.1 HNT.out)
  rcases hbeq with hne | ⟨rfl, hne⟩
  · go_wp2_with fail
    refine HOP.out.mono ?_
    rintro e' w6 ⟨k, h, code, ⟨rfl, hb6⟩, hkr, hhr, hrel⟩
    have HB6 := Lib.hid (below_trans HB5.out hb6)
    have HREL := Lib.hid hrel
    have HKR := Lib.hid hkr
    have HHR := Lib.hid hhr
    clear hb6 hrel hkr hhr
    clear z0 z1 z2 z3 z4 z5 y0 y1 y2 y3 y4 y5
    obtain ⟨W7, hW7⟩ : ∃ W7, W7 = w6.alloc (.cells #[.int .i64 k, .int .i64 h, .string ⟨#[]⟩, .slice none 0 0, .slice none 0 0, .slice none 0 0] 26) := ⟨_, rfl⟩
    have hb7 : Below w6.heap.size w6 W7 := by rw [hW7]; exact (Below.refl _ _).alloc (Nat.le_refl _) _
    have hc7 : W7.heap[w6.heap.size]? = some (.cells #[.int .i64 k, .int .i64 h, .string ⟨#[]⟩, .slice none 0 0, .slice none 0 0, .slice none 0 0] 26) := by rw [hW7]; exact heap_alloc_new w6 _
    have HW7 := Lib.hid hW7
    have HB7 := Lib.hid (below_trans HB6.out hb7)
    have HC7 := Lib.hid hc7
    clear hW7 hb7 hc7
    go_upto_region 6 with fail
    rw [← HW7.out]
    have HK := Lib.hid (show ∀ W : World, Below W7.heap.size W7 W → W.cell? ⟨w.heap.size, 0, none⟩ = some (.int .i64 k1) ∧ W.cell? ⟨w.heap.size, 1, none⟩ = some (.int .i64 h1) ∧ W.cell? ⟨w.heap.size, 2, none⟩ = some (.string t1) ∧ W.cell? ⟨w.heap.size, 3, none⟩ = some (.slice P1 l1.length p1) ∧ W.cell? ⟨w.heap.size, 4, none⟩ = some (.slice Q1 ks1.length q1) ∧ W.cell? ⟨w.heap.size, 5, none⟩ = some (.slice R1 vs1.length r1) ∧ W.cell? ⟨w.heap.size + 1, 0, none⟩ = some (.int .i64 k2) ∧ W.cell? ⟨w.heap.size + 1, 1, none⟩ = some (.int .i64 h2) ∧ W.cell? ⟨w.heap.size + 1, 2, none⟩ = some (.string t2) ∧ W.cell? ⟨w.heap.size + 1, 3, none⟩ = some (.slice P2 l2.length p2) ∧ W.cell? ⟨w.heap.size + 1, 4, none⟩ = some (.slice Q2 ks2.length q2) ∧ W.cell? ⟨w.heap.size + 1, 5, none⟩ = some (.slice R2 vs2.length r2) ∧ W.cell? ⟨w6.heap.size, 0, none⟩ = some (.int .i64 k) ∧ W.cell? ⟨w6.heap.size, 1, none⟩ = some (.int .i64 h) ∧ W.cell? ⟨w6.heap.size, 2, none⟩ = some (.string ⟨#[]⟩) ∧ W.cell? ⟨w6.heap.size, 3, none⟩ = some (.slice none 0 0) ∧ W.cell? ⟨w6.heap.size, 4, none⟩ = some (.slice none 0 0) ∧ W.cell? ⟨w6.heap.size, 5, none⟩ = some (.slice none 0 0) from fun W hb => by
      obtain ⟨q1, q2⟩ := HFAR.out W (below_trans HB7.out hb)
      have q3 := (hb.block _ (heap_lt HC7.out)).trans HC7.out
      refine ⟨?_, ?_, ?_, ?_, ?_, ?_, ?_, ?_, ?_, ?_, ?_, ?_, ?_, ?_, ?_, ?_, ?_, ?_⟩ <;> simp [World.cell?, q1, q2, q3])
    have hk9 := HK.out W7 (Below.refl _ _)
    obtain ⟨z0, z1, z2, z3, z4, z5, y0, y1, y2, y3, y4, y5, x0, x1, x2, x3, x4, x5⟩ := hk9
    have HFT := Lib.hid (opDiv_any (V.mk k1 h1 t1 l1 ks1 vs1) (V.mk k2 h2 t2 l2 ks2 vs2) ok _ _ W7.drew ((HV1.out.keep (below_trans HBW0.out HB7.out)).keep (Below.refl _ _).drew) ((HV2.out.keep (below_trans HBW0.out HB7.out)).keep (Below.refl _ _).drew) WV.out.1.1 WV.out.2.1 (sm_of (by have := WV.out.1.2; omega)) (sm_of (by have := WV.out.2.2; omega)) HNT.out)
    go_region_held3 (fun W : World => W.cell? ⟨w.heap.size, 0, none⟩ = some (.int .i64 k1) ∧ W.cell? ⟨w.heap.size, 1, none⟩ = some (.int .i64 h1) ∧ W.cell? ⟨w.heap.size, 2, none⟩ = some (.string t1) ∧ W.cell? ⟨w.heap.size, 3, none⟩ = some (.slice P1 l1.length p1) ∧ W.cell? ⟨w.heap.size, 4, none⟩ = some (.slice Q1 ks1.length q1) ∧ W.cell? ⟨w.heap.size, 5, none⟩ = some (.slice R1 vs1.length r1) ∧ W.cell? ⟨w.heap.size + 1, 0, none⟩ = some (.int .i64 k2) ∧ W.cell? ⟨w.heap.size + 1, 1, none⟩ = some (.int .i64 h2) ∧ W.cell? ⟨w.heap.size + 1, 2, none⟩ = some (.string t2) ∧ W.cell? ⟨w.heap.size + 1, 3, none⟩ = some (.slice P2 l2.length p2) ∧ W.cell? ⟨w.heap.size + 1, 4, none⟩ = some (.slice Q2 ks2.length q2) ∧ W.cell? ⟨w.heap.size + 1, 5, none⟩ = some (.slice R2 vs2.length r2) ∧ W.cell? ⟨w6.heap.size, 0, none⟩ = some (.int .i64 k) ∧ W.cell? ⟨w6.heap.size, 1, none⟩ = some (.int .i64 h) ∧ W.cell? ⟨w6.heap.size, 2, none⟩ = some (.string ⟨#[]⟩) ∧ W.cell? ⟨w6.heap.size, 3, none⟩ = some (.slice none 0 0) ∧ W.cell? ⟨w6.heap.size, 4, none⟩ = some (.slice none 0 0) ∧ W.cell? ⟨w6.heap.size, 5, none⟩ = some (.slice none 0 0))
      (first | exact HK.out _ hbd | exact HK.out _ hbc | exact HK.out _ (by repeat (first | with_reducible exact Below.refl _ _ | with_reducible apply Below.drew)) | go_keep)
      ((first | (go_at_call 21; refine HFT.out.mono ?_; rintro e' w' hpost; obtain ⟨v7, a0, a1, s, S3, S4, S5, n3, m3, n4, m4, n5, m5, c, rfl, hv7, hT7, hb'⟩ := resPost_shape hpost; have hbc : Below W7.heap.size W7 w' := Below.trans (Below.drew (Below.refl _ _)) hb'; have HT7 := Lib.hid hT7; have HV7 := Lib.hid (hv7.mono (ok' := fun _ => True) (fun _ _ => trivial)); clear hv7 hT7 hpost) | (go_at_call 13; refine (told_any v7 (V.mk k h ⟨#[]⟩ [] [] []) c code (fun _ => True) a0 a1 s S3 S4 S5 n3 m3 n4 m4 n5 m5 _ _ HV7.out (vr_plain' k h HKR.out HHR.out) (div_told HREL.out HT7.out)).mono ?_; rintro e' w'' ⟨rfl, hb''⟩; have hbd : Below W7.heap.size W7 w'' := below_trans hbc hb'')))
    have HBD := Lib.hid hbd
    clear hb' hb'' hbc hbd z0 z1 z2 z3 z4 z5 y0 y1 y2 y3 y4 y5 x0 x1 x2 x3 x4 x5
    go_wp2_with fail
    go_ret
    exact ⟨rfl, below_trans HBW0.out (below_trans HB7.out HBD.out)⟩
  · go_wp2_with fail
    refine HOP.out.mono ?_
    rintro e' w6 ⟨k, h, code, ⟨rfl, hb6⟩, hkr, hhr, hrel⟩
    have HB6 := Lib.hid (below_trans HB5.out hb6)
    have HREL := Lib.hid hrel
    have HKR := Lib.hid hkr
    have HHR := Lib.hid hhr
    clear hb6 hrel hkr hhr
    clear z0 z1 z2 z3 z4 z5 y0 y1 y2 y3 y4 y5
    obtain ⟨W7, hW7⟩ : ∃ W7, W7 = w6.alloc (.cells #[.int .i64 k, .int .i64 h, .string ⟨#[]⟩, .slice none 0 0, .slice none 0 0, .slice none 0 0] 26) := ⟨_, rfl⟩
    have hb7 : Below w6.heap.size w6 W7 := by rw [hW7]; exact (Below.refl _ _).alloc (Nat.le_refl _) _
    have hc7 : W7.heap[w6.heap.size]? = some (.cells #[.int .i64 k, .int .i64 h, .string ⟨#[]⟩, .slice none 0 0, .slice none 0 0, .slice none 0 0] 26) := by rw [hW7]; exact heap_alloc_new w6 _
    have HW7 := Lib.hid hW7
    have HB7 := Lib.hid (below_trans HB6.out hb7)
    have HC7 := Lib.hid hc7
    clear hW7 hb7 hc7
    go_upto_region 6 with fail
    rw [← HW7.out]
    have HK := Lib.hid (show ∀ W : World, Below W7.heap.size W7 W → W.cell? ⟨w.heap.size, 0, none⟩ = some (.int .i64 4) ∧ W.cell? ⟨w.heap.size, 1, none⟩ = some (.int .i64 h1) ∧ W.cell? ⟨w.heap.size, 2, none⟩ = some (.string t1) ∧ W.cell? ⟨w.heap.size, 3, none⟩ = some (.slice P1 l1.length p1) ∧ W.cell? ⟨w.heap.size, 4, none⟩ = some (.slice Q1 ks1.length q1) ∧ W.cell? ⟨w.heap.size, 5, none⟩ = some (.slice R1 vs1.length r1) ∧ W.cell? ⟨w.heap.size + 1, 0, none⟩ = some (.int .i64 k2) ∧ W.cell? ⟨w.heap.size + 1, 1, none⟩ = some (.int .i64 h2) ∧ W.cell? ⟨w.heap.size + 1, 2, none⟩ = some (.string t2) ∧ W.cell? ⟨w.heap.size + 1, 3, none⟩ = some (.slice P2 l2.length p2) ∧ W.cell? ⟨w.heap.size + 1, 4, none⟩ = some (.slice Q2 ks2.length q2) ∧ W.cell? ⟨w.heap.size + 1, 5, none⟩ = some (.slice R2 vs2.length r2) ∧ W.cell? ⟨w6.heap.size, 0, none⟩ = some (.int .i64 k) ∧ W.cell? ⟨w6.heap.size, 1, none⟩ = some (.int .i64 h) ∧ W.cell? ⟨w6.heap.size, 2, none⟩ = some (.string ⟨#[]⟩) ∧ W.cell? ⟨w6.heap.size, 3, none⟩ = some (.slice none 0 0) ∧ W.cell? ⟨w6.heap.size, 4, none⟩ = some (.slice none 0 0) ∧ W.cell? ⟨w6.heap.size, 5, none⟩ = some (.slice none 0 0) from fun W hb => by
      obtain ⟨q1, q2⟩ := HFAR.out W (below_trans HB7.out hb)
      have q3 := (hb.block _ (heap_lt HC7.out)).trans HC7.out
      refine ⟨?_, ?_, ?_, ?_, ?_, ?_, ?_, ?_, ?_, ?_, ?_, ?_, ?_, ?_, ?_, ?_, ?_, ?_⟩ <;> simp [World.cell?, q1, q2, q3])
    have hk9 := HK.out W7 (Below.refl _ _)
    obtain ⟨z0, z1, z2, z3, z4, z5, y0, y1, y2, y3, y4, y5, x0, x1, x2, x3, x4, x5⟩ := hk9
    have HFT := Lib.hid (opDiv_any (V.mk 4 h1 t1 l1 ks1 vs1) (V.mk k2 h2 t2 l2 ks2 vs2) ok _ _ W7.drew ((HV1.out.keep (below_trans HBW0.out HB7.out)).keep (Below.refl _ _).drew) ((HV2.out.keep (below_trans HBW0.out HB7.out)).keep (Below.refl _ _).drew) WV.out.1.1 WV.out.2.1 (sm_of (by have := WV.out.1.2; omega)) (sm_of (by have := WV.out.2.2; omega)) HNT.out)
    go_region_held3 (fun W : World => W.cell? ⟨w.heap.size, 0, none⟩ = some (.int .i64 4) ∧ W.cell? ⟨w.heap.size, 1, none⟩ = some (.int .i64 h1) ∧ W.cell? ⟨w.heap.size, 2, none⟩ = some (.string t1) ∧ W.cell? ⟨w.heap.size, 3, none⟩ = some (.slice P1 l1.length p1) ∧ W.cell? ⟨w.heap.size, 4, none⟩ = some (.slice Q1 ks1.length q1) ∧ W.cell? ⟨w.heap.size, 5, none⟩ = some (.slice R1 vs1.length r1) ∧ W.cell? ⟨w.heap.size + 1, 0, none⟩ = some (.int .i64 k2) ∧ W.cell? ⟨w.heap.size + 1, 1, none⟩ = some (.int .i64 h2) ∧ W.cell? ⟨w.heap.size + 1, 2, none⟩ = some (.string t2) ∧ W.cell? ⟨w.heap.size + 1, 3, none⟩ = some (.slice P2 l2.length p2) ∧ W.cell? ⟨w.heap.size + 1, 4, none⟩ = some (.slice Q2 ks2.length q2) ∧ W.cell? ⟨w.heap.size + 1, 5, none⟩ = some (.slice R2 vs2.length r2) ∧ W.cell? ⟨w6.heap.size, 0, none⟩ = some (.int .i64 k) ∧ W.cell? ⟨w6.heap.size, 1, none⟩ = some (.int .i64 h) ∧ W.cell? ⟨w6.heap.size, 2, none⟩ = some (.string ⟨#[]⟩) ∧ W.cell? ⟨w6.heap.size, 3, none⟩ = some (.slice none 0 0) ∧ W.cell? ⟨w6.heap.size, 4, none⟩ = some (.slice none 0 0) ∧ W.cell? ⟨w6.heap.size, 5, none⟩ = some (.slice none 0 0))
      (first | exact HK.out _ hbd | exact HK.out _ hbc | exact HK.out _ (by repeat (first | with_reducible exact Below.refl _ _ | with_reducible apply Below.drew)) | go_keep)
      ((first | (go_at_call 21; refine HFT.out.mono ?_; rintro e' w' hpost; obtain ⟨v7, a0, a1, s, S3, S4, S5, n3, m3, n4, m4, n5, m5, c, rfl, hv7, hT7, hb'⟩ := resPost_shape hpost; have hbc : Below W7.heap.size W7 w' := Below.trans (Below.drew (Below.refl _ _)) hb'; have HT7 := Lib.hid hT7; have HV7 := Lib.hid (hv7.mono (ok' := fun _ => True) (fun _ _ => trivial)); clear hv7 hT7 hpost) | (go_at_call 13; refine (told_any v7 (V.mk k h ⟨#[]⟩ [] [] []) c code (fun _ => True) a0 a1 s S3 S4 S5 n3 m3 n4 m4 n5 m5 _ _ HV7.out (vr_plain' k h HKR.out HHR.out) (div_told HREL.out HT7.out)).mono ?_; rintro e' w'' ⟨rfl, hb''⟩; have hbd : Below W7.heap.size W7 w'' := below_trans hbc hb'')))
    have HBD := Lib.hid hbd
    clear hb' hb'' hbc hbd z0 z1 z2 z3 z4 z5 y0 y1 y2 y3 y4 y5 x0 x1 x2 x3 x4 x5
    go_wp2_with fail
    go_ret
    exact ⟨rfl, below_trans HBW0.out (below_trans HB7.out HBD.out)⟩
end Go.Proofs.YtpamlgdcnmcedaaGreatDoor
