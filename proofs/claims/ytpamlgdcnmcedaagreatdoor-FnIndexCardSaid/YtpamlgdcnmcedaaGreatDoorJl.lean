/- laws.FnIndex: the walk. -/
import Derived.Test.YtpamlgdcnmcedaaGreatDoorJi
import Derived.Test.YtpamlgdcnmcedaaGreatDoorSv
import Derived.Deep.RegionHeld3
import Derived.Deep.QuietTactic
import Derived.BigQuiet
set_option linter.unusedVariables false
set_option linter.unusedSimpArgs false
set_option maxRecDepth 100000
namespace Go.Proofs.YtpamlgdcnmcedaaGreatDoor
open Go Go.RowKit
def pairF (a b : List Value) (i : Nat) : List Value := if i = 0 then a else b
theorem row_pair {w : World} {g : Nat} {a0 a1 a2 a3 a4 a5 b0 b1 b2 b3 b4 b5 : Value} {t : TypeId} {fz : Nat × Nat} (h : w.heap[g]? = some (.cells #[a0, a1, a2, a3, a4, a5, b0, b1, b2, b3, b4, b5] t fz)) :
    RowAt w (fun _ => True) 6 (some ⟨g, 0, none⟩) 2 (pairF [a0, a1, a2, a3, a4, a5] [b0, b1, b2, b3, b4, b5]) := fun _ => ⟨_, rfl, trivial, fun i j u hi hu => by
  have hi2 : i = 0 ∨ i = 1 := by omega
  rcases hi2 with rfl | rfl
  all_goals
    match j, hu with
    | 0, hu => simp [pairF] at hu; subst hu; simp [World.cell?, Addr.add, h]
    | 1, hu => simp [pairF] at hu; subst hu; simp [World.cell?, Addr.add, h]
    | 2, hu => simp [pairF] at hu; subst hu; simp [World.cell?, Addr.add, h]
    | 3, hu => simp [pairF] at hu; subst hu; simp [World.cell?, Addr.add, h]
    | 4, hu => simp [pairF] at hu; subst hu; simp [World.cell?, Addr.add, h]
    | 5, hu => simp [pairF] at hu; subst hu; simp [World.cell?, Addr.add, h]
    | j + 6, hu => simp [pairF] at hu⟩
theorem list_parts (v : V) : v.list.length ≤ v.parts := by
  have h1 := parts_list v
  have h2 := V.partsL_len v.list
  omega
set_option maxHeartbeats 8000000 in
theorem index_law (v1 v2 : V) (ok : Nat → Prop) (cs1 cs2 : List Value) (w : World) (hv1 : Vr w ok v1 cs1) (hv2 : Vr w ok v2 cs2) (hT : Lib.Utf8Tabs 0 1 w) :
    Calls Tryz.prog 6 #[.agg cs1.toArray, .agg cs2.toArray] w (LawP w) := by
  have HV1 := Lib.hid hv1
  have HV2 := Lib.hid hv2
  have HT := Lib.hid hT
  obtain ⟨k1, h1, t1, l1, ks1, vs1, P1, p1, Q1, q1, R1, r1, f1, g1, i1, i2, i3, i4, i5, i6, i7, i8, i9, i10, i11, i12, i13, i14, i15⟩ := hv1
  clear i1 i2 i3 i4 i5 i6 i7 i8 i9 i10 i11 i12 i13 i14 i15
  obtain ⟨k2, h2, t2, l2, ks2, vs2, P2, p2, Q2, q2, R2, r2, f2, g2, i1, i2, i3, i4, i5, i6, i7, i8, i9, i10, i11, i12, i13, i14, i15⟩ := hv2
  clear i1 i2 i3 i4 i5 i6 i7 i8 i9 i10 i11 i12 i13 i14 i15
  clear hT
  obtain ⟨W0, hW0⟩ : ∃ W0, W0 = (w.alloc (.cells #[.int .i64 k1, .int .i64 h1, .string t1, .slice P1 l1.length p1, .slice Q1 ks1.length q1, .slice R1 vs1.length r1] 26)).alloc (.cells #[.int .i64 k2, .int .i64 h2, .string t2, .slice P2 l2.length p2, .slice Q2 ks2.length q2, .slice R2 vs2.length r2] 26) := ⟨_, rfl⟩
  have hBW0 : Below w.heap.size w W0 := by rw [hW0]; exact (((Below.refl _ _).alloc (Nat.le_refl _) _).alloc (by (try simp); (try omega)) _)
  have hSW0 : W0.heap.size = w.heap.size + 2 := by rw [hW0]; simp
  have hD0 : W0.heap[w.heap.size]? = some (.cells #[.int .i64 k1, .int .i64 h1, .string t1, .slice P1 l1.length p1, .slice Q1 ks1.length q1, .slice R1 vs1.length r1] 26) := by
    rw [hW0]
    have := heap_alloc_new w (.cells #[.int .i64 k1, .int .i64 h1, .string t1, .slice P1 l1.length p1, .slice Q1 ks1.length q1, .slice R1 vs1.length r1] 26)
    exact (Below.heap_alloc _ _ _ (by (try simp); (try omega))).trans (this)
  have hD1 : W0.heap[w.heap.size + 1]? = some (.cells #[.int .i64 k2, .int .i64 h2, .string t2, .slice P2 l2.length p2, .slice Q2 ks2.length q2, .slice R2 vs2.length r2] 26) := by
    rw [hW0]
    have := heap_alloc_new (w.alloc (.cells #[.int .i64 k1, .int .i64 h1, .string t1, .slice P1 l1.length p1, .slice Q1 ks1.length q1, .slice R1 vs1.length r1] 26)) (.cells #[.int .i64 k2, .int .i64 h2, .string t2, .slice P2 l2.length p2, .slice Q2 ks2.length q2, .slice R2 vs2.length r2] 26)
    rw [show (w.alloc (.cells #[.int .i64 k1, .int .i64 h1, .string t1, .slice P1 l1.length p1, .slice Q1 ks1.length q1, .slice R1 vs1.length r1] 26)).heap.size = w.heap.size + 1 from by simp] at this
    exact this
  have hfar : ∀ W, Below W0.heap.size W0 W → W.heap[w.heap.size]? = some (.cells #[.int .i64 k1, .int .i64 h1, .string t1, .slice P1 l1.length p1, .slice Q1 ks1.length q1, .slice R1 vs1.length r1] 26) ∧ W.heap[w.heap.size + 1]? = some (.cells #[.int .i64 k2, .int .i64 h2, .string t2, .slice P2 l2.length p2, .slice Q2 ks2.length q2, .slice R2 vs2.length r2] 26) := fun W hb => ⟨(hb.block _ (by omega)).trans hD0, (hb.block _ (by omega)).trans hD1⟩
  have HFAR := Lib.hid hfar
  have HW0 := Lib.hid hW0
  have HBW0 := Lib.hid hBW0
  have HSW0 := Lib.hid hSW0
  clear hfar hW0 hBW0 hSW0 hD0 hD1
  have HK0 := Lib.hid (show ∀ W : World, Below W0.heap.size W0 W → W.cell? ⟨w.heap.size, 0, none⟩ = some (.int .i64 k1) ∧ W.cell? ⟨w.heap.size, 1, none⟩ = some (.int .i64 h1) ∧ W.cell? ⟨w.heap.size, 2, none⟩ = some (.string t1) ∧ W.cell? ⟨w.heap.size, 3, none⟩ = some (.slice P1 l1.length p1) ∧ W.cell? ⟨w.heap.size, 4, none⟩ = some (.slice Q1 ks1.length q1) ∧ W.cell? ⟨w.heap.size, 5, none⟩ = some (.slice R1 vs1.length r1) ∧ W.cell? ⟨w.heap.size + 1, 0, none⟩ = some (.int .i64 k2) ∧ W.cell? ⟨w.heap.size + 1, 1, none⟩ = some (.int .i64 h2) ∧ W.cell? ⟨w.heap.size + 1, 2, none⟩ = some (.string t2) ∧ W.cell? ⟨w.heap.size + 1, 3, none⟩ = some (.slice P2 l2.length p2) ∧ W.cell? ⟨w.heap.size + 1, 4, none⟩ = some (.slice Q2 ks2.length q2) ∧ W.cell? ⟨w.heap.size + 1, 5, none⟩ = some (.slice R2 vs2.length r2) from fun W hb => by
    obtain ⟨q1, q2⟩ := HFAR.out W hb
    refine ⟨?_, ?_, ?_, ?_, ?_, ?_, ?_, ?_, ?_, ?_, ?_, ?_⟩ <;> simp [World.cell?, q1, q2])
  go_enter Tryz.func6, Tryz.ntmps6
  go_wp2_with fail
  rw [← HW0.out]
  refine (zzFits1_any (V.mk k1 h1 t1 l1 ks1 vs1) ok _ W0 (HV1.out.keep HBW0.out)).mono ?_
  rintro e' w3 ⟨⟨r, rfl⟩, hb3⟩
  have HB3 := Lib.hid hb3
  clear hb3
  obtain ⟨z0, z1, z2, z3, z4, z5, y0, y1, y2, y3, y4, y5⟩ := HK0.out w3 HB3.out
  cases r
  · go_wp2_with fail
    go_ret
    exact ⟨rfl, below_trans HBW0.out HB3.out⟩
  go_wp2_with fail
  refine (zzFits1_any (V.mk k2 h2 t2 l2 ks2 vs2) ok _ w3 (HV2.out.keep (below_trans HBW0.out HB3.out))).mono ?_
  rintro e' w4 ⟨⟨r, rfl⟩, hb4⟩
  have HB4 := Lib.hid (below_trans HB3.out hb4)
  clear hb4 z0 z1 z2 z3 z4 z5 y0 y1 y2 y3 y4 y5
  obtain ⟨z0, z1, z2, z3, z4, z5, y0, y1, y2, y3, y4, y5⟩ := HK0.out w4 HB4.out
  cases r
  · go_wp2_with fail
    go_ret
    exact ⟨rfl, below_trans HBW0.out HB4.out⟩
  obtain ⟨W5, hW5⟩ : ∃ W5, W5 = w4.alloc (.cells #[.int .i64 k1, .int .i64 h1, .string t1, .slice P1 l1.length p1, .slice Q1 ks1.length q1, .slice R1 vs1.length r1, .int .i64 k2, .int .i64 h2, .string t2, .slice P2 l2.length p2, .slice Q2 ks2.length q2, .slice R2 vs2.length r2] 26) := ⟨_, rfl⟩
  have hb5 : Below w4.heap.size w4 W5 := by rw [hW5]; exact (Below.refl _ _).alloc (Nat.le_refl _) _
  have hc5 : W5.heap[w4.heap.size]? = some (.cells #[.int .i64 k1, .int .i64 h1, .string t1, .slice P1 l1.length p1, .slice Q1 ks1.length q1, .slice R1 vs1.length r1, .int .i64 k2, .int .i64 h2, .string t2, .slice P2 l2.length p2, .slice Q2 ks2.length q2, .slice R2 vs2.length r2] 26) := by rw [hW5]; exact heap_alloc_new w4 _
  have HW5 := Lib.hid hW5
  have HB5 := Lib.hid (below_trans HB4.out hb5)
  have HFIT := Lib.hid (fits_any [(V.mk k1 h1 t1 l1 ks1 vs1), (V.mk k2 h2 t2 l2 ks2 vs2)] 2 rfl (fun _ => True) _ 2 _ W5 (row_pair hc5) (fun i v hv => by
    match i, hv with
    | 0, hv => simp at hv; subst hv; exact (HV1.out.keep (below_trans HBW0.out HB5.out)).mono fun _ _ => trivial
    | 1, hv => simp at hv; subst hv; exact (HV2.out.keep (below_trans HBW0.out HB5.out)).mono fun _ _ => trivial
    | i + 2, hv => simp at hv) (by decide) (Utf8Tabs_below HT.out (below_trans HBW0.out HB5.out)))
  clear hW5 hb5 hc5
  go_wp2_with fail
  rw [← HW5.out]
  refine HFIT.out.mono ?_
  rintro e' w6 ⟨hb6, r, rfl, hfit⟩
  have HB6 := Lib.hid (below_trans HB5.out hb6)
  have HF := Lib.hid hfit
  clear hb6 hfit z0 z1 z2 z3 z4 z5 y0 y1 y2 y3 y4 y5
  cases r
  · go_wp2_with fail
    go_ret
    exact ⟨rfl, below_trans HBW0.out HB6.out⟩
  have WV := Lib.hid (HF.out rfl (V.mk k1 h1 t1 l1 ks1 vs1) (by simp))
  have WK := Lib.hid (HF.out rfl (V.mk k2 h2 t2 l2 ks2 vs2) (by simp))
  obtain ⟨z0, z1, z2, z3, z4, z5, y0, y1, y2, y3, y4, y5⟩ := HK0.out w6 HB6.out
  have HIDX := Lib.hid (specIndex_any (V.mk k1 h1 t1 l1 ks1 vs1) (V.mk k2 h2 t2 l2 ks2 vs2) (fun _ => True) _ _ w6 ((HV1.out.keep (below_trans HBW0.out HB6.out)).mono fun _ _ => trivial) ((HV2.out.keep (below_trans HBW0.out HB6.out)).mono fun _ _ => trivial) WV.out.1 WK.out.1 (by have h1 := list_parts (V.mk k1 h1 t1 l1 ks1 vs1); have h2 := WV.out.2.1; omega) WV.out.2.2.2 WV.out.2.2.1)
  go_wp2_with fail
  refine HIDX.out.mono ?_
  rintro e' w8 ⟨d, a0, a1, s, S3, S4, S5, n3, m3, n4, m4, n5, m5, code, rfl, hvd, hTd, hb8⟩
  have HB8 := Lib.hid (below_trans HB6.out hb8)
  have HTD := Lib.hid hTd
  obtain ⟨W9, hW9⟩ : ∃ W9, W9 = w8.alloc (.cells #[.int .i64 a0, .int .i64 a1, .string s, .slice S3 n3 m3, .slice S4 n4 m4, .slice S5 n5 m5] 26) := ⟨_, rfl⟩
  have hb9 : Below w8.heap.size w8 W9 := by rw [hW9]; exact (Below.refl _ _).alloc (Nat.le_refl _) _
  have hc9 : W9.heap[w8.heap.size]? = some (.cells #[.int .i64 a0, .int .i64 a1, .string s, .slice S3 n3 m3, .slice S4 n4 m4, .slice S5 n5 m5] 26) := by rw [hW9]; exact heap_alloc_new w8 _
  have HVD := Lib.hid ((hvd.mono (ok' := fun _ => True) fun _ _ => trivial).keep hb9)
  have HW9 := Lib.hid hW9
  have HB9 := Lib.hid (below_trans HB8.out hb9)
  have HC9 := Lib.hid hc9
  clear hW9 hb9 hc9 hb8 hvd z0 z1 z2 z3 z4 z5 y0 y1 y2 y3 y4 y5
  have hcc : code = 2 ∨ code = 1 ∨ code = 0 := by
    rcases hTd with h | ⟨h, _⟩ | ⟨h, _⟩
    · exact .inl h
    · exact .inr (.inl h)
    · exact .inr (.inr h)
  clear hTd
  obtain ⟨z0, z1, z2, z3, z4, z5, y0, y1, y2, y3, y4, y5⟩ := HK0.out w8 HB8.out
  rcases hcc with rfl | hcc
  · go_wp2_with fail
    go_ret
    exact ⟨rfl, by rw [← HW9.out]; exact below_trans HBW0.out HB9.out⟩
  have HFX := Lib.hid (fun (W : World) (hb : Below W9.heap.size W9 W) => index_any2 (V.mk k1 h1 t1 l1 ks1 vs1) (V.mk k2 h2 t2 l2 ks2 vs2) d code (fun _ => True) _ _ W (((HV1.out.keep (below_trans HBW0.out (below_trans HB9.out hb)))).mono fun _ _ => trivial) (((HV2.out.keep (below_trans HBW0.out (below_trans HB9.out hb)))).mono fun _ _ => trivial) WV.out.1 WK.out.1 (by have := WV.out.2.1; omega) (by have := WK.out.2.1; omega) WV.out.2.2.2 HTD.out (by omega))
  have HK := Lib.hid (show ∀ W : World, Below W9.heap.size W9 W → W.cell? ⟨w.heap.size, 0, none⟩ = some (.int .i64 k1) ∧ W.cell? ⟨w.heap.size, 1, none⟩ = some (.int .i64 h1) ∧ W.cell? ⟨w.heap.size, 2, none⟩ = some (.string t1) ∧ W.cell? ⟨w.heap.size, 3, none⟩ = some (.slice P1 l1.length p1) ∧ W.cell? ⟨w.heap.size, 4, none⟩ = some (.slice Q1 ks1.length q1) ∧ W.cell? ⟨w.heap.size, 5, none⟩ = some (.slice R1 vs1.length r1) ∧ W.cell? ⟨w.heap.size + 1, 0, none⟩ = some (.int .i64 k2) ∧ W.cell? ⟨w.heap.size + 1, 1, none⟩ = some (.int .i64 h2) ∧ W.cell? ⟨w.heap.size + 1, 2, none⟩ = some (.string t2) ∧ W.cell? ⟨w.heap.size + 1, 3, none⟩ = some (.slice P2 l2.length p2) ∧ W.cell? ⟨w.heap.size + 1, 4, none⟩ = some (.slice Q2 ks2.length q2) ∧ W.cell? ⟨w.heap.size + 1, 5, none⟩ = some (.slice R2 vs2.length r2) ∧ W.cell? ⟨w8.heap.size, 0, none⟩ = some (.int .i64 a0) ∧ W.cell? ⟨w8.heap.size, 1, none⟩ = some (.int .i64 a1) ∧ W.cell? ⟨w8.heap.size, 2, none⟩ = some (.string s) ∧ W.cell? ⟨w8.heap.size, 3, none⟩ = some (.slice S3 n3 m3) ∧ W.cell? ⟨w8.heap.size, 4, none⟩ = some (.slice S4 n4 m4) ∧ W.cell? ⟨w8.heap.size, 5, none⟩ = some (.slice S5 n5 m5) from fun W hb => by
    obtain ⟨q1, q2⟩ := HFAR.out W (below_trans HB9.out hb)
    have q3 := (hb.block _ (heap_lt HC9.out)).trans HC9.out
    refine ⟨?_, ?_, ?_, ?_, ?_, ?_, ?_, ?_, ?_, ?_, ?_, ?_, ?_, ?_, ?_, ?_, ?_, ?_⟩ <;> simp [World.cell?, q1, q2, q3])
  clear z0 z1 z2 z3 z4 z5 y0 y1 y2 y3 y4 y5
  rcases hcc with rfl | rfl
  · obtain ⟨z0, z1, z2, z3, z4, z5, y0, y1, y2, y3, y4, y5⟩ := HK0.out w8 HB8.out
    go_upto_region 8 with fail
    rw [← HW9.out]
    clear z0 z1 z2 z3 z4 z5 y0 y1 y2 y3 y4 y5
    have hk9 := HK.out W9 (Below.refl _ _)
    obtain ⟨z0, z1, z2, z3, z4, z5, y0, y1, y2, y3, y4, y5, x0, x1, x2, x3, x4, x5⟩ := hk9
    have HFT := Lib.hid (HFX.out W9.drew (Below.refl _ _).drew)
    go_region_held3 (fun W : World => W.cell? ⟨w.heap.size, 0, none⟩ = some (.int .i64 k1) ∧ W.cell? ⟨w.heap.size, 1, none⟩ = some (.int .i64 h1) ∧ W.cell? ⟨w.heap.size, 2, none⟩ = some (.string t1) ∧ W.cell? ⟨w.heap.size, 3, none⟩ = some (.slice P1 l1.length p1) ∧ W.cell? ⟨w.heap.size, 4, none⟩ = some (.slice Q1 ks1.length q1) ∧ W.cell? ⟨w.heap.size, 5, none⟩ = some (.slice R1 vs1.length r1) ∧ W.cell? ⟨w.heap.size + 1, 0, none⟩ = some (.int .i64 k2) ∧ W.cell? ⟨w.heap.size + 1, 1, none⟩ = some (.int .i64 h2) ∧ W.cell? ⟨w.heap.size + 1, 2, none⟩ = some (.string t2) ∧ W.cell? ⟨w.heap.size + 1, 3, none⟩ = some (.slice P2 l2.length p2) ∧ W.cell? ⟨w.heap.size + 1, 4, none⟩ = some (.slice Q2 ks2.length q2) ∧ W.cell? ⟨w.heap.size + 1, 5, none⟩ = some (.slice R2 vs2.length r2) ∧ W.cell? ⟨w8.heap.size, 0, none⟩ = some (.int .i64 a0) ∧ W.cell? ⟨w8.heap.size, 1, none⟩ = some (.int .i64 a1) ∧ W.cell? ⟨w8.heap.size, 2, none⟩ = some (.string s) ∧ W.cell? ⟨w8.heap.size, 3, none⟩ = some (.slice S3 n3 m3) ∧ W.cell? ⟨w8.heap.size, 4, none⟩ = some (.slice S4 n4 m4) ∧ W.cell? ⟨w8.heap.size, 5, none⟩ = some (.slice S5 n5 m5))
      (first | exact HK.out _ hbd | exact HK.out _ hbc | exact HK.out _ (by repeat (first | with_reducible exact Below.refl _ _ | with_reducible apply Below.drew)) | go_keep)
      ((first | (go_at_call 23; refine HFT.out.mono ?_; rintro e' w' hpost; obtain ⟨v7, b0, b1, sb, T3, T4, T5, g3, j3, g4, j4, g5, j5, c, rfl, hv7, hT7, hb'⟩ := resPost_shape hpost; have hbc : Below W9.heap.size W9 w' := Below.trans (Below.drew (Below.refl _ _)) hb'; have HT7 := Lib.hid hT7; have HV7 := Lib.hid (hv7.mono (ok' := fun _ => True) (fun _ _ => trivial)); clear hv7 hT7 hpost) | (go_at_call 13; refine (told_any v7 d c 1 (fun _ => True) b0 b1 sb T3 T4 T5 g3 j3 g4 j4 g5 j5 [.int .i64 a0, .int .i64 a1, .string s, .slice S3 n3 m3, .slice S4 n4 m4, .slice S5 n5 m5] _ HV7.out (HVD.out.keep hbc) HT7.out).mono ?_; rintro e' w'' ⟨rfl, hb''⟩; have hbd : Below W9.heap.size W9 w'' := below_trans hbc hb'')))
    have HBD := Lib.hid hbd
    clear hb' hb'' hbc hbd z0 z1 z2 z3 z4 z5 y0 y1 y2 y3 y4 y5 x0 x1 x2 x3 x4 x5
    go_wp2_with fail
    go_ret
    exact ⟨rfl, below_trans HBW0.out (below_trans HB9.out HBD.out)⟩
  · obtain ⟨z0, z1, z2, z3, z4, z5, y0, y1, y2, y3, y4, y5⟩ := HK0.out w8 HB8.out
    go_upto_region 8 with fail
    rw [← HW9.out]
    clear z0 z1 z2 z3 z4 z5 y0 y1 y2 y3 y4 y5
    have hk9 := HK.out W9 (Below.refl _ _)
    obtain ⟨z0, z1, z2, z3, z4, z5, y0, y1, y2, y3, y4, y5, x0, x1, x2, x3, x4, x5⟩ := hk9
    have HFT := Lib.hid (HFX.out W9.drew (Below.refl _ _).drew)
    go_region_held3 (fun W : World => W.cell? ⟨w.heap.size, 0, none⟩ = some (.int .i64 k1) ∧ W.cell? ⟨w.heap.size, 1, none⟩ = some (.int .i64 h1) ∧ W.cell? ⟨w.heap.size, 2, none⟩ = some (.string t1) ∧ W.cell? ⟨w.heap.size, 3, none⟩ = some (.slice P1 l1.length p1) ∧ W.cell? ⟨w.heap.size, 4, none⟩ = some (.slice Q1 ks1.length q1) ∧ W.cell? ⟨w.heap.size, 5, none⟩ = some (.slice R1 vs1.length r1) ∧ W.cell? ⟨w.heap.size + 1, 0, none⟩ = some (.int .i64 k2) ∧ W.cell? ⟨w.heap.size + 1, 1, none⟩ = some (.int .i64 h2) ∧ W.cell? ⟨w.heap.size + 1, 2, none⟩ = some (.string t2) ∧ W.cell? ⟨w.heap.size + 1, 3, none⟩ = some (.slice P2 l2.length p2) ∧ W.cell? ⟨w.heap.size + 1, 4, none⟩ = some (.slice Q2 ks2.length q2) ∧ W.cell? ⟨w.heap.size + 1, 5, none⟩ = some (.slice R2 vs2.length r2) ∧ W.cell? ⟨w8.heap.size, 0, none⟩ = some (.int .i64 a0) ∧ W.cell? ⟨w8.heap.size, 1, none⟩ = some (.int .i64 a1) ∧ W.cell? ⟨w8.heap.size, 2, none⟩ = some (.string s) ∧ W.cell? ⟨w8.heap.size, 3, none⟩ = some (.slice S3 n3 m3) ∧ W.cell? ⟨w8.heap.size, 4, none⟩ = some (.slice S4 n4 m4) ∧ W.cell? ⟨w8.heap.size, 5, none⟩ = some (.slice S5 n5 m5))
      (first | exact HK.out _ hbd | exact HK.out _ hbc | exact HK.out _ (by repeat (first | with_reducible exact Below.refl _ _ | with_reducible apply Below.drew)) | go_keep)
      ((first | (go_at_call 23; refine HFT.out.mono ?_; rintro e' w' hpost; obtain ⟨v7, b0, b1, sb, T3, T4, T5, g3, j3, g4, j4, g5, j5, c, rfl, hv7, hT7, hb'⟩ := resPost_shape hpost; have hbc : Below W9.heap.size W9 w' := Below.trans (Below.drew (Below.refl _ _)) hb'; have HT7 := Lib.hid hT7; have HV7 := Lib.hid (hv7.mono (ok' := fun _ => True) (fun _ _ => trivial)); clear hv7 hT7 hpost) | (go_at_call 13; refine (told_any v7 d c 0 (fun _ => True) b0 b1 sb T3 T4 T5 g3 j3 g4 j4 g5 j5 [.int .i64 a0, .int .i64 a1, .string s, .slice S3 n3 m3, .slice S4 n4 m4, .slice S5 n5 m5] _ HV7.out (HVD.out.keep hbc) HT7.out).mono ?_; rintro e' w'' ⟨rfl, hb''⟩; have hbd : Below W9.heap.size W9 w'' := below_trans hbc hb'')))
    have HBD := Lib.hid hbd
    clear hb' hb'' hbc hbd z0 z1 z2 z3 z4 z5 y0 y1 y2 y3 y4 y5 x0 x1 x2 x3 x4 x5
    go_wp2_with fail
    go_ret
    exact ⟨rfl, below_trans HBW0.out (below_trans HB9.out HBD.out)⟩
end Go.Proofs.YtpamlgdcnmcedaaGreatDoor
