/- impl.SetPath, impl.GetPath: the doors. laws.straight; impl.SetPath and impl.GetPath of a path. laws.FnSetGet: the walk. laws.FnSetGet of what comes in. -/
import Derived.Test.YtpamlgdcnmcedaaGreatDoorUs
import Derived.Test.YtpamlgdcnmcedaaGreatDoorT4
import Derived.Test.YtpamlgdcnmcedaaGreatDoorXA
set_option linter.unusedVariables false
set_option linter.unusedSimpArgs false
set_option maxRecDepth 100000
namespace Go.Proofs.YtpamlgdcnmcedaaGreatDoor
open Go Go.RowKit
set_option maxHeartbeats 1000000 in
/-- impl.SetPath: what gojq gives of the values, as a result. -/
theorem door_SetPath (v1 v2 v3 : V) (ok : Nat → Prop) (cs1 cs2 cs3 : List Value) (w : World) (hv1 : Vr w ok v1 cs1) (hv2 : Vr w ok v2 cs2) (hv3 : Vr w ok v3 cs3) (wf1 : WF v1) (wf2 : WF v2) (wf3 : WF v3) (pa1 : Sm v1) (pa2 : Sm v2) (pa3 : Sm v3)
    (S : Value → World → Prop) (T : V → Int → Prop)
    (HZ : ∀ (x1 x2 x3 : Value) (W : World), Below w.heap.size w W → Jk W (fun _ => True) v1.j x1 → Jk W (fun _ => True) v2.j x2 → Jk W (fun _ => True) v3.j x3 → Calls Tryz.prog 66 #[x1, x2, x3] W fun e W' => ∃ x, e = .returned x ∧ Below W.heap.size W W' ∧ S x W')
    (HR : ∀ (x : Value) (W : World), S x W → Calls Tryz.prog 48 #[x] W (ResPost T W)) :
    Calls Tryz.prog 30 #[.agg cs1.toArray, .agg cs2.toArray, .agg cs3.toArray] w (ResPost T w) := by
  have HV1 := Lib.hid hv1
  have HV2 := Lib.hid hv2
  have HV3 := Lib.hid hv3
  obtain ⟨k1, h1, t1, l1, ks1, vs1, P1, p1, Q1, q1, R1, r1, f1, g1, i1, i2, i3, i4, i5, i6, i7, i8, i9, i10, i11, i12, i13, i14, i15⟩ := hv1
  clear i1 i2 i3 i4 i5 i6 i7 i8 i9 i10 i11 i12 i13 i14 i15
  obtain ⟨k2, h2, t2, l2, ks2, vs2, P2, p2, Q2, q2, R2, r2, f2, g2, i1, i2, i3, i4, i5, i6, i7, i8, i9, i10, i11, i12, i13, i14, i15⟩ := hv2
  clear i1 i2 i3 i4 i5 i6 i7 i8 i9 i10 i11 i12 i13 i14 i15
  obtain ⟨k3, h3, t3, l3, ks3, vs3, P3, p3, Q3, q3, R3, r3, f3, g3, i1, i2, i3, i4, i5, i6, i7, i8, i9, i10, i11, i12, i13, i14, i15⟩ := hv3
  clear i1 i2 i3 i4 i5 i6 i7 i8 i9 i10 i11 i12 i13 i14 i15
  obtain ⟨W0, hW0⟩ : ∃ W0, W0 = (((w.alloc (.cells #[.int .i64 k1, .int .i64 h1, .string t1, .slice P1 l1.length p1, .slice Q1 ks1.length q1, .slice R1 vs1.length r1] 26)).alloc (.cells #[.int .i64 k2, .int .i64 h2, .string t2, .slice P2 l2.length p2, .slice Q2 ks2.length q2, .slice R2 vs2.length r2] 26)).alloc (.cells #[.int .i64 k3, .int .i64 h3, .string t3, .slice P3 l3.length p3, .slice Q3 ks3.length q3, .slice R3 vs3.length r3] 26)).alloc (.cells #[.int .i64 0, .int .i64 0, .string ⟨#[]⟩, .slice none 0 0, .slice none 0 0, .slice none 0 0, .int .i64 0] 34) := ⟨_, rfl⟩
  have hB : Below w.heap.size w W0 := by rw [hW0]; exact (((((Below.refl _ _).alloc (Nat.le_refl _) _).alloc (by (try simp); (try omega)) _).alloc (by (try simp); (try omega)) _).alloc (by (try simp); (try omega)) _)
  have hS0 : W0.heap.size = w.heap.size + 4 := by rw [hW0]; simp
  have hD2 : W0.heap[w.heap.size + 1]? = some (.cells #[.int .i64 k2, .int .i64 h2, .string t2, .slice P2 l2.length p2, .slice Q2 ks2.length q2, .slice R2 vs2.length r2] 26) := by
    rw [hW0]
    have := heap_alloc_new (w.alloc (.cells #[.int .i64 k1, .int .i64 h1, .string t1, .slice P1 l1.length p1, .slice Q1 ks1.length q1, .slice R1 vs1.length r1] 26)) (.cells #[.int .i64 k2, .int .i64 h2, .string t2, .slice P2 l2.length p2, .slice Q2 ks2.length q2, .slice R2 vs2.length r2] 26)
    rw [show (w.alloc (.cells #[.int .i64 k1, .int .i64 h1, .string t1, .slice P1 l1.length p1, .slice Q1 ks1.length q1, .slice R1 vs1.length r1] 26)).heap.size = w.heap.size + 1 from by simp] at this
    exact (Below.heap_alloc _ _ _ (by (try simp); (try omega))).trans ((Below.heap_alloc _ _ _ (by (try simp); (try omega))).trans (this))
  have hD3 : W0.heap[w.heap.size + 2]? = some (.cells #[.int .i64 k3, .int .i64 h3, .string t3, .slice P3 l3.length p3, .slice Q3 ks3.length q3, .slice R3 vs3.length r3] 26) := by
    rw [hW0]
    have := heap_alloc_new ((w.alloc (.cells #[.int .i64 k1, .int .i64 h1, .string t1, .slice P1 l1.length p1, .slice Q1 ks1.length q1, .slice R1 vs1.length r1] 26)).alloc (.cells #[.int .i64 k2, .int .i64 h2, .string t2, .slice P2 l2.length p2, .slice Q2 ks2.length q2, .slice R2 vs2.length r2] 26)) (.cells #[.int .i64 k3, .int .i64 h3, .string t3, .slice P3 l3.length p3, .slice Q3 ks3.length q3, .slice R3 vs3.length r3] 26)
    rw [show ((w.alloc (.cells #[.int .i64 k1, .int .i64 h1, .string t1, .slice P1 l1.length p1, .slice Q1 ks1.length q1, .slice R1 vs1.length r1] 26)).alloc (.cells #[.int .i64 k2, .int .i64 h2, .string t2, .slice P2 l2.length p2, .slice Q2 ks2.length q2, .slice R2 vs2.length r2] 26)).heap.size = w.heap.size + 2 from by simp] at this
    exact (Below.heap_alloc _ _ _ (by (try simp); (try omega))).trans (this)
  have hR0 : W0.heap[w.heap.size + 3]? = some (.cells #[.int .i64 0, .int .i64 0, .string ⟨#[]⟩, .slice none 0 0, .slice none 0 0, .slice none 0 0, .int .i64 0] 34) := by
    rw [hW0]
    have := heap_alloc_new (((w.alloc (.cells #[.int .i64 k1, .int .i64 h1, .string t1, .slice P1 l1.length p1, .slice Q1 ks1.length q1, .slice R1 vs1.length r1] 26)).alloc (.cells #[.int .i64 k2, .int .i64 h2, .string t2, .slice P2 l2.length p2, .slice Q2 ks2.length q2, .slice R2 vs2.length r2] 26)).alloc (.cells #[.int .i64 k3, .int .i64 h3, .string t3, .slice P3 l3.length p3, .slice Q3 ks3.length q3, .slice R3 vs3.length r3] 26)) (.cells #[.int .i64 0, .int .i64 0, .string ⟨#[]⟩, .slice none 0 0, .slice none 0 0, .slice none 0 0, .int .i64 0] 34)
    rw [show (((w.alloc (.cells #[.int .i64 k1, .int .i64 h1, .string t1, .slice P1 l1.length p1, .slice Q1 ks1.length q1, .slice R1 vs1.length r1] 26)).alloc (.cells #[.int .i64 k2, .int .i64 h2, .string t2, .slice P2 l2.length p2, .slice Q2 ks2.length q2, .slice R2 vs2.length r2] 26)).alloc (.cells #[.int .i64 k3, .int .i64 h3, .string t3, .slice P3 l3.length p3, .slice Q3 ks3.length q3, .slice R3 vs3.length r3] 26)).heap.size = w.heap.size + 3 from by simp] at this
    exact this
  have HW0 := Lib.hid hW0
  have HT1 := Lib.hid (K.toGo_any _ ok _ W0 wf1 pa1 (HV1.out.keep hB))
  clear hW0
  go_enter Tryz.func30, Tryz.ntmps30
  go_wp2_with fail
  rw [← HW0.out]
  refine HT1.out.mono ?_
  rintro e' w1 ⟨x1, rfl, hx1, hb1⟩
  have HX1 := Lib.hid hx1
  have HB1 := Lib.hid (below_trans hB hb1)
  have HC1 := Lib.hid hb1
  clear hx1 hb1
  have hd := (HC1.out.block _ (by omega)).trans hD2
  have z0 : w1.cell? ⟨w.heap.size + 1, 0, none⟩ = some (.int .i64 k2) := by simp [World.cell?, hd]
  have z1 : w1.cell? ⟨w.heap.size + 1, 1, none⟩ = some (.int .i64 h2) := by simp [World.cell?, hd]
  have z2 : w1.cell? ⟨w.heap.size + 1, 2, none⟩ = some (.string t2) := by simp [World.cell?, hd]
  have z3 : w1.cell? ⟨w.heap.size + 1, 3, none⟩ = some (.slice P2 l2.length p2) := by simp [World.cell?, hd]
  have z4 : w1.cell? ⟨w.heap.size + 1, 4, none⟩ = some (.slice Q2 ks2.length q2) := by simp [World.cell?, hd]
  have z5 : w1.cell? ⟨w.heap.size + 1, 5, none⟩ = some (.slice R2 vs2.length r2) := by simp [World.cell?, hd]
  clear hd
  go_wp2_with fail
  refine (K.toGo_any _ ok _ w1 wf2 pa2 (HV2.out.keep HB1.out)).mono ?_
  rintro e' w2 ⟨x2, rfl, hx2, hb2⟩
  have HX2 := Lib.hid hx2
  have HB2 := Lib.hid (below_trans HB1.out hb2)
  have HC2 := Lib.hid (below_trans HC1.out hb2)
  have HE2 := Lib.hid hb2
  clear hx2 hb2 z0 z1 z2 z3 z4 z5
  have hd := (HC2.out.block _ (by omega)).trans hD3
  have z0 : w2.cell? ⟨w.heap.size + 1 + 1, 0, none⟩ = some (.int .i64 k3) := by simp [World.cell?, hd]
  have z1 : w2.cell? ⟨w.heap.size + 1 + 1, 1, none⟩ = some (.int .i64 h3) := by simp [World.cell?, hd]
  have z2 : w2.cell? ⟨w.heap.size + 1 + 1, 2, none⟩ = some (.string t3) := by simp [World.cell?, hd]
  have z3 : w2.cell? ⟨w.heap.size + 1 + 1, 3, none⟩ = some (.slice P3 l3.length p3) := by simp [World.cell?, hd]
  have z4 : w2.cell? ⟨w.heap.size + 1 + 1, 4, none⟩ = some (.slice Q3 ks3.length q3) := by simp [World.cell?, hd]
  have z5 : w2.cell? ⟨w.heap.size + 1 + 1, 5, none⟩ = some (.slice R3 vs3.length r3) := by simp [World.cell?, hd]
  clear hd
  go_wp2_with fail
  refine (K.toGo_any _ ok _ w2 wf3 pa3 (HV3.out.keep HB2.out)).mono ?_
  rintro e' w3 ⟨x3, rfl, hx3, hb3⟩
  have HX3 := Lib.hid hx3
  have HB3 := Lib.hid (below_trans HB2.out hb3)
  have HC3 := Lib.hid (below_trans HC2.out hb3)
  have HE3 := Lib.hid hb3
  clear hx3 hb3 z0 z1 z2 z3 z4 z5
  have HJ1 := Lib.hid (show Jk w3 (fun _ => True) _ x1 from ((HX1.out.keep HE2.out).keep HE3.out).mono fun _ _ => trivial)
  have HJ2 := Lib.hid (show Jk w3 (fun _ => True) _ x2 from (HX2.out.keep HE3.out).mono fun _ _ => trivial)
  have HJ3 := Lib.hid (show Jk w3 (fun _ => True) _ x3 from HX3.out.mono fun _ _ => trivial)
  have hsz : w.heap.size + 4 ≤ w3.heap.size := by have := HC3.out.size; omega
  go_wp2_with fail
  refine (HZ x1 x2 x3 w3 HB3.out HJ1.out HJ2.out HJ3.out).mono ?_
  rintro e' w8 ⟨x8, rfl, hb8, hS8⟩
  have HS8 := Lib.hid hS8
  have HB8 := Lib.hid (below_trans HB3.out hb8)
  have HC8 := Lib.hid (below_trans HC3.out hb8)
  have hsz8 : w.heap.size + 4 ≤ w8.heap.size := by have := hb8.size; omega
  clear hS8 hb8
  go_wp2_with fail
  refine (HR x8 w8 HS8.out).mono ?_
  rintro e' w9 h9
  obtain ⟨v9, a0, a1, s, S3, S4, S5, n3, m3, n4, m4, n5, m5, c, rfl, hv9, hT9, hb9⟩ := resPost_shape h9
  have hr9 := (hb9.block _ (by omega)).trans ((HC8.out.block _ (by omega)).trans hR0)
  have y0 : w9.cell? ⟨w.heap.size + 1 + 1 + 1, 0, none⟩ = some (.int .i64 0) := by simp [World.cell?, hr9]
  have y1 : w9.cell? ⟨w.heap.size + 1 + 1 + 1, 1, none⟩ = some (.int .i64 0) := by simp [World.cell?, hr9]
  have y2 : w9.cell? ⟨w.heap.size + 1 + 1 + 1, 2, none⟩ = some (.string ⟨#[]⟩) := by simp [World.cell?, hr9]
  have y3 : w9.cell? ⟨w.heap.size + 1 + 1 + 1, 3, none⟩ = some (.slice none 0 0) := by simp [World.cell?, hr9]
  have y4 : w9.cell? ⟨w.heap.size + 1 + 1 + 1, 4, none⟩ = some (.slice none 0 0) := by simp [World.cell?, hr9]
  have y5 : w9.cell? ⟨w.heap.size + 1 + 1 + 1, 5, none⟩ = some (.slice none 0 0) := by simp [World.cell?, hr9]
  have y6 : w9.cell? ⟨w.heap.size + 1 + 1 + 1, 6, none⟩ = some (.int .i64 0) := by simp [World.cell?, hr9]
  have yf : ∀ i, w9.frozen? ⟨w.heap.size + 1 + 1 + 1, i, none⟩ = false := fun i => by simp [World.frozen?, hr9]
  have HB9 := Lib.hid (below_trans HB8.out hb9)
  have hset : ∀ (W : World) (i : Nat) (u : Value) (cs : List Value), Vr W (fun b => w.heap.size + 1 + 1 + 1 < b) v9 cs → Vr (W.setCell ⟨w.heap.size + 1 + 1 + 1, i, none⟩ u) (fun b => w.heap.size + 1 + 1 + 1 < b) v9 cs := fun W i u cs h =>
    h.move fun b hb => Below.heap_setCell _ _ _ _ (by show b ≠ w.heap.size + 1 + 1 + 1; omega)
  have HSET := Lib.hid hset
  have HV9 := Lib.hid (show Vr w9 (fun b => w.heap.size + 1 + 1 + 1 < b) v9 _ from hv9.mono fun b hb => by omega)
  have HT9 := Lib.hid hT9
  clear hset hv9 hT9 hb9 hr9 h9 hR0
  go_wp2_with fail
  refine bodyPost_ret (v := .agg #[.int .i64 a0, .int .i64 a1, .string s, .slice S3 n3 m3, .slice S4 n4 m4, .slice S5 n5 m5, .int .i64 c]) (by simp [results, Tryz.results30, go_sem, y0, y1, y2, y3, y4, y5, y6]) rfl ?_
  refine ⟨v9, [.int .i64 a0, .int .i64 a1, .string s, .slice S3 n3 m3, .slice S4 n4 m4, .slice S5 n5 m5], c, rfl, ?_, HT9.out, ?_⟩
  · exact (HSET.out _ _ _ _ (HSET.out _ _ _ _ (HSET.out _ _ _ _ (HSET.out _ _ _ _ (HSET.out _ _ _ _ (HSET.out _ _ _ _ (HSET.out _ _ _ _ HV9.out))))))).mono fun b hb => by omega
  · have hle : w.heap.size ≤ w.heap.size + 1 + 1 + 1 := by omega
    exact (((((((HB9.out.setCell hle _).setCell hle _).setCell hle _).setCell hle _).setCell hle _).setCell hle _).setCell hle _)
set_option maxHeartbeats 1000000 in
/-- impl.GetPath: what gojq gives of the values, as a result. -/
theorem door_GetPath (v1 v2 : V) (ok : Nat → Prop) (cs1 cs2 : List Value) (w : World) (hv1 : Vr w ok v1 cs1) (hv2 : Vr w ok v2 cs2) (wf1 : WF v1) (wf2 : WF v2) (pa1 : Sm v1) (pa2 : Sm v2)
    (S : Value → World → Prop) (T : V → Int → Prop)
    (HZ : ∀ (x1 x2 : Value) (W : World), Below w.heap.size w W → Jr W (fun _ => True) v1.j x1 → Jr W (fun _ => True) v2.j x2 → Calls Tryz.prog 67 #[x1, x2] W fun e W' => ∃ x, e = .returned x ∧ Below W.heap.size W W' ∧ S x W')
    (HR : ∀ (x : Value) (W : World), S x W → Calls Tryz.prog 48 #[x] W (ResPost T W)) :
    Calls Tryz.prog 31 #[.agg cs1.toArray, .agg cs2.toArray] w (ResPost T w) := by
  have HV1 := Lib.hid hv1
  have HV2 := Lib.hid hv2
  obtain ⟨k1, h1, t1, l1, ks1, vs1, P1, p1, Q1, q1, R1, r1, f1, g1, i1, i2, i3, i4, i5, i6, i7, i8, i9, i10, i11, i12, i13, i14, i15⟩ := hv1
  clear i1 i2 i3 i4 i5 i6 i7 i8 i9 i10 i11 i12 i13 i14 i15
  obtain ⟨k2, h2, t2, l2, ks2, vs2, P2, p2, Q2, q2, R2, r2, f2, g2, i1, i2, i3, i4, i5, i6, i7, i8, i9, i10, i11, i12, i13, i14, i15⟩ := hv2
  clear i1 i2 i3 i4 i5 i6 i7 i8 i9 i10 i11 i12 i13 i14 i15
  obtain ⟨W0, hW0⟩ : ∃ W0, W0 = ((w.alloc (.cells #[.int .i64 k1, .int .i64 h1, .string t1, .slice P1 l1.length p1, .slice Q1 ks1.length q1, .slice R1 vs1.length r1] 26)).alloc (.cells #[.int .i64 k2, .int .i64 h2, .string t2, .slice P2 l2.length p2, .slice Q2 ks2.length q2, .slice R2 vs2.length r2] 26)).alloc (.cells #[.int .i64 0, .int .i64 0, .string ⟨#[]⟩, .slice none 0 0, .slice none 0 0, .slice none 0 0, .int .i64 0] 34) := ⟨_, rfl⟩
  have hB : Below w.heap.size w W0 := by rw [hW0]; exact ((((Below.refl _ _).alloc (Nat.le_refl _) _).alloc (by (try simp); (try omega)) _).alloc (by (try simp); (try omega)) _)
  have hS0 : W0.heap.size = w.heap.size + 3 := by rw [hW0]; simp
  have hD2 : W0.heap[w.heap.size + 1]? = some (.cells #[.int .i64 k2, .int .i64 h2, .string t2, .slice P2 l2.length p2, .slice Q2 ks2.length q2, .slice R2 vs2.length r2] 26) := by
    rw [hW0]
    have := heap_alloc_new (w.alloc (.cells #[.int .i64 k1, .int .i64 h1, .string t1, .slice P1 l1.length p1, .slice Q1 ks1.length q1, .slice R1 vs1.length r1] 26)) (.cells #[.int .i64 k2, .int .i64 h2, .string t2, .slice P2 l2.length p2, .slice Q2 ks2.length q2, .slice R2 vs2.length r2] 26)
    rw [show (w.alloc (.cells #[.int .i64 k1, .int .i64 h1, .string t1, .slice P1 l1.length p1, .slice Q1 ks1.length q1, .slice R1 vs1.length r1] 26)).heap.size = w.heap.size + 1 from by simp] at this
    exact (Below.heap_alloc _ _ _ (by (try simp); (try omega))).trans (this)
  have hR0 : W0.heap[w.heap.size + 2]? = some (.cells #[.int .i64 0, .int .i64 0, .string ⟨#[]⟩, .slice none 0 0, .slice none 0 0, .slice none 0 0, .int .i64 0] 34) := by
    rw [hW0]
    have := heap_alloc_new ((w.alloc (.cells #[.int .i64 k1, .int .i64 h1, .string t1, .slice P1 l1.length p1, .slice Q1 ks1.length q1, .slice R1 vs1.length r1] 26)).alloc (.cells #[.int .i64 k2, .int .i64 h2, .string t2, .slice P2 l2.length p2, .slice Q2 ks2.length q2, .slice R2 vs2.length r2] 26)) (.cells #[.int .i64 0, .int .i64 0, .string ⟨#[]⟩, .slice none 0 0, .slice none 0 0, .slice none 0 0, .int .i64 0] 34)
    rw [show ((w.alloc (.cells #[.int .i64 k1, .int .i64 h1, .string t1, .slice P1 l1.length p1, .slice Q1 ks1.length q1, .slice R1 vs1.length r1] 26)).alloc (.cells #[.int .i64 k2, .int .i64 h2, .string t2, .slice P2 l2.length p2, .slice Q2 ks2.length q2, .slice R2 vs2.length r2] 26)).heap.size = w.heap.size + 2 from by simp] at this
    exact this
  have HW0 := Lib.hid hW0
  have HT1 := Lib.hid (toGo_any _ ok _ W0 wf1 pa1 (HV1.out.keep hB))
  clear hW0
  go_enter Tryz.func31, Tryz.ntmps31
  go_wp2_with fail
  rw [← HW0.out]
  refine HT1.out.mono ?_
  rintro e' w1 ⟨x1, rfl, hx1, hb1⟩
  have HX1 := Lib.hid hx1
  have HB1 := Lib.hid (below_trans hB hb1)
  have HC1 := Lib.hid hb1
  clear hx1 hb1
  have hd := (HC1.out.block _ (by omega)).trans hD2
  have z0 : w1.cell? ⟨w.heap.size + 1, 0, none⟩ = some (.int .i64 k2) := by simp [World.cell?, hd]
  have z1 : w1.cell? ⟨w.heap.size + 1, 1, none⟩ = some (.int .i64 h2) := by simp [World.cell?, hd]
  have z2 : w1.cell? ⟨w.heap.size + 1, 2, none⟩ = some (.string t2) := by simp [World.cell?, hd]
  have z3 : w1.cell? ⟨w.heap.size + 1, 3, none⟩ = some (.slice P2 l2.length p2) := by simp [World.cell?, hd]
  have z4 : w1.cell? ⟨w.heap.size + 1, 4, none⟩ = some (.slice Q2 ks2.length q2) := by simp [World.cell?, hd]
  have z5 : w1.cell? ⟨w.heap.size + 1, 5, none⟩ = some (.slice R2 vs2.length r2) := by simp [World.cell?, hd]
  clear hd
  go_wp2_with fail
  refine (toGo_any _ ok _ w1 wf2 pa2 (HV2.out.keep HB1.out)).mono ?_
  rintro e' w2 ⟨x2, rfl, hx2, hb2⟩
  have HX2 := Lib.hid hx2
  have HB2 := Lib.hid (below_trans HB1.out hb2)
  have HC2 := Lib.hid (below_trans HC1.out hb2)
  have HE2 := Lib.hid hb2
  clear hx2 hb2 z0 z1 z2 z3 z4 z5
  have HJ1 := Lib.hid (show Jr w2 (fun _ => True) _ x1 from (HX1.out.keep HE2.out).mono fun _ _ => trivial)
  have HJ2 := Lib.hid (show Jr w2 (fun _ => True) _ x2 from HX2.out.mono fun _ _ => trivial)
  have hsz : w.heap.size + 3 ≤ w2.heap.size := by have := HC2.out.size; omega
  go_wp2_with fail
  refine (HZ x1 x2 w2 HB2.out HJ1.out HJ2.out).mono ?_
  rintro e' w8 ⟨x8, rfl, hb8, hS8⟩
  have HS8 := Lib.hid hS8
  have HB8 := Lib.hid (below_trans HB2.out hb8)
  have HC8 := Lib.hid (below_trans HC2.out hb8)
  have hsz8 : w.heap.size + 3 ≤ w8.heap.size := by have := hb8.size; omega
  clear hS8 hb8
  go_wp2_with fail
  refine (HR x8 w8 HS8.out).mono ?_
  rintro e' w9 h9
  obtain ⟨v9, a0, a1, s, S3, S4, S5, n3, m3, n4, m4, n5, m5, c, rfl, hv9, hT9, hb9⟩ := resPost_shape h9
  have hr9 := (hb9.block _ (by omega)).trans ((HC8.out.block _ (by omega)).trans hR0)
  have y0 : w9.cell? ⟨w.heap.size + 1 + 1, 0, none⟩ = some (.int .i64 0) := by simp [World.cell?, hr9]
  have y1 : w9.cell? ⟨w.heap.size + 1 + 1, 1, none⟩ = some (.int .i64 0) := by simp [World.cell?, hr9]
  have y2 : w9.cell? ⟨w.heap.size + 1 + 1, 2, none⟩ = some (.string ⟨#[]⟩) := by simp [World.cell?, hr9]
  have y3 : w9.cell? ⟨w.heap.size + 1 + 1, 3, none⟩ = some (.slice none 0 0) := by simp [World.cell?, hr9]
  have y4 : w9.cell? ⟨w.heap.size + 1 + 1, 4, none⟩ = some (.slice none 0 0) := by simp [World.cell?, hr9]
  have y5 : w9.cell? ⟨w.heap.size + 1 + 1, 5, none⟩ = some (.slice none 0 0) := by simp [World.cell?, hr9]
  have y6 : w9.cell? ⟨w.heap.size + 1 + 1, 6, none⟩ = some (.int .i64 0) := by simp [World.cell?, hr9]
  have yf : ∀ i, w9.frozen? ⟨w.heap.size + 1 + 1, i, none⟩ = false := fun i => by simp [World.frozen?, hr9]
  have HB9 := Lib.hid (below_trans HB8.out hb9)
  have hset : ∀ (W : World) (i : Nat) (u : Value) (cs : List Value), Vr W (fun b => w.heap.size + 1 + 1 < b) v9 cs → Vr (W.setCell ⟨w.heap.size + 1 + 1, i, none⟩ u) (fun b => w.heap.size + 1 + 1 < b) v9 cs := fun W i u cs h =>
    h.move fun b hb => Below.heap_setCell _ _ _ _ (by show b ≠ w.heap.size + 1 + 1; omega)
  have HSET := Lib.hid hset
  have HV9 := Lib.hid (show Vr w9 (fun b => w.heap.size + 1 + 1 < b) v9 _ from hv9.mono fun b hb => by omega)
  have HT9 := Lib.hid hT9
  clear hset hv9 hT9 hb9 hr9 h9 hR0
  go_wp2_with fail
  refine bodyPost_ret (v := .agg #[.int .i64 a0, .int .i64 a1, .string s, .slice S3 n3 m3, .slice S4 n4 m4, .slice S5 n5 m5, .int .i64 c]) (by simp [results, Tryz.results31, go_sem, y0, y1, y2, y3, y4, y5, y6]) rfl ?_
  refine ⟨v9, [.int .i64 a0, .int .i64 a1, .string s, .slice S3 n3 m3, .slice S4 n4 m4, .slice S5 n5 m5], c, rfl, ?_, HT9.out, ?_⟩
  · exact (HSET.out _ _ _ _ (HSET.out _ _ _ _ (HSET.out _ _ _ _ (HSET.out _ _ _ _ (HSET.out _ _ _ _ (HSET.out _ _ _ _ (HSET.out _ _ _ _ HV9.out))))))).mono fun b hb => by omega
  · have hle : w.heap.size ≤ w.heap.size + 1 + 1 := by omega
    exact (((((((HB9.out.setCell hle _).setCell hle _).setCell hle _).setCell hle _).setCell hle _).setCell hle _).setCell hle _)
end Go.Proofs.YtpamlgdcnmcedaaGreatDoor

set_option linter.unusedVariables false
set_option linter.unusedSimpArgs false
set_option maxRecDepth 100000
namespace Go.Proofs.YtpamlgdcnmcedaaGreatDoor
open Go Go.RowKit
def StepV (v : V) : Prop := v.kind = 4 ∨ (v.kind = 3 ∧ v.half.tmod 2 = 0 ∧ 0 ≤ v.half ∧ v.half ≤ 200)
def StraightPost (l : List V) (w : World) (e : Ending) (w' : World) : Prop := Below w.heap.size w w' ∧ ∃ r, e = .returned (.bool r) ∧ (r = true → l.length ≤ 20 ∧ ∀ v, v ∈ l → StepV v)
set_option maxHeartbeats 2000000 in
theorem straight_any (l : List V) (m : Nat) (hm : l.length = m) (ok : Nat → Prop) (A : Option Addr) (c : Nat) (f : Nat → List Value) (w : World) (hr : RowAt w ok 6 A m f) (he : ∀ (i : Nat) (v : V), l[i]? = some v → Vr w ok v (f i)) (bm : m ≤ 140737488351232) :
    Calls Tryz.prog 29 #[.slice A m c] w (StraightPost l w) := by
  have HM := Lib.hid hm
  have HR := Lib.hid hr
  have HE := Lib.hid he
  clear hm hr he
  go_enter Tryz.func29, Tryz.ntmps29
  go_wp2_with fail
  go_loopw [7] (fun i wr => ∃ k : Nat, k ≤ m ∧ i = .int .i64 k ∧ Below w.heap.size w wr ∧ ∀ v, v ∈ l.take k → StepV v) (fun i _ => m - (intOf i).toNat)
  case atStart => exact ⟨0, Nat.zero_le _, rfl, Below.refl _ _, fun v h => by simp at h⟩
  case round =>
    obtain ⟨k, hk, rfl, hb, hall⟩ := hrel
    by_cases hlt : k < m
    · obtain ⟨v, hv⟩ := at_lt (l := l) (p := k) (by rw [HM.out]; exact hlt)
      have hV := HE.out k v hv
      obtain ⟨ad, rfl, hao, hc0⟩ := HR.out (by omega)
      have hc := fun j u hu => cell_kept hb (hc0 k j u hlt hu)
      have hV' := hV.keep hb
      have HNX := Lib.hid (show StepV v → ∀ v', v' ∈ l.take (k + 1) → StepV v' from fun h v' hv' => by
        rw [List.take_add_one, hv] at hv'
        rcases List.mem_append.1 hv' with hv' | hv'
        · exact hall v' hv'
        · simp at hv'; rw [hv']; exact h)
      clear hc0 hall hv hV hao
      generalize f k = cs at hc hV'
      obtain ⟨q, h, t, lv, ks, vs, P1, p1, P2, p2, P3, p3, F, G, i1, i2, i3, i4, i5, i6, i7, i8, i9, i10, i11, i12, i13, i14, i15⟩ := hV'
      obtain ⟨s0, s1, s2, s3, s4, s5⟩ := cells6 hc
      clear i1 i2 i3 i4 i5 i6 i7 i10 i11 i12 i13 i14 i15 hc
      have hbz := hb.size
      have HNX := Lib.hid (show (q = 4 ∨ (q = 3 ∧ h.tmod 2 = 0 ∧ 0 ≤ h ∧ h ≤ 200)) → ∀ v', v' ∈ l.take (k + 1) → StepV v' from HNX.out)
      by_cases hq : q = 4
      · have hns := Lib.hid (HNX.out (.inl hq))
        subst hq
        go_wp2_with fail
        refine ⟨⟨k + 1, by omega, by simp, hb.alloc hb.size _, hns.out⟩, ?_⟩
        simp [intOf]
        omega
      · by_cases hq3 : q = 3
        · subst hq3
          by_cases hm2 : h.tmod 2 = 0
          · by_cases hlo : h < 0
            · have hmb : (h.tmod 2 == 0) = true := by simp [hm2]
              have hnn : ¬ (0 ≤ h) := by omega
              go_wp2_with fail
              go_ret
              exact ⟨hb.alloc hb.size _, false, rfl, fun h => by cases h⟩
            · have hh0 : 0 ≤ h := by omega
              have hme : h % 2 = 0 := by rw [← Int.tmod_eq_emod_of_nonneg hh0]; exact hm2
              by_cases hhi : h > 200
              · clear hlo
                go_wp2_with fail
                go_ret
                exact ⟨hb.alloc hb.size _, false, rfl, fun h => by cases h⟩
              · have hns := Lib.hid (HNX.out (.inr ⟨rfl, hm2, by omega, by omega⟩))
                have hh2 : h ≤ 200 := by omega
                clear hhi hlo
                go_wp2_with fail
                refine ⟨⟨k + 1, by omega, by simp, hb.alloc hb.size _, hns.out⟩, ?_⟩
                simp [intOf]
                omega
          · have hmb : (h.tmod 2 == 0) = false := by simp [hm2]
            go_wp2_with fail
            go_ret
            exact ⟨hb.alloc hb.size _, false, rfl, fun h => by cases h⟩
        · go_wp2_with fail
          go_ret
          exact ⟨hb.alloc hb.size _, false, rfl, fun h => by cases h⟩
    · have hkm : k = m := by omega
      subst hkm
      rw [List.take_of_length_le (by rw [HM.out]; exact Nat.le_refl _)] at hall
      have HA := Lib.hid hall
      clear hall hlt
      by_cases h20 : (k : Int) ≤ 20
      · go_wp2_with fail
        go_ret
        exact ⟨hb, _, rfl, fun _ => ⟨by rw [HM.out]; omega, HA.out⟩⟩
      · go_wp2_with fail
        go_ret
        exact ⟨hb, _, rfl, fun h => by simp at h⟩
theorem stepOK_of {v : V} {w : World} {ok : Nat → Prop} {cs : List Value} (hv : Vr w ok v cs) (h : StepV v) : StepOK v.j := by
  obtain ⟨q, hf, t, lv, ks, vs, P1, p1, P2, p2, P3, p3, F, G, i1, i2, i3, i4, i5, i6, i7, i8, i9, i10, i11, i12, i13, i14, i15⟩ := hv
  rcases h with h | ⟨h, h2, h3, h4⟩
  · have e : q = 4 := h
    subst e
    exact .inl ⟨t, by simp [V.j], i1⟩
  · have e : q = 3 := h
    subst e
    have e2 : hf.tmod 2 = 0 := h2
    have e3 : 0 ≤ hf := h3
    have e4 : hf ≤ 200 := h4
    have e5 : hf.tdiv 2 = hf / 2 := Int.tdiv_eq_ediv_of_nonneg e3
    refine .inr ⟨(hf.tdiv 2).toNat, ?_, by omega⟩
    have e6 : ((hf.tdiv 2).toNat : Int) = hf.tdiv 2 := by omega
    rw [e6]
    simp [V.j, e2]
/-- impl.SetPath at a straight path. -/
theorem implSetPath (v n : V) (pl : List V) (ok : Nat → Prop) (cs1 cs2 cs3 : List Value) (w : World) (hv : Vr w ok v cs1) (hp : Vr w ok (mkL pl) cs2) (hn : Vr w ok n cs3) (w1 : WF v) (w2 : WF (mkL pl)) (w3 : WF n) (p1 : v.parts ≤ 400) (p2 : Sm (mkL pl)) (p3 : n.parts ≤ 400)
    (hs : ∀ k, k ∈ V.js pl → StepOK k) : Calls Tryz.prog 30 #[.agg cs1.toArray, .agg cs2.toArray, .agg cs3.toArray] w (ResPost (OptT (setJ (V.js pl) v.j n.j)) w) := by
  have hjv := jn_of hv w1 (by omega)
  have hjn := jn_of hn w3 (by omega)
  have lv := ln_v _ 400 v (Nat.lt_succ_self _) w1 p1
  have ln := ln_v _ 400 n (Nat.lt_succ_self _) w3 p3
  refine door_SetPath v (mkL pl) n ok cs1 cs2 cs3 w hv hp hn w1 w2 w3 (sm_of (by omega)) p2 (sm_of (by omega)) (OptR (setJ (V.js pl) v.j n.j)) _ (fun x1 x2 x3 W _ h1 h2 h3 => ?_) (fun x W hx => result_opt _ x W hx)
  have hj : (mkL pl).j = .arr (V.js pl) := by simp [mkL, V.j]
  rw [hj] at h2
  refine (zzSetPath_any v.j (V.js pl) n.j _ _ x1 x2 x3 W hs hjv h1 h2.jr h3.jr).mono ?_
  rintro e' w' ⟨x, rfl, hb, h⟩
  refine ⟨x, rfl, hb, ?_⟩
  rcases h with ⟨h, he⟩ | ⟨j, h, hj⟩
  · exact .inl ⟨h, he⟩
  · have := set_ok 1001 (by omega) (V.js pl) v.j n.j j hs hjv (lv.mono (by omega)) hjn (ln.mono (by omega)) h
    exact .inr ⟨j, h, this.1.2.2.1, hj⟩
/-- impl.GetPath at a path that leads somewhere. -/
theorem implGetPath (u r : J) (pl : List V) (hu : JN u) (hr : JN r) (ok : Nat → Prop) (cs1 cs2 : List Value) (w : World) (hv : Vr w ok u.v cs1) (hp : Vr w ok (mkL pl) cs2) (w2 : WF (mkL pl)) (p2 : Sm (mkL pl))
    (hs : ∀ k, k ∈ V.js pl → StepOK k) (hl : pl.length ≤ 1000000) (hg : getJ (V.js pl) u = some r) : Calls Tryz.prog 31 #[.agg cs1.toArray, .agg cs2.toArray] w (ResPost (fun v c => v = r.v ∧ c = 0) w) := by
  refine door_GetPath u.v (mkL pl) ok cs1 cs2 w hv hp hu.1 w2 hu.2.1 p2 (fun x W => Jr W (fun _ => True) r x) _ (fun x1 x2 W _ h1 h2 => ?_) (fun x W hx => ?_)
  · have hj : (mkL pl).j = .arr (V.js pl) := by simp [mkL, V.j]
    rw [hj] at h2
    rw [hu.2.2.2] at h1
    refine (zzGetPath_any (V.js pl) u r _ _ x1 x2 W hs hu h1 h2 (by rw [js_len]; exact hl) hg).mono ?_
    rintro e' w' ⟨x, rfl, hb, h⟩
    refine ⟨x, rfl, hb, ?_⟩
    rcases h with ⟨h, _⟩ | ⟨j, h, hj⟩
    · cases h
    · cases h
      exact hj
  · exact (result_any _ (fun _ => True) _ W hr.2.2.1 hx).mono fun e w' h => resPost_ok h
end Go.Proofs.YtpamlgdcnmcedaaGreatDoor

set_option linter.unusedVariables false
set_option linter.unusedSimpArgs false
set_option maxRecDepth 100000
namespace Go.Proofs.YtpamlgdcnmcedaaGreatDoor
open Go Go.RowKit
def three (a b c : List Value) (i : Nat) : List Value := if i = 0 then a else if i = 1 then b else c
theorem row_three {w : World} {g : Nat} {a0 a1 a2 a3 a4 a5 b0 b1 b2 b3 b4 b5 c0 c1 c2 c3 c4 c5 : Value} {t : TypeId} {fz : Nat × Nat} (h : w.heap[g]? = some (.cells #[a0, a1, a2, a3, a4, a5, b0, b1, b2, b3, b4, b5, c0, c1, c2, c3, c4, c5] t fz)) :
    RowAt w (fun _ => True) 6 (some ⟨g, 0, none⟩) 3 (three [a0, a1, a2, a3, a4, a5] [b0, b1, b2, b3, b4, b5] [c0, c1, c2, c3, c4, c5]) := fun _ => ⟨_, rfl, trivial, fun i j u hi hu => by
  have hi3 : i = 0 ∨ i = 1 ∨ i = 2 := by omega
  rcases hi3 with rfl | rfl | rfl
  all_goals
    match j, hu with
    | 0, hu => simp [three] at hu; subst hu; simp [World.cell?, Addr.add, h]
    | 1, hu => simp [three] at hu; subst hu; simp [World.cell?, Addr.add, h]
    | 2, hu => simp [three] at hu; subst hu; simp [World.cell?, Addr.add, h]
    | 3, hu => simp [three] at hu; subst hu; simp [World.cell?, Addr.add, h]
    | 4, hu => simp [three] at hu; subst hu; simp [World.cell?, Addr.add, h]
    | 5, hu => simp [three] at hu; subst hu; simp [World.cell?, Addr.add, h]
    | j + 6, hu => simp [three] at hu⟩
set_option maxHeartbeats 8000000 in
theorem setGet_law (v1 v2 : V) (pl : List V) (m : Nat) (hm : pl.length = m) (ok : Nat → Prop) (cs1 cs2 : List Value) (A : Option Addr) (c : Nat) (f : Nat → List Value) (w : World) (hv1 : Vr w ok v1 cs1) (hv2 : Vr w ok v2 cs2) (hr : RowAt w ok 6 A m f) (he : ∀ (i : Nat) (v : V), pl[i]? = some v → Vr w ok v (f i)) (hmc : m ≤ c) (bm : m ≤ 140737488351232) (hT : Lib.Utf8Tabs 0 1 w) :
    Calls Tryz.prog 8 #[.agg cs1.toArray, .slice A m c, .agg cs2.toArray] w (LawP w) := by
  have HV1 := Lib.hid hv1
  have HV2 := Lib.hid hv2
  have HVP := Lib.hid (show Vr w ok (mkL pl) [.int .i64 5, .int .i64 0, .string ⟨#[]⟩, .slice A m c, .slice none 0 0, .slice none 0 0] from by
    subst hm
    exact vr_mkL hmc bm hr he)
  have HRW := Lib.hid (fun W (hb : Below w.heap.size w W) => straight_any pl m hm (fun b => ok b ∧ b < w.heap.size) A c f W ((hr.bound fun i hi => by have := (he i _ (List.getElem?_eq_getElem (by omega))).len; omega).move fun b hb' => hb.block b hb'.2) (fun i v hi => ((he i v hi).bound.move fun b hb' => hb.block b hb'.2)) bm)
  have HT := Lib.hid hT
  have HM := Lib.hid hm
  obtain ⟨k1, h1, t1, l1, ks1, vs1, P1, p1, Q1, q1, R1, r1, f1, g1, i1, i2, i3, i4, i5, i6, i7, i8, i9, i10, i11, i12, i13, i14, i15⟩ := hv1
  clear i1 i2 i3 i4 i5 i6 i7 i8 i9 i10 i11 i12 i13 i14 i15
  obtain ⟨k2, h2, t2, l2, ks2, vs2, P2, p2, Q2, q2, R2, r2, f2, g2, i1, i2, i3, i4, i5, i6, i7, i8, i9, i10, i11, i12, i13, i14, i15⟩ := hv2
  clear i1 i2 i3 i4 i5 i6 i7 i8 i9 i10 i11 i12 i13 i14 i15
  clear hr he hT hm
  obtain ⟨W0, hW0⟩ : ∃ W0, W0 = (w.alloc (.cells #[.int .i64 k1, .int .i64 h1, .string t1, .slice P1 l1.length p1, .slice Q1 ks1.length q1, .slice R1 vs1.length r1] 26)).alloc (.cells #[.int .i64 k2, .int .i64 h2, .string t2, .slice P2 l2.length p2, .slice Q2 ks2.length q2, .slice R2 vs2.length r2] 26) := ⟨_, rfl⟩
  have hBW0 : Below w.heap.size w W0 := by rw [hW0]; exact (((Below.refl _ _).alloc (Nat.le_refl _) _).alloc (by (try simp); (try omega)) _)
  have hSW0 : W0.heap.size = w.heap.size + 2 := by rw [hW0]; simp
  have hD0 : W0.heap[w.heap.size]? = some (.cells #[.int .i64 k1, .int .i64 h1, .string t1, .slice P1 l1.length p1, .slice Q1 ks1.length q1, .slice R1 vs1.length r1] 26) := by
    rw [hW0]
    have := heap_alloc_new w (.cells #[.int .i64 k1, .int .i64 h1, .string t1, .slice P1 l1.length p1, .slice Q1 ks1.length q1, .slice R1 vs1.length r1] 26)
    exact (Below.heap_alloc _ _ _ (by (try simp); (try omega))).trans (this)
  have hD1 : W0.heap[w.heap.size + 1]? = some (.cells #[.int .i64 k2, .int .i64 h2, .string t2, .slice P2 l2.length p2, .slice Q2 ks2.length q2, .slice R2 vs2.length r2] 26) := by
    rw [hW0]
    have := heap_alloc_new (w.alloc (.cells #[.int .i64 k1, .int .i64 h1, .string t1, .slice P1 l1.length p1, .slice Q1 ks1.length q1, .slice R1 vs1.length r1] 26)) (.cells #[.int .i64 k2, .int .i64 h2, .string t2, .slice P2 l2.length p2, .slice Q2 ks2.length q2, .slice R2 vs2.length r2] 26)
    rw [show (w.alloc (.cells #[.int .i64 k1, .int .i64 h1, .string t1, .slice P1 l1.length p1, .slice Q1 ks1.length q1, .slice R1 vs1.length r1] 26)).heap.size = w.heap.size + 1 from by simp] at this
    exact this
  have hfar : ∀ W, Below W0.heap.size W0 W → W.heap[w.heap.size]? = some (.cells #[.int .i64 k1, .int .i64 h1, .string t1, .slice P1 l1.length p1, .slice Q1 ks1.length q1, .slice R1 vs1.length r1] 26) ∧ W.heap[w.heap.size + 1]? = some (.cells #[.int .i64 k2, .int .i64 h2, .string t2, .slice P2 l2.length p2, .slice Q2 ks2.length q2, .slice R2 vs2.length r2] 26) := fun W hb => ⟨(hb.block _ (by omega)).trans hD0, (hb.block _ (by omega)).trans hD1⟩
  have HFAR := Lib.hid hfar
  have HW0 := Lib.hid hW0
  have HBW0 := Lib.hid hBW0
  have HSW0 := Lib.hid hSW0
  clear hfar hW0 hBW0 hSW0 hD0 hD1
  have HK0 := Lib.hid (show ∀ W : World, Below W0.heap.size W0 W → W.cell? ⟨w.heap.size, 0, none⟩ = some (.int .i64 k1) ∧ W.cell? ⟨w.heap.size, 1, none⟩ = some (.int .i64 h1) ∧ W.cell? ⟨w.heap.size, 2, none⟩ = some (.string t1) ∧ W.cell? ⟨w.heap.size, 3, none⟩ = some (.slice P1 l1.length p1) ∧ W.cell? ⟨w.heap.size, 4, none⟩ = some (.slice Q1 ks1.length q1) ∧ W.cell? ⟨w.heap.size, 5, none⟩ = some (.slice R1 vs1.length r1) ∧ W.cell? ⟨w.heap.size + 1, 0, none⟩ = some (.int .i64 k2) ∧ W.cell? ⟨w.heap.size + 1, 1, none⟩ = some (.int .i64 h2) ∧ W.cell? ⟨w.heap.size + 1, 2, none⟩ = some (.string t2) ∧ W.cell? ⟨w.heap.size + 1, 3, none⟩ = some (.slice P2 l2.length p2) ∧ W.cell? ⟨w.heap.size + 1, 4, none⟩ = some (.slice Q2 ks2.length q2) ∧ W.cell? ⟨w.heap.size + 1, 5, none⟩ = some (.slice R2 vs2.length r2) from fun W hb => by
    obtain ⟨q1, q2⟩ := HFAR.out W hb
    refine ⟨?_, ?_, ?_, ?_, ?_, ?_, ?_, ?_, ?_, ?_, ?_, ?_⟩ <;> simp [World.cell?, q1, q2])
  go_enter Tryz.func8, Tryz.ntmps8
  go_wp2_with fail
  rw [← HW0.out]
  refine (zzFits1_any (V.mk k1 h1 t1 l1 ks1 vs1) ok _ W0 (HV1.out.keep HBW0.out)).mono ?_
  rintro e' w3 ⟨⟨r, rfl⟩, hb3⟩
  have HB3 := Lib.hid hb3
  clear hb3
  obtain ⟨z0, z1, z2, z3, z4, z5, y0, y1, y2, y3, y4, y5⟩ := HK0.out w3 HB3.out
  cases r
  · go_wp2_with fail
    go_ret
    exact ⟨rfl, below_trans HBW0.out HB3.out⟩
  by_cases hbig : (m : Int) > 2147483647
  · go_wp2_with fail
    go_ret
    exact ⟨rfl, below_trans HBW0.out HB3.out⟩
  have hbig' : (m : Int) ≤ 2147483647 := by omega
  clear hbig
  go_wp2_with fail
  refine (zzFits1_any (V.mk k2 h2 t2 l2 ks2 vs2) ok _ w3 (HV2.out.keep (below_trans HBW0.out HB3.out))).mono ?_
  rintro e' w4 ⟨⟨r, rfl⟩, hb4⟩
  have HB4 := Lib.hid (below_trans HB3.out hb4)
  clear hb4
  clear z0 z1 z2 z3 z4 z5 y0 y1 y2 y3 y4 y5
  obtain ⟨z0, z1, z2, z3, z4, z5, y0, y1, y2, y3, y4, y5⟩ := HK0.out w4 HB4.out
  cases r
  · go_wp2_with fail
    go_ret
    exact ⟨rfl, below_trans HBW0.out HB4.out⟩
  have HFIT := Lib.hid (fun (w' : World) (hb : Below w4.heap.size w4 w') => fits_any [(V.mk k1 h1 t1 l1 ks1 vs1), mkL pl, (V.mk k2 h2 t2 l2 ks2 vs2)] 3 rfl (fun _ => True) (some ⟨w'.heap.size, 0, none⟩) 3 _ (w'.alloc (.cells #[.int .i64 k1, .int .i64 h1, .string t1, .slice P1 l1.length p1, .slice Q1 ks1.length q1, .slice R1 vs1.length r1, .int .i64 5, .int .i64 0, .string ⟨#[]⟩, .slice A m c, .slice none 0 0, .slice none 0 0, .int .i64 k2, .int .i64 h2, .string t2, .slice P2 l2.length p2, .slice Q2 ks2.length q2, .slice R2 vs2.length r2] 26)) (row_three (heap_alloc_new w' _)) (fun i v hv => by
    have hbb : Below w.heap.size w (w'.alloc (.cells #[.int .i64 k1, .int .i64 h1, .string t1, .slice P1 l1.length p1, .slice Q1 ks1.length q1, .slice R1 vs1.length r1, .int .i64 5, .int .i64 0, .string ⟨#[]⟩, .slice A m c, .slice none 0 0, .slice none 0 0, .int .i64 k2, .int .i64 h2, .string t2, .slice P2 l2.length p2, .slice Q2 ks2.length q2, .slice R2 vs2.length r2] 26)) := below_trans HBW0.out (below_trans HB4.out (hb.alloc hb.size _))
    match i, hv with
    | 0, hv => simp at hv; subst hv; exact (HV1.out.mono fun _ _ => trivial).keep hbb
    | 1, hv => simp at hv; subst hv; exact (HVP.out.mono fun _ _ => trivial).keep hbb
    | 2, hv => simp at hv; subst hv; exact (HV2.out.mono fun _ _ => trivial).keep hbb
    | i + 3, hv => simp at hv) (by decide) (Utf8Tabs_below HT.out (below_trans HBW0.out (below_trans HB4.out (hb.alloc hb.size _)))))
  go_upto_region 3 with fail
  go_cut [32] (fun b wx => Below w4.heap.size w4 wx ∧ ∃ r, b = .bool r ∧ (r = false → (∀ v, v ∈ [(V.mk k1 h1 t1 l1 ks1 vs1), mkL pl, (V.mk k2 h2 t2 l2 ks2 vs2)] → WF v ∧ v.parts ≤ 400) ∧ pl.length ≤ 20 ∧ ∀ v, v ∈ pl → StepV v))
  case first =>
    have hS := HK0.out w4.drew HB4.out.drew
    have HS := Lib.hid hS
    clear hS z0 z1 z2 z3 z4 z5 y0 y1 y2 y3 y4 y5
    refine wp_region_held_drew (S := fun W => W.cell? ⟨w.heap.size, 0, none⟩ = some (.int .i64 k1) ∧ W.cell? ⟨w.heap.size, 1, none⟩ = some (.int .i64 h1) ∧ W.cell? ⟨w.heap.size, 2, none⟩ = some (.string t1) ∧ W.cell? ⟨w.heap.size, 3, none⟩ = some (.slice P1 l1.length p1) ∧ W.cell? ⟨w.heap.size, 4, none⟩ = some (.slice Q1 ks1.length q1) ∧ W.cell? ⟨w.heap.size, 5, none⟩ = some (.slice R1 vs1.length r1) ∧ W.cell? ⟨w.heap.size + 1, 0, none⟩ = some (.int .i64 k2) ∧ W.cell? ⟨w.heap.size + 1, 1, none⟩ = some (.int .i64 h2) ∧ W.cell? ⟨w.heap.size + 1, 2, none⟩ = some (.string t2) ∧ W.cell? ⟨w.heap.size + 1, 3, none⟩ = some (.slice P2 l2.length p2) ∧ W.cell? ⟨w.heap.size + 1, 4, none⟩ = some (.slice Q2 ks2.length q2) ∧ W.cell? ⟨w.heap.size + 1, 5, none⟩ = some (.slice R2 vs2.length r2)) (by kernel_rfl) HS.out (fun _ => ?_)
    refine wpAnyH_take (i := 0) (v := .agg #[.int .i64 k1, .int .i64 h1, .string t1, .slice P1 l1.length p1, .slice Q1 ks1.length q1, .slice R1 vs1.length r1]) rfl (by kernel_rfl) (by kernel_rfl) (by kernel_rfl) (fun _ _ _ h => h) (Or.inl ⟨by rfl, ?_⟩) HS.out ?_
    · intro W hSw
      obtain ⟨z0, z1, z2, z3, z4, z5, y0, y1, y2, y3, y4, y5⟩ := hSw
      go_simp
    simp only [List.getElem_toArray, List.getElem_cons_zero, List.getElem_cons_succ, Act.put, List.setIfInBounds_toArray, List.set_cons_zero, List.set_cons_succ]
    refine wpAnyH_take (i := 1) (v := .slice A m c) rfl (by kernel_rfl) (by kernel_rfl) (by kernel_rfl) (fun _ _ _ h => h) (Or.inl ⟨by rfl, ?_⟩) HS.out ?_
    · intro W hSw
      obtain ⟨z0, z1, z2, z3, z4, z5, y0, y1, y2, y3, y4, y5⟩ := hSw
      go_simp
    simp only [List.getElem_toArray, List.getElem_cons_zero, List.getElem_cons_succ, Act.put, List.setIfInBounds_toArray, List.set_cons_zero, List.set_cons_succ]
    refine wpAnyH_take (i := 3) (v := .agg #[.int .i64 k2, .int .i64 h2, .string t2, .slice P2 l2.length p2, .slice Q2 ks2.length q2, .slice R2 vs2.length r2]) rfl (by kernel_rfl) (by kernel_rfl) (by kernel_rfl) (fun _ _ _ h => h) (Or.inl ⟨by rfl, ?_⟩) HS.out ?_
    · intro W hSw
      obtain ⟨z0, z1, z2, z3, z4, z5, y0, y1, y2, y3, y4, y5⟩ := hSw
      go_simp
    simp only [List.getElem_toArray, List.getElem_cons_zero, List.getElem_cons_succ, Act.put, List.setIfInBounds_toArray, List.set_cons_zero, List.set_cons_succ]
    refine wpAnyH_ready (rs := [2]) (by kernel_rfl) (by simp) ?_
    refine AllReadyH.cons rfl (fun K hK => ?_) AllReadyH.nil
    go_simp
    refine (lawArray_any A m c _).mono ?_
    rintro e' w' ⟨rfl, hb'⟩
    have hbc : Below w4.heap.size w4 w' := Below.trans (Below.drew (Below.refl _ _)) hb'
    have hS1 := HK0.out w' (below_trans HB4.out hbc)
    refine hK.out _ _ hS1 (fun _ => ?_)
    clear hK K HS
    refine wpAnyH_ready (rs := [4]) (by kernel_rfl) (by simp) ?_
    refine AllReadyH.cons rfl (fun K hK => ?_) AllReadyH.nil
    go_simp
    have hS2 := HK0.out (w'.alloc (.cells #[.int .i64 k1, .int .i64 h1, .string t1, .slice P1 l1.length p1, .slice Q1 ks1.length q1, .slice R1 vs1.length r1, .int .i64 5, .int .i64 0, .string ⟨#[]⟩, .slice A m c, .slice none 0 0, .slice none 0 0, .int .i64 k2, .int .i64 h2, .string t2, .slice P2 l2.length p2, .slice Q2 ks2.length q2, .slice R2 vs2.length r2] 26)) (below_trans HB4.out (hbc.alloc hbc.size _))
    refine hK.out _ _ hS2 (fun _ => ?_)
    clear hK K hS1
    refine wpAnyH_ready (rs := [5]) (by kernel_rfl) (by simp) ?_
    refine AllReadyH.cons rfl (fun K hK => ?_) AllReadyH.nil
    go_simp
    refine (HFIT.out w' hbc).mono ?_
    rintro e' w'' ⟨hb'', r, rfl, hf⟩
    have hbd : Below w4.heap.size w4 w'' := below_trans (hbc.alloc hbc.size _) hb''
    have hS3 := HK0.out w'' (below_trans HB4.out hbd)
    refine hK.out _ _ hS3 (fun _ => ?_)
    clear hK K hS2
    cases r
    · refine wpAnyH_take (i := 6) (v := .bool true) rfl (by kernel_rfl) (by kernel_rfl) (by kernel_rfl) (fun _ _ _ h => h) (Or.inl ⟨by rfl, ?_⟩) hS3 ?_
      · intro W hSw
        obtain ⟨z0, z1, z2, z3, z4, z5, y0, y1, y2, y3, y4, y5⟩ := hSw
        go_simp
      simp only [List.getElem_toArray, List.getElem_cons_zero, List.getElem_cons_succ, Act.put, List.setIfInBounds_toArray, List.set_cons_zero, List.set_cons_succ]
      refine wpAnyH_take (i := 7) (v := .bool true) rfl (by kernel_rfl) (by kernel_rfl) (by kernel_rfl) (fun _ _ _ h => h) (Or.inl ⟨by rfl, ?_⟩) hS3 ?_
      · intro W hSw
        obtain ⟨z0, z1, z2, z3, z4, z5, y0, y1, y2, y3, y4, y5⟩ := hSw
        go_simp
      simp only [List.getElem_toArray, List.getElem_cons_zero, List.getElem_cons_succ, Act.put, List.setIfInBounds_toArray, List.set_cons_zero, List.set_cons_succ]
      refine wpAnyH_take (i := 8) (v := undef) rfl (by kernel_rfl) (by kernel_rfl) (by kernel_rfl) (fun _ _ _ h => h) (Or.inr ⟨by rfl, rfl⟩) hS3 ?_
      simp only [List.getElem_toArray, List.getElem_cons_zero, List.getElem_cons_succ, Act.put, List.setIfInBounds_toArray, List.set_cons_zero, List.set_cons_succ]
      refine wpAnyH_take (i := 9) (v := undef) rfl (by kernel_rfl) (by kernel_rfl) (by kernel_rfl) (fun _ _ _ h => h) (Or.inr ⟨by rfl, rfl⟩) hS3 ?_
      simp only [List.getElem_toArray, List.getElem_cons_zero, List.getElem_cons_succ, Act.put, List.setIfInBounds_toArray, List.set_cons_zero, List.set_cons_succ]
      refine wpAnyH_take (i := 10) (v := undef) rfl (by kernel_rfl) (by kernel_rfl) (by kernel_rfl) (fun _ _ _ h => h) (Or.inr ⟨by rfl, rfl⟩) hS3 ?_
      simp only [List.getElem_toArray, List.getElem_cons_zero, List.getElem_cons_succ, Act.put, List.setIfInBounds_toArray, List.set_cons_zero, List.set_cons_succ]
      refine wpAnyH_take (i := 11) (v := .bool true) rfl (by kernel_rfl) (by kernel_rfl) (by kernel_rfl) (fun _ _ _ h => h) (Or.inl ⟨by rfl, ?_⟩) hS3 ?_
      · intro W hSw
        obtain ⟨z0, z1, z2, z3, z4, z5, y0, y1, y2, y3, y4, y5⟩ := hSw
        go_simp
      simp only [List.getElem_toArray, List.getElem_cons_zero, List.getElem_cons_succ, Act.put, List.setIfInBounds_toArray, List.set_cons_zero, List.set_cons_succ]
      refine wpAnyH_done (by kernel_rfl) ?_ _
      have HBD := Lib.hid hbd
      clear hbd hS3 hb'' hbc hb'
      go_wp2_with fail
      go_meet
      exact ⟨HBD.out, _, rfl, fun h => by cases h⟩
    · refine wpAnyH_take (i := 6) (v := .bool false) rfl (by kernel_rfl) (by kernel_rfl) (by kernel_rfl) (fun _ _ _ h => h) (Or.inl ⟨by rfl, ?_⟩) hS3 ?_
      · intro W hSw
        obtain ⟨z0, z1, z2, z3, z4, z5, y0, y1, y2, y3, y4, y5⟩ := hSw
        go_simp
      simp only [List.getElem_toArray, List.getElem_cons_zero, List.getElem_cons_succ, Act.put, List.setIfInBounds_toArray, List.set_cons_zero, List.set_cons_succ]
      refine wpAnyH_take (i := 7) (v := .bool false) rfl (by kernel_rfl) (by kernel_rfl) (by kernel_rfl) (fun _ _ _ h => h) (Or.inl ⟨by rfl, ?_⟩) hS3 ?_
      · intro W hSw
        obtain ⟨z0, z1, z2, z3, z4, z5, y0, y1, y2, y3, y4, y5⟩ := hSw
        go_simp
      simp only [List.getElem_toArray, List.getElem_cons_zero, List.getElem_cons_succ, Act.put, List.setIfInBounds_toArray, List.set_cons_zero, List.set_cons_succ]
      refine wpAnyH_take (i := 8) (v := .slice A m c) rfl (by kernel_rfl) (by kernel_rfl) (by kernel_rfl) (fun _ _ _ h => h) (Or.inl ⟨by rfl, ?_⟩) hS3 ?_
      · intro W hSw
        obtain ⟨z0, z1, z2, z3, z4, z5, y0, y1, y2, y3, y4, y5⟩ := hSw
        go_simp
      simp only [List.getElem_toArray, List.getElem_cons_zero, List.getElem_cons_succ, Act.put, List.setIfInBounds_toArray, List.set_cons_zero, List.set_cons_succ]
      refine wpAnyH_ready (rs := [9]) (by kernel_rfl) (by simp) ?_
      refine AllReadyH.cons rfl (fun K hK => ?_) AllReadyH.nil
      go_simp
      refine (HRW.out _ (below_trans HBW0.out (below_trans HB4.out hbd))).mono ?_
      rintro e' w9 ⟨hb9, r9, rfl, hs9⟩
      have hbe : Below w4.heap.size w4 w9 := below_trans hbd hb9
      have hS4 := HK0.out w9 (below_trans HB4.out hbe)
      refine hK.out _ _ hS4 (fun _ => ?_)
      clear hK K hS3
      refine wpAnyH_take (i := 10) (v := .bool (!r9)) rfl (by kernel_rfl) (by kernel_rfl) (by kernel_rfl) (fun _ _ _ h => h) (Or.inl ⟨by rfl, ?_⟩) hS4 ?_
      · intro W hSw
        obtain ⟨z0, z1, z2, z3, z4, z5, y0, y1, y2, y3, y4, y5⟩ := hSw
        go_simp
      simp only [List.getElem_toArray, List.getElem_cons_zero, List.getElem_cons_succ, Act.put, List.setIfInBounds_toArray, List.set_cons_zero, List.set_cons_succ]
      refine wpAnyH_take (i := 11) (v := .bool (!r9)) rfl (by kernel_rfl) (by kernel_rfl) (by kernel_rfl) (fun _ _ _ h => h) (Or.inl ⟨by rfl, ?_⟩) hS4 ?_
      · intro W hSw
        obtain ⟨z0, z1, z2, z3, z4, z5, y0, y1, y2, y3, y4, y5⟩ := hSw
        go_simp
      simp only [List.getElem_toArray, List.getElem_cons_zero, List.getElem_cons_succ, Act.put, List.setIfInBounds_toArray, List.set_cons_zero, List.set_cons_succ]
      refine wpAnyH_done (by kernel_rfl) ?_ _
      have HBE := Lib.hid hbe
      have HF := Lib.hid hf
      have HS9 := Lib.hid hs9
      clear hbe hS4 hb'' hbc hb' hbd hf hs9 hb9
      go_wp2_with fail
      go_meet
      exact ⟨HBE.out, _, rfl, fun h => ⟨HF.out trivial, HS9.out (by simpa using h)⟩⟩
  case rest =>
    obtain ⟨hbW, r, rfl, hfacts⟩ := hcut
    have HB5 := Lib.hid (below_trans HB4.out hbW)
    have HFACT := Lib.hid hfacts
    clear hbW hfacts HFIT
    cases r
    rotate_left
    · go_wp2_with fail
      go_ret
      exact ⟨rfl, below_trans HBW0.out HB5.out⟩
    obtain ⟨hwf, hl20, hst⟩ := HFACT.out (by first | rfl | trivial)
    obtain ⟨hw1, hp1⟩ := hwf (V.mk k1 h1 t1 l1 ks1 vs1) (by simp)
    obtain ⟨hwp, hpp⟩ := hwf (mkL pl) (by simp)
    obtain ⟨hw2, hp2⟩ := hwf (V.mk k2 h2 t2 l2 ks2 vs2) (by simp)
    have hsteps : ∀ k, k ∈ V.js pl → StepOK k := fun k hk => by
      rw [V.js_map] at hk
      obtain ⟨v, hv, rfl⟩ := List.mem_map.1 hk
      obtain ⟨i, hi⟩ := List.getElem?_of_mem hv
      have hV := HVP.out
      obtain ⟨_, _, _, _, _, _, _, _, _, _, _, _, F, _, _, _, _, _, _, _, _, _, _, _, _, e1, _, _, _⟩ := hV
      exact stepOK_of (e1 i v hi) (hst v hv)
    have HWF1 := Lib.hid hw1
    have HWF2 := Lib.hid hw2
    have HJ1 := Lib.hid (jn_of HV1.out hw1 (by omega))
    have HJ2 := Lib.hid (jn_of HV2.out hw2 (by omega))
    have HL1 := Lib.hid (ln_v _ 400 (V.mk k1 h1 t1 l1 ks1 vs1) (Nat.lt_succ_self _) hw1 hp1)
    have HL2 := Lib.hid (ln_v _ 400 (V.mk k2 h2 t2 l2 ks2 vs2) (Nat.lt_succ_self _) hw2 hp2)
    have HST := Lib.hid hsteps
    have HBX := Lib.hid (below_trans HBW0.out HB5.out)
    have HWFP := Lib.hid hwp
    have HSMP := Lib.hid (sm_of (v := mkL pl) (by omega))
    have HSP := Lib.hid (fun (W : World) (hb : Below wc.heap.size wc W) => implSetPath (V.mk k1 h1 t1 l1 ks1 vs1) (V.mk k2 h2 t2 l2 ks2 vs2) pl ok [.int .i64 k1, .int .i64 h1, .string t1, .slice P1 l1.length p1, .slice Q1 ks1.length q1, .slice R1 vs1.length r1] [.int .i64 5, .int .i64 0, .string ⟨#[]⟩, .slice A m c, .slice none 0 0, .slice none 0 0] [.int .i64 k2, .int .i64 h2, .string t2, .slice P2 l2.length p2, .slice Q2 ks2.length q2, .slice R2 vs2.length r2] W (HV1.out.keep (below_trans HBX.out hb)) (HVP.out.keep (below_trans HBX.out hb)) (HV2.out.keep (below_trans HBX.out hb)) hw1 hwp hw2 hp1 HSMP.out hp2 hsteps)
    have HL20 := Lib.hid hl20
    have HKC := Lib.hid (show ∀ W : World, Below wc.heap.size wc W → W.cell? ⟨w.heap.size, 0, none⟩ = some (.int .i64 k1) ∧ W.cell? ⟨w.heap.size, 1, none⟩ = some (.int .i64 h1) ∧ W.cell? ⟨w.heap.size, 2, none⟩ = some (.string t1) ∧ W.cell? ⟨w.heap.size, 3, none⟩ = some (.slice P1 l1.length p1) ∧ W.cell? ⟨w.heap.size, 4, none⟩ = some (.slice Q1 ks1.length q1) ∧ W.cell? ⟨w.heap.size, 5, none⟩ = some (.slice R1 vs1.length r1) ∧ W.cell? ⟨w.heap.size + 1, 0, none⟩ = some (.int .i64 k2) ∧ W.cell? ⟨w.heap.size + 1, 1, none⟩ = some (.int .i64 h2) ∧ W.cell? ⟨w.heap.size + 1, 2, none⟩ = some (.string t2) ∧ W.cell? ⟨w.heap.size + 1, 3, none⟩ = some (.slice P2 l2.length p2) ∧ W.cell? ⟨w.heap.size + 1, 4, none⟩ = some (.slice Q2 ks2.length q2) ∧ W.cell? ⟨w.heap.size + 1, 5, none⟩ = some (.slice R2 vs2.length r2) from fun W hb => HK0.out W (below_trans HB5.out hb))
    clear hwf hst hw1 hp1 hwp hpp hw2 hp2 hsteps hl20
    obtain ⟨u1, hu1⟩ : ∃ u1, u1 = (V.mk k1 h1 t1 l1 ks1 vs1).j := ⟨_, rfl⟩
    obtain ⟨u2, hu2⟩ : ∃ u2, u2 = (V.mk k2 h2 t2 l2 ks2 vs2).j := ⟨_, rfl⟩
    rw [← hu1] at HSP HJ1 HL1
    rw [← hu2] at HSP HJ2 HL2
    have HU2 := Lib.hid hu2
    clear hu1 hu2
    obtain ⟨z0, z1, z2, z3, z4, z5, y0, y1, y2, y3, y4, y5⟩ := HKC.out wc (Below.refl _ _)
    go_upto_region 5 with fail
    go_cut [7] (fun pv wx => ∃ (v9 : V) (cc : Int), OptT (setJ (V.js pl) u1 u2) v9 cc ∧ ResAt wc v9 cc pv wx)
    case first =>
      go_region_held3 (fun W : World => W.cell? ⟨w.heap.size, 0, none⟩ = some (.int .i64 k1) ∧ W.cell? ⟨w.heap.size, 1, none⟩ = some (.int .i64 h1) ∧ W.cell? ⟨w.heap.size, 2, none⟩ = some (.string t1) ∧ W.cell? ⟨w.heap.size, 3, none⟩ = some (.slice P1 l1.length p1) ∧ W.cell? ⟨w.heap.size, 4, none⟩ = some (.slice Q1 ks1.length q1) ∧ W.cell? ⟨w.heap.size, 5, none⟩ = some (.slice R1 vs1.length r1) ∧ W.cell? ⟨w.heap.size + 1, 0, none⟩ = some (.int .i64 k2) ∧ W.cell? ⟨w.heap.size + 1, 1, none⟩ = some (.int .i64 h2) ∧ W.cell? ⟨w.heap.size + 1, 2, none⟩ = some (.string t2) ∧ W.cell? ⟨w.heap.size + 1, 3, none⟩ = some (.slice P2 l2.length p2) ∧ W.cell? ⟨w.heap.size + 1, 4, none⟩ = some (.slice Q2 ks2.length q2) ∧ W.cell? ⟨w.heap.size + 1, 5, none⟩ = some (.slice R2 vs2.length r2))
        (first | with_reducible exact HKC.out _ hbd | with_reducible exact HKC.out _ (hbd.alloc hbd.size _) | with_reducible exact HKC.out _ hbc | with_reducible exact HKC.out _ (hbc.alloc hbc.size _) | with_reducible exact HKC.out _ (resAt_below HFIN.out) | exact HKC.out _ (by repeat (first | with_reducible exact Below.refl _ _ | with_reducible apply Below.drew | (with_reducible refine Below.alloc ?_ (Nat.le_refl _) _))) | go_keep)
        ((first | (go_at_call 24; refine (lawArray_any A m c _).mono ?_; rintro e' w' ⟨rfl, hb'⟩; have hbc : Below wc.heap.size wc w' := below_trans (by repeat (first | with_reducible exact Below.refl _ _ | with_reducible apply Below.drew | (with_reducible refine Below.alloc ?_ (Nat.le_refl _) _))) hb'; (try with_reducible have hg1 := alloc_then2 hb'); (try with_reducible have hg1 := alloc_then1 hb')) | (go_at_call 30; refine (HSP.out _ ?hbw).mono ?_; (case hbw => with_reducible first | exact hbc | exact hbc.alloc hbc.size _); rintro e' w'' h''; obtain ⟨v7, b0, b1, sb, T3, T4, T5, a3, d3, a4, d4, a5, d5, cc, rfl, hv7, hT7, hb''⟩ := resPost_shape h''; have HT7 := Lib.hid hT7; have hbd : Below wc.heap.size wc w'' := (by with_reducible first | exact below_trans hbc hb'' | exact below_trans (hbc.alloc hbc.size _) hb''); (first | (have hg2 := (hb''.block _ (heap_lt hg1)).trans hg1; have HFIN := Lib.hid (resAt_set (W := wc) (c := cc) hbd (Nat.le_refl _) (heap_lt hg1) hg2 hv7); obtain ⟨x0, x1, x2, x3, x4, x5, x6, xf⟩ := cells7 hg2) | (with_reducible have hg2 := alloc_then hb''; with_reducible have hlt := alloc_lt hb''; with_reducible have HFIN := Lib.hid (resAt_set (W := wc) (c := cc) hbd hbc.size hlt hg2 hv7); obtain ⟨x0, x1, x2, x3, x4, x5, x6, xf⟩ := cells7 hg2) | (have HFIX := Lib.hid (And.intro hbd hv7))); clear hv7 hT7)))
      all_goals
        go_wp2_with fail
        go_meet
        first | exact ⟨_, _, HT7.out, HFIN.out⟩ | exact ⟨_, _, HT7.out, resAt_alloc HFIX.out.1 HFIX.out.2⟩
    case rest =>
      obtain ⟨v9, cc, hT9, g, b0, b1, sb, T3, T4, T5, n3, m3, n4, m4, n5, m5, rfl, hb8, hg8, hc8, hv8⟩ := hcut
      have HB8 := Lib.hid hb8
      have HC8 := Lib.hid hc8
      have HV8 := Lib.hid hv8
      have HKG := Lib.hid (show ∀ W : World, Below wc.heap.size wc W → W.cell? ⟨g, 0, none⟩ = some (.int .i64 b0) ∧ W.cell? ⟨g, 1, none⟩ = some (.int .i64 b1) ∧ W.cell? ⟨g, 2, none⟩ = some (.string sb) ∧ W.cell? ⟨g, 3, none⟩ = some (.slice T3 n3 m3) ∧ W.cell? ⟨g, 4, none⟩ = some (.slice T4 n4 m4) ∧ W.cell? ⟨g, 5, none⟩ = some (.slice T5 n5 m5) ∧ W.cell? ⟨g, 6, none⟩ = some (.int .i64 cc) from fun W hb => by
        have q1 := (hb.block _ (heap_lt HC8.out)).trans HC8.out
        refine ⟨?_, ?_, ?_, ?_, ?_, ?_, ?_⟩ <;> simp [World.cell?, q1])
      clear hb8 hg8 hc8 hv8
      cases hs : setJ (V.js pl) u1 u2 with
      | none =>
        rw [hs] at hT9
        obtain ⟨rfl, rfl⟩ := hT9
        clear hs
        go_upto_region 6 with fail
        have HS := Lib.hid (HKG.out wc.drew (Below.refl _ _).drew)
        refine wp_region_held_drew (S := fun W => W.cell? ⟨g, 0, none⟩ = some (.int .i64 b0) ∧ W.cell? ⟨g, 1, none⟩ = some (.int .i64 b1) ∧ W.cell? ⟨g, 2, none⟩ = some (.string sb) ∧ W.cell? ⟨g, 3, none⟩ = some (.slice T3 n3 m3) ∧ W.cell? ⟨g, 4, none⟩ = some (.slice T4 n4 m4) ∧ W.cell? ⟨g, 5, none⟩ = some (.slice T5 n5 m5) ∧ W.cell? ⟨g, 6, none⟩ = some (.int .i64 1)) (by kernel_rfl) HS.out (fun _ => ?_)
        refine wpAnyH_take (i := 0) (v := .pointer (some ⟨g, 6, none⟩)) rfl (by kernel_rfl) (by kernel_rfl) (by kernel_rfl) (fun _ _ _ h => h) (Or.inl ⟨by rfl, ?_⟩) HS.out ?_
        · intro W hSw
          obtain ⟨x0, x1, x2, x3, x4, x5, x6⟩ := hSw
          go_simp
        simp only [List.getElem_toArray, List.getElem_cons_zero, List.getElem_cons_succ, Act.put, List.setIfInBounds_toArray, List.set_cons_zero, List.set_cons_succ]
        refine wpAnyH_take (i := 1) (v := .int .i64 1) rfl (by kernel_rfl) (by kernel_rfl) (by kernel_rfl) (fun _ _ _ h => h) (Or.inl ⟨by rfl, ?_⟩) HS.out ?_
        · intro W hSw
          obtain ⟨x0, x1, x2, x3, x4, x5, x6⟩ := hSw
          go_simp
        simp only [List.getElem_toArray, List.getElem_cons_zero, List.getElem_cons_succ, Act.put, List.setIfInBounds_toArray, List.set_cons_zero, List.set_cons_succ]
        refine wpAnyH_take (i := 2) (v := .bool true) rfl (by kernel_rfl) (by kernel_rfl) (by kernel_rfl) (fun _ _ _ h => h) (Or.inl ⟨by rfl, ?_⟩) HS.out ?_
        · intro W hSw
          obtain ⟨x0, x1, x2, x3, x4, x5, x6⟩ := hSw
          go_simp
        simp only [List.getElem_toArray, List.getElem_cons_zero, List.getElem_cons_succ, Act.put, List.setIfInBounds_toArray, List.set_cons_zero, List.set_cons_succ]
        refine wpAnyH_take (i := 3) (v := .bool true) rfl (by kernel_rfl) (by kernel_rfl) (by kernel_rfl) (fun _ _ _ h => h) (Or.inl ⟨by rfl, ?_⟩) HS.out ?_
        · intro W hSw
          obtain ⟨x0, x1, x2, x3, x4, x5, x6⟩ := hSw
          go_simp
        simp only [List.getElem_toArray, List.getElem_cons_zero, List.getElem_cons_succ, Act.put, List.setIfInBounds_toArray, List.set_cons_zero, List.set_cons_succ]
        refine wpAnyH_take (i := 4) (v := undef) rfl (by kernel_rfl) (by kernel_rfl) (by kernel_rfl) (fun _ _ _ h => h) (Or.inr ⟨by rfl, rfl⟩) HS.out ?_
        simp only [List.getElem_toArray, List.getElem_cons_zero, List.getElem_cons_succ, Act.put, List.setIfInBounds_toArray, List.set_cons_zero, List.set_cons_succ]
        refine wpAnyH_take (i := 5) (v := undef) rfl (by kernel_rfl) (by kernel_rfl) (by kernel_rfl) (fun _ _ _ h => h) (Or.inr ⟨by rfl, rfl⟩) HS.out ?_
        simp only [List.getElem_toArray, List.getElem_cons_zero, List.getElem_cons_succ, Act.put, List.setIfInBounds_toArray, List.set_cons_zero, List.set_cons_succ]
        refine wpAnyH_take (i := 6) (v := undef) rfl (by kernel_rfl) (by kernel_rfl) (by kernel_rfl) (fun _ _ _ h => h) (Or.inr ⟨by rfl, rfl⟩) HS.out ?_
        simp only [List.getElem_toArray, List.getElem_cons_zero, List.getElem_cons_succ, Act.put, List.setIfInBounds_toArray, List.set_cons_zero, List.set_cons_succ]
        refine wpAnyH_take (i := 7) (v := undef) rfl (by kernel_rfl) (by kernel_rfl) (by kernel_rfl) (fun _ _ _ h => h) (Or.inr ⟨by rfl, rfl⟩) HS.out ?_
        simp only [List.getElem_toArray, List.getElem_cons_zero, List.getElem_cons_succ, Act.put, List.setIfInBounds_toArray, List.set_cons_zero, List.set_cons_succ]
        refine wpAnyH_take (i := 8) (v := undef) rfl (by kernel_rfl) (by kernel_rfl) (by kernel_rfl) (fun _ _ _ h => h) (Or.inr ⟨by rfl, rfl⟩) HS.out ?_
        simp only [List.getElem_toArray, List.getElem_cons_zero, List.getElem_cons_succ, Act.put, List.setIfInBounds_toArray, List.set_cons_zero, List.set_cons_succ]
        refine wpAnyH_take (i := 9) (v := undef) rfl (by kernel_rfl) (by kernel_rfl) (by kernel_rfl) (fun _ _ _ h => h) (Or.inr ⟨by rfl, rfl⟩) HS.out ?_
        simp only [List.getElem_toArray, List.getElem_cons_zero, List.getElem_cons_succ, Act.put, List.setIfInBounds_toArray, List.set_cons_zero, List.set_cons_succ]
        refine wpAnyH_take (i := 10) (v := undef) rfl (by kernel_rfl) (by kernel_rfl) (by kernel_rfl) (fun _ _ _ h => h) (Or.inr ⟨by rfl, rfl⟩) HS.out ?_
        simp only [List.getElem_toArray, List.getElem_cons_zero, List.getElem_cons_succ, Act.put, List.setIfInBounds_toArray, List.set_cons_zero, List.set_cons_succ]
        refine wpAnyH_take (i := 11) (v := .bool true) rfl (by kernel_rfl) (by kernel_rfl) (by kernel_rfl) (fun _ _ _ h => h) (Or.inl ⟨by rfl, ?_⟩) HS.out ?_
        · intro W hSw
          obtain ⟨x0, x1, x2, x3, x4, x5, x6⟩ := hSw
          go_simp
        simp only [List.getElem_toArray, List.getElem_cons_zero, List.getElem_cons_succ, Act.put, List.setIfInBounds_toArray, List.set_cons_zero, List.set_cons_succ]
        refine wpAnyH_ready (rs := [12]) (by kernel_rfl) (by simp) ?_
        refine AllReadyH.cons rfl (fun K hK => ?_) AllReadyH.nil
        go_simp
        refine hK.out _ _ HS.out (fun _ => ?_)
        clear hK K
        refine wpAnyH_done (by kernel_rfl) ?_ _
        go_wp2_with fail
        go_ret
        exact ⟨rfl, below_trans HBX.out HB8.out.drew⟩
      | some j =>
        rw [hs] at hT9
        obtain ⟨rfl, rfl⟩ := hT9
        have hjr := (set_ok 1001 (by omega) (V.js pl) u1 u2 j HST.out HJ1.out (HL1.out.mono (by omega)) HJ2.out (HL2.out.mono (by omega)) hs).1
        have hget := get_set (V.js pl) u1 u2 j HST.out HJ1.out hs
        have HGP := Lib.hid (fun (W : World) (hb : Below wc.heap.size wc W) => implGetPath j u2 pl hjr HJ2.out (fun _ => True) [.int .i64 b0, .int .i64 b1, .string sb, .slice T3 n3 m3, .slice T4 n4 m4, .slice T5 n5 m5] [.int .i64 5, .int .i64 0, .string ⟨#[]⟩, .slice A m c, .slice none 0 0, .slice none 0 0] W (HV8.out.keep hb) ((HVP.out.mono fun _ _ => trivial).keep (below_trans HBX.out (below_trans HB8.out hb))) HWFP.out HSMP.out HST.out (by have := HL20.out; omega) hget)
        clear hs hjr hget
        go_upto_region 6 with fail
        have HKB := Lib.hid (show ∀ W : World, Below wc.heap.size wc W → W.cell? ⟨g, 0, none⟩ = some (.int .i64 b0) ∧ W.cell? ⟨g, 1, none⟩ = some (.int .i64 b1) ∧ W.cell? ⟨g, 2, none⟩ = some (.string sb) ∧ W.cell? ⟨g, 3, none⟩ = some (.slice T3 n3 m3) ∧ W.cell? ⟨g, 4, none⟩ = some (.slice T4 n4 m4) ∧ W.cell? ⟨g, 5, none⟩ = some (.slice T5 n5 m5) ∧ W.cell? ⟨g, 6, none⟩ = some (.int .i64 0) ∧ W.cell? ⟨w.heap.size, 0, none⟩ = some (.int .i64 k1) ∧ W.cell? ⟨w.heap.size, 1, none⟩ = some (.int .i64 h1) ∧ W.cell? ⟨w.heap.size, 2, none⟩ = some (.string t1) ∧ W.cell? ⟨w.heap.size, 3, none⟩ = some (.slice P1 l1.length p1) ∧ W.cell? ⟨w.heap.size, 4, none⟩ = some (.slice Q1 ks1.length q1) ∧ W.cell? ⟨w.heap.size, 5, none⟩ = some (.slice R1 vs1.length r1) ∧ W.cell? ⟨w.heap.size + 1, 0, none⟩ = some (.int .i64 k2) ∧ W.cell? ⟨w.heap.size + 1, 1, none⟩ = some (.int .i64 h2) ∧ W.cell? ⟨w.heap.size + 1, 2, none⟩ = some (.string t2) ∧ W.cell? ⟨w.heap.size + 1, 3, none⟩ = some (.slice P2 l2.length p2) ∧ W.cell? ⟨w.heap.size + 1, 4, none⟩ = some (.slice Q2 ks2.length q2) ∧ W.cell? ⟨w.heap.size + 1, 5, none⟩ = some (.slice R2 vs2.length r2) from fun W hb => by
          obtain ⟨x0, x1, x2, x3, x4, x5, x6⟩ := HKG.out W hb
          exact ⟨x0, x1, x2, x3, x4, x5, x6, HKC.out W (below_trans HB8.out hb)⟩)
        have HS := Lib.hid (HKB.out wc.drew (Below.refl _ _).drew)
        refine wp_region_held_drew (S := fun W => W.cell? ⟨g, 0, none⟩ = some (.int .i64 b0) ∧ W.cell? ⟨g, 1, none⟩ = some (.int .i64 b1) ∧ W.cell? ⟨g, 2, none⟩ = some (.string sb) ∧ W.cell? ⟨g, 3, none⟩ = some (.slice T3 n3 m3) ∧ W.cell? ⟨g, 4, none⟩ = some (.slice T4 n4 m4) ∧ W.cell? ⟨g, 5, none⟩ = some (.slice T5 n5 m5) ∧ W.cell? ⟨g, 6, none⟩ = some (.int .i64 0) ∧ W.cell? ⟨w.heap.size, 0, none⟩ = some (.int .i64 k1) ∧ W.cell? ⟨w.heap.size, 1, none⟩ = some (.int .i64 h1) ∧ W.cell? ⟨w.heap.size, 2, none⟩ = some (.string t1) ∧ W.cell? ⟨w.heap.size, 3, none⟩ = some (.slice P1 l1.length p1) ∧ W.cell? ⟨w.heap.size, 4, none⟩ = some (.slice Q1 ks1.length q1) ∧ W.cell? ⟨w.heap.size, 5, none⟩ = some (.slice R1 vs1.length r1) ∧ W.cell? ⟨w.heap.size + 1, 0, none⟩ = some (.int .i64 k2) ∧ W.cell? ⟨w.heap.size + 1, 1, none⟩ = some (.int .i64 h2) ∧ W.cell? ⟨w.heap.size + 1, 2, none⟩ = some (.string t2) ∧ W.cell? ⟨w.heap.size + 1, 3, none⟩ = some (.slice P2 l2.length p2) ∧ W.cell? ⟨w.heap.size + 1, 4, none⟩ = some (.slice Q2 ks2.length q2) ∧ W.cell? ⟨w.heap.size + 1, 5, none⟩ = some (.slice R2 vs2.length r2)) (by kernel_rfl) HS.out (fun _ => ?_)
        refine wpAnyH_take (i := 0) (v := .pointer (some ⟨g, 6, none⟩)) rfl (by kernel_rfl) (by kernel_rfl) (by kernel_rfl) (fun _ _ _ h => h) (Or.inl ⟨by rfl, ?_⟩) HS.out ?_
        · intro W hSw
          obtain ⟨x0, x1, x2, x3, x4, x5, x6, z0, z1, z2, z3, z4, z5, y0, y1, y2, y3, y4, y5⟩ := hSw
          go_simp
        simp only [List.getElem_toArray, List.getElem_cons_zero, List.getElem_cons_succ, Act.put, List.setIfInBounds_toArray, List.set_cons_zero, List.set_cons_succ]
        refine wpAnyH_take (i := 1) (v := .int .i64 0) rfl (by kernel_rfl) (by kernel_rfl) (by kernel_rfl) (fun _ _ _ h => h) (Or.inl ⟨by rfl, ?_⟩) HS.out ?_
        · intro W hSw
          obtain ⟨x0, x1, x2, x3, x4, x5, x6, z0, z1, z2, z3, z4, z5, y0, y1, y2, y3, y4, y5⟩ := hSw
          go_simp
        simp only [List.getElem_toArray, List.getElem_cons_zero, List.getElem_cons_succ, Act.put, List.setIfInBounds_toArray, List.set_cons_zero, List.set_cons_succ]
        refine wpAnyH_take (i := 2) (v := .bool false) rfl (by kernel_rfl) (by kernel_rfl) (by kernel_rfl) (fun _ _ _ h => h) (Or.inl ⟨by rfl, ?_⟩) HS.out ?_
        · intro W hSw
          obtain ⟨x0, x1, x2, x3, x4, x5, x6, z0, z1, z2, z3, z4, z5, y0, y1, y2, y3, y4, y5⟩ := hSw
          go_simp
        simp only [List.getElem_toArray, List.getElem_cons_zero, List.getElem_cons_succ, Act.put, List.setIfInBounds_toArray, List.set_cons_zero, List.set_cons_succ]
        refine wpAnyH_take (i := 3) (v := .bool false) rfl (by kernel_rfl) (by kernel_rfl) (by kernel_rfl) (fun _ _ _ h => h) (Or.inl ⟨by rfl, ?_⟩) HS.out ?_
        · intro W hSw
          obtain ⟨x0, x1, x2, x3, x4, x5, x6, z0, z1, z2, z3, z4, z5, y0, y1, y2, y3, y4, y5⟩ := hSw
          go_simp
        simp only [List.getElem_toArray, List.getElem_cons_zero, List.getElem_cons_succ, Act.put, List.setIfInBounds_toArray, List.set_cons_zero, List.set_cons_succ]
        refine wpAnyH_take (i := 4) (v := .pointer (some ⟨g, 0, none⟩)) rfl (by kernel_rfl) (by kernel_rfl) (by kernel_rfl) (fun _ _ _ h => h) (Or.inl ⟨by rfl, ?_⟩) HS.out ?_
        · intro W hSw
          obtain ⟨x0, x1, x2, x3, x4, x5, x6, z0, z1, z2, z3, z4, z5, y0, y1, y2, y3, y4, y5⟩ := hSw
          go_simp
        simp only [List.getElem_toArray, List.getElem_cons_zero, List.getElem_cons_succ, Act.put, List.setIfInBounds_toArray, List.set_cons_zero, List.set_cons_succ]
        refine wpAnyH_take (i := 5) (v := .agg #[.int .i64 b0, .int .i64 b1, .string sb, .slice T3 n3 m3, .slice T4 n4 m4, .slice T5 n5 m5]) rfl (by kernel_rfl) (by kernel_rfl) (by kernel_rfl) (fun _ _ _ h => h) (Or.inl ⟨by rfl, ?_⟩) HS.out ?_
        · intro W hSw
          obtain ⟨x0, x1, x2, x3, x4, x5, x6, z0, z1, z2, z3, z4, z5, y0, y1, y2, y3, y4, y5⟩ := hSw
          go_simp
        simp only [List.getElem_toArray, List.getElem_cons_zero, List.getElem_cons_succ, Act.put, List.setIfInBounds_toArray, List.set_cons_zero, List.set_cons_succ]
        refine wpAnyH_take (i := 6) (v := .slice A m c) rfl (by kernel_rfl) (by kernel_rfl) (by kernel_rfl) (fun _ _ _ h => h) (Or.inl ⟨by rfl, ?_⟩) HS.out ?_
        · intro W hSw
          obtain ⟨x0, x1, x2, x3, x4, x5, x6, z0, z1, z2, z3, z4, z5, y0, y1, y2, y3, y4, y5⟩ := hSw
          go_simp
        simp only [List.getElem_toArray, List.getElem_cons_zero, List.getElem_cons_succ, Act.put, List.setIfInBounds_toArray, List.set_cons_zero, List.set_cons_succ]
        refine wpAnyH_take (i := 9) (v := .agg #[.int .i64 k2, .int .i64 h2, .string t2, .slice P2 l2.length p2, .slice Q2 ks2.length q2, .slice R2 vs2.length r2]) rfl (by kernel_rfl) (by kernel_rfl) (by kernel_rfl) (fun _ _ _ h => h) (Or.inl ⟨by rfl, ?_⟩) HS.out ?_
        · intro W hSw
          obtain ⟨x0, x1, x2, x3, x4, x5, x6, z0, z1, z2, z3, z4, z5, y0, y1, y2, y3, y4, y5⟩ := hSw
          go_simp
        simp only [List.getElem_toArray, List.getElem_cons_zero, List.getElem_cons_succ, Act.put, List.setIfInBounds_toArray, List.set_cons_zero, List.set_cons_succ]
        refine wpAnyH_ready (rs := [7]) (by kernel_rfl) (by simp) ?_
        refine AllReadyH.cons rfl (fun K hK => ?_) AllReadyH.nil
        go_simp
        refine (lawArray_any A m c _).mono ?_
        rintro e' w' ⟨rfl, hb'⟩
        have hbc : Below wc.heap.size wc w' := Below.trans (Below.drew (Below.refl _ _)) hb'
        have hS1 := HKB.out w' hbc
        refine hK.out _ _ hS1 (fun _ => ?_)
        clear hK K
        refine wpAnyH_ready (rs := [8]) (by kernel_rfl) (by simp) ?_
        refine AllReadyH.cons rfl (fun K hK => ?_) AllReadyH.nil
        go_simp
        refine (HGP.out _ hbc).mono ?_
        rintro e' w'' h''
        obtain ⟨v7, d0, d1, sd, X3, X4, X5, a3, e3, a4, e4, a5, e5, cd, rfl, hv7, ⟨rfl, rfl⟩, hb''⟩ := resPost_shape h''
        have hbd : Below wc.heap.size wc w'' := below_trans hbc hb''
        have hS2 := HKB.out w'' hbd
        refine hK.out _ _ hS2 (fun _ => ?_)
        clear hK K h'' hS1
        rw [HU2.out, round HWF2.out] at hv7
        refine wpAnyH_ready (rs := [10]) (by kernel_rfl) (by simp) ?_
        refine AllReadyH.cons rfl (fun K hK => ?_) AllReadyH.nil
        go_simp
        refine (given_any (V.mk k2 h2 t2 l2 ks2 vs2) (V.mk k2 h2 t2 l2 ks2 vs2) (fun _ => True) _ _ _ _ _ _ _ _ _ _ _ _ [.int .i64 k2, .int .i64 h2, .string t2, .slice P2 l2.length p2, .slice Q2 ks2.length q2, .slice R2 vs2.length r2] _ (hv7.mono fun _ _ => trivial) ((HV2.out.mono fun _ _ => trivial).keep (below_trans HBX.out (below_trans HB8.out hbd))) HWF2.out HWF2.out (cmpV_self _)).mono ?_
        rintro e' w9 ⟨rfl, hb9⟩
        have hbe : Below wc.heap.size wc w9 := below_trans hbd hb9
        have hS3 := HKB.out w9 hbe
        refine hK.out _ _ hS3 (fun _ => ?_)
        clear hK K hS2 hv7
        refine wpAnyH_take (i := 11) (v := .bool true) rfl (by kernel_rfl) (by kernel_rfl) (by kernel_rfl) (fun _ _ _ h => h) (Or.inl ⟨by rfl, ?_⟩) hS3 ?_
        · intro W hSw
          obtain ⟨x0, x1, x2, x3, x4, x5, x6, z0, z1, z2, z3, z4, z5, y0, y1, y2, y3, y4, y5⟩ := hSw
          go_simp
        simp only [List.getElem_toArray, List.getElem_cons_zero, List.getElem_cons_succ, Act.put, List.setIfInBounds_toArray, List.set_cons_zero, List.set_cons_succ]
        refine wpAnyH_ready (rs := [12]) (by kernel_rfl) (by simp) ?_
        refine AllReadyH.cons rfl (fun K hK => ?_) AllReadyH.nil
        go_simp
        refine hK.out _ _ hS3 (fun _ => ?_)
        clear hK K
        refine wpAnyH_done (by kernel_rfl) ?_ _
        have HBE := Lib.hid hbe
        clear hS3 hbe hbd hbc hb' hb'' hb9
        go_wp2_with fail
        go_ret
        exact ⟨rfl, below_trans HBX.out (below_trans HB8.out HBE.out)⟩
end Go.Proofs.YtpamlgdcnmcedaaGreatDoor

set_option linter.unusedVariables false
namespace Go.Proofs.YtpamlgdcnmcedaaGreatDoor
open Go Go.RowKit
theorem setGet_list (x : V) (cs1 : List Value) {W : World} (hx : Vr W (fun _ => True) x cs1) (l : List V) (A : Option Addr) (c : Nat) (hl : ListR W A l c) (y : V) (cs2 : List Value) (hy : Vr W (fun _ => True) y cs2) (hT : Lib.Utf8Tabs 0 1 W) :
    Calls Tryz.prog 8 #[.agg cs1.toArray, .slice A l.length c, .agg cs2.toArray] W (LawP W) := by
  obtain ⟨f, h1, h2, h3, h4⟩ := hl
  exact setGet_law x y l l.length rfl (fun _ => True) cs1 cs2 A c f W hx hy h3 h4 h1 h2 hT
end Go.Proofs.YtpamlgdcnmcedaaGreatDoor
