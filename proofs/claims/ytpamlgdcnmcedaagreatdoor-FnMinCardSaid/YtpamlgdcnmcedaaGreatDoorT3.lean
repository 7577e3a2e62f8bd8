/- laws.number, array, given; impl.Length of an array; impl.Transpose of rows. -/
import Derived.Test.YtpamlgdcnmcedaaGreatDoorT2
import Derived.Test.YtpamlgdcnmcedaaGreatDoorP2
set_option linter.unusedVariables false
set_option linter.unusedSimpArgs false
set_option maxRecDepth 100000
namespace Go.Proofs.YtpamlgdcnmcedaaGreatDoor
open Go Go.RowKit
theorem lawNumber_any (n : Int) (hn : -9007199254740992 ≤ n ∧ n ≤ 9007199254740992) (w : World) : Calls Tryz.prog 26 #[.int .i64 n] w fun e w' =>
    e = .returned (.agg #[.int .i64 3, .int .i64 (2 * n), .string ⟨#[]⟩, .slice none 0 0, .slice none 0 0, .slice none 0 0]) ∧ Below w.heap.size w w' := by
  go_enter Tryz.func26, Tryz.ntmps26
  go_wp2_with fail
  refine bodyPost_ret (v := .agg #[.int .i64 3, .int .i64 (2 * n), .string ⟨#[]⟩, .slice none 0 0, .slice none 0 0, .slice none 0 0]) (by simp [results, Tryz.results26, go_sem]) rfl ?_
  exact ⟨rfl, (Below.refl _ _).alloc (Nat.le_refl _) _⟩
theorem lawArray_any (A : Option Addr) (m c : Nat) (w : World) : Calls Tryz.prog 24 #[.slice A m c] w fun e w' =>
    e = .returned (.agg #[.int .i64 5, .int .i64 0, .string ⟨#[]⟩, .slice A m c, .slice none 0 0, .slice none 0 0]) ∧ Below w.heap.size w w' := by
  go_enter Tryz.func24, Tryz.ntmps24
  go_wp2_with fail
  refine bodyPost_ret (v := .agg #[.int .i64 5, .int .i64 0, .string ⟨#[]⟩, .slice A m c, .slice none 0 0, .slice none 0 0]) (by simp [results, Tryz.results24, go_sem]) rfl ?_
  exact ⟨rfl, (Below.refl _ _).alloc (Nat.le_refl _) _⟩
theorem given_any (v d : V) (ok : Nat → Prop) (a0 a1 : Int) (s : ByteArray) (S3 S4 S5 : Option Addr) (n3 m3 n4 m4 n5 m5 : Nat) (ds : List Value) (w : World)
    (hv : Vr w ok v [.int .i64 a0, .int .i64 a1, .string s, .slice S3 n3 m3, .slice S4 n4 m4, .slice S5 n5 m5]) (hd : Vr w ok d ds) (wv : WF v) (wd : WF d) (h : cmpV v d = 0) :
    Calls Tryz.prog 27 #[.agg #[.int .i64 a0, .int .i64 a1, .string s, .slice S3 n3 m3, .slice S4 n4 m4, .slice S5 n5 m5, .int .i64 0], .agg ds.toArray] w fun e w' => e = .returned (.bool true) ∧ Below w.heap.size w w' := by
  have HV := Lib.hid hv
  have HD := Lib.hid hd
  obtain ⟨dk, dh, dt, dl, dks, dvs, D1, p1, D2, p2, D3, p3, df, dg, dht, dh1, dh2, dh3, db1, db2, db3, dhk, dhh, dhs, dr1, de1, dr2, dr3, de3⟩ := hd
  obtain ⟨W2, hW2⟩ : ∃ W2, W2 = (w.alloc (.cells #[.int .i64 a0, .int .i64 a1, .string s, .slice S3 n3 m3, .slice S4 n4 m4, .slice S5 n5 m5, .int .i64 0] 34)).alloc (.cells #[.int .i64 dk, .int .i64 dh, .string dt, .slice D1 dl.length p1, .slice D2 dks.length p2, .slice D3 dvs.length p3] 26) := ⟨_, rfl⟩
  have hB : Below w.heap.size w W2 := by rw [hW2]; exact ((Below.refl _ _).alloc (Nat.le_refl _) _).alloc (by simp) _
  have HT := Lib.hid (told_fine v _ ok [.int .i64 a0, .int .i64 a1, .string s, .slice S3 n3 m3, .slice S4 n4 m4, .slice S5 n5 m5] _ W2 wv wd (HV.out.keep hB) (HD.out.keep hB) h)
  have HW2 := Lib.hid hW2
  have HB := Lib.hid hB
  clear hW2 hB hv h dr1 de1 dr2 dr3 de3 dhs
  go_enter Tryz.func27, Tryz.ntmps27
  go_wp2_with fail
  rw [← HW2.out]
  refine HT.out.mono ?_
  rintro e' w' ⟨rfl, hb'⟩
  go_wp2_with fail
  go_ret
  exact ⟨rfl, below_trans HB.out hb'⟩
theorem length_arr (A : Option Addr) (m c : Nat) (w : World) : Calls Tryz.prog 116 #[.iface 62 (.slice A m c)] w fun e w' => e = .returned (.iface 3 (.int .i64 m)) ∧ w' = w := by
  go_enter Tryz.func116, Tryz.ntmps116
  go_wp2_with fail
  go_ret
  exact ⟨rfl, rfl⟩
theorem zzLength_arr (A : Option Addr) (m c : Nat) (w : World) : Calls Tryz.prog 65 #[.iface 62 (.slice A m c)] w fun e w' => e = .returned (.iface 3 (.int .i64 m)) ∧ w' = w := by
  have H := Lib.hid (length_arr A m c w)
  go_enter Tryz.func65, Tryz.ntmps65
  go_wp2_with fail
  refine H.out.mono ?_
  rintro e' w' ⟨rfl, rfl⟩
  go_wp2_with fail
  go_ret
  exact ⟨rfl, rfl⟩
set_option maxHeartbeats 1000000 in
/-- impl.Length: what gojq gives of the values, as a result. -/
theorem door_Length (v1 : V) (ok : Nat → Prop) (cs1 : List Value) (w : World) (hv1 : Vr w ok v1 cs1) (wf1 : WF v1) (pa1 : Sm v1)
    (S : Value → World → Prop) (T : V → Int → Prop)
    (HZ : ∀ (x1 : Value) (W : World), Below w.heap.size w W → Jr W (fun _ => True) v1.j x1 → Calls Tryz.prog 65 #[x1] W fun e W' => ∃ x, e = .returned x ∧ Below W.heap.size W W' ∧ S x W')
    (HR : ∀ (x : Value) (W : World), S x W → Calls Tryz.prog 48 #[x] W (ResPost T W)) :
    Calls Tryz.prog 28 #[.agg cs1.toArray] w (ResPost T w) := by
  have HV1 := Lib.hid hv1
  obtain ⟨k1, h1, t1, l1, ks1, vs1, P1, p1, Q1, q1, R1, r1, f1, g1, i1, i2, i3, i4, i5, i6, i7, i8, i9, i10, i11, i12, i13, i14, i15⟩ := hv1
  clear i1 i2 i3 i4 i5 i6 i7 i8 i9 i10 i11 i12 i13 i14 i15
  obtain ⟨W0, hW0⟩ : ∃ W0, W0 = (w.alloc (.cells #[.int .i64 k1, .int .i64 h1, .string t1, .slice P1 l1.length p1, .slice Q1 ks1.length q1, .slice R1 vs1.length r1] 26)).alloc (.cells #[.int .i64 0, .int .i64 0, .string ⟨#[]⟩, .slice none 0 0, .slice none 0 0, .slice none 0 0, .int .i64 0] 34) := ⟨_, rfl⟩
  have hB : Below w.heap.size w W0 := by rw [hW0]; exact (((Below.refl _ _).alloc (Nat.le_refl _) _).alloc (by (try simp); (try omega)) _)
  have hS0 : W0.heap.size = w.heap.size + 2 := by rw [hW0]; simp
  have hR0 : W0.heap[w.heap.size + 1]? = some (.cells #[.int .i64 0, .int .i64 0, .string ⟨#[]⟩, .slice none 0 0, .slice none 0 0, .slice none 0 0, .int .i64 0] 34) := by
    rw [hW0]
    have := heap_alloc_new (w.alloc (.cells #[.int .i64 k1, .int .i64 h1, .string t1, .slice P1 l1.length p1, .slice Q1 ks1.length q1, .slice R1 vs1.length r1] 26)) (.cells #[.int .i64 0, .int .i64 0, .string ⟨#[]⟩, .slice none 0 0, .slice none 0 0, .slice none 0 0, .int .i64 0] 34)
    rw [show (w.alloc (.cells #[.int .i64 k1, .int .i64 h1, .string t1, .slice P1 l1.length p1, .slice Q1 ks1.length q1, .slice R1 vs1.length r1] 26)).heap.size = w.heap.size + 1 from by simp] at this
    exact this
  have HW0 := Lib.hid hW0
  have HT1 := Lib.hid (toGo_any _ ok _ W0 wf1 pa1 (HV1.out.keep hB))
  clear hW0
  go_enter Tryz.func28, Tryz.ntmps28
  go_wp2_with fail
  rw [← HW0.out]
  refine HT1.out.mono ?_
  rintro e' w1 ⟨x1, rfl, hx1, hb1⟩
  have HX1 := Lib.hid hx1
  have HB1 := Lib.hid (below_trans hB hb1)
  have HC1 := Lib.hid hb1
  clear hx1 hb1
  have HJ1 := Lib.hid (show Jr w1 (fun _ => True) _ x1 from HX1.out.mono fun _ _ => trivial)
  have hsz : w.heap.size + 2 ≤ w1.heap.size := by have := HC1.out.size; omega
  go_wp2_with fail
  refine (HZ x1 w1 HB1.out HJ1.out).mono ?_
  rintro e' w8 ⟨x8, rfl, hb8, hS8⟩
  have HS8 := Lib.hid hS8
  have HB8 := Lib.hid (below_trans HB1.out hb8)
  have HC8 := Lib.hid (below_trans HC1.out hb8)
  have hsz8 : w.heap.size + 2 ≤ w8.heap.size := by have := hb8.size; omega
  clear hS8 hb8
  go_wp2_with fail
  refine (HR x8 w8 HS8.out).mono ?_
  rintro e' w9 h9
  obtain ⟨v9, a0, a1, s, S3, S4, S5, n3, m3, n4, m4, n5, m5, c, rfl, hv9, hT9, hb9⟩ := resPost_shape h9
  have hr9 := (hb9.block _ (by omega)).trans ((HC8.out.block _ (by omega)).trans hR0)
  have y0 : w9.cell? ⟨w.heap.size + 1, 0, none⟩ = some (.int .i64 0) := by simp [World.cell?, hr9]
  have y1 : w9.cell? ⟨w.heap.size + 1, 1, none⟩ = some (.int .i64 0) := by simp [World.cell?, hr9]
  have y2 : w9.cell? ⟨w.heap.size + 1, 2, none⟩ = some (.string ⟨#[]⟩) := by simp [World.cell?, hr9]
  have y3 : w9.cell? ⟨w.heap.size + 1, 3, none⟩ = some (.slice none 0 0) := by simp [World.cell?, hr9]
  have y4 : w9.cell? ⟨w.heap.size + 1, 4, none⟩ = some (.slice none 0 0) := by simp [World.cell?, hr9]
  have y5 : w9.cell? ⟨w.heap.size + 1, 5, none⟩ = some (.slice none 0 0) := by simp [World.cell?, hr9]
  have y6 : w9.cell? ⟨w.heap.size + 1, 6, none⟩ = some (.int .i64 0) := by simp [World.cell?, hr9]
  have yf : ∀ i, w9.frozen? ⟨w.heap.size + 1, i, none⟩ = false := fun i => by simp [World.frozen?, hr9]
  have HB9 := Lib.hid (below_trans HB8.out hb9)
  have hset : ∀ (W : World) (i : Nat) (u : Value) (cs : List Value), Vr W (fun b => w.heap.size + 1 < b) v9 cs → Vr (W.setCell ⟨w.heap.size + 1, i, none⟩ u) (fun b => w.heap.size + 1 < b) v9 cs := fun W i u cs h =>
    h.move fun b hb => Below.heap_setCell _ _ _ _ (by show b ≠ w.heap.size + 1; omega)
  have HSET := Lib.hid hset
  have HV9 := Lib.hid (show Vr w9 (fun b => w.heap.size + 1 < b) v9 _ from hv9.mono fun b hb => by omega)
  have HT9 := Lib.hid hT9
  clear hset hv9 hT9 hb9 hr9 h9 hR0
  go_wp2_with fail
  refine bodyPost_ret (v := .agg #[.int .i64 a0, .int .i64 a1, .string s, .slice S3 n3 m3, .slice S4 n4 m4, .slice S5 n5 m5, .int .i64 c]) (by simp [results, Tryz.results28, go_sem, y0, y1, y2, y3, y4, y5, y6]) rfl ?_
  refine ⟨v9, [.int .i64 a0, .int .i64 a1, .string s, .slice S3 n3 m3, .slice S4 n4 m4, .slice S5 n5 m5], c, rfl, ?_, HT9.out, ?_⟩
  · exact (HSET.out _ _ _ _ (HSET.out _ _ _ _ (HSET.out _ _ _ _ (HSET.out _ _ _ _ (HSET.out _ _ _ _ (HSET.out _ _ _ _ (HSET.out _ _ _ _ HV9.out))))))).mono fun b hb => by omega
  · have hle : w.heap.size ≤ w.heap.size + 1 := by omega
    exact (((((((HB9.out.setCell hle _).setCell hle _).setCell hle _).setCell hle _).setCell hle _).setCell hle _).setCell hle _)
set_option maxHeartbeats 1000000 in
/-- impl.Transpose: what gojq gives of the values, as a result. -/
theorem door_Transpose (v1 : V) (ok : Nat → Prop) (cs1 : List Value) (w : World) (hv1 : Vr w ok v1 cs1) (wf1 : WF v1) (pa1 : Sm v1)
    (S : Value → World → Prop) (T : V → Int → Prop)
    (HZ : ∀ (x1 : Value) (W : World), Below w.heap.size w W → Jr W (fun _ => True) v1.j x1 → Calls Tryz.prog 64 #[x1] W fun e W' => ∃ x, e = .returned x ∧ Below W.heap.size W W' ∧ S x W')
    (HR : ∀ (x : Value) (W : World), S x W → Calls Tryz.prog 48 #[x] W (ResPost T W)) :
    Calls Tryz.prog 25 #[.agg cs1.toArray] w (ResPost T w) := by
  have HV1 := Lib.hid hv1
  obtain ⟨k1, h1, t1, l1, ks1, vs1, P1, p1, Q1, q1, R1, r1, f1, g1, i1, i2, i3, i4, i5, i6, i7, i8, i9, i10, i11, i12, i13, i14, i15⟩ := hv1
  clear i1 i2 i3 i4 i5 i6 i7 i8 i9 i10 i11 i12 i13 i14 i15
  obtain ⟨W0, hW0⟩ : ∃ W0, W0 = (w.alloc (.cells #[.int .i64 k1, .int .i64 h1, .string t1, .slice P1 l1.length p1, .slice Q1 ks1.length q1, .slice R1 vs1.length r1] 26)).alloc (.cells #[.int .i64 0, .int .i64 0, .string ⟨#[]⟩, .slice none 0 0, .slice none 0 0, .slice none 0 0, .int .i64 0] 34) := ⟨_, rfl⟩
  have hB : Below w.heap.size w W0 := by rw [hW0]; exact (((Below.refl _ _).alloc (Nat.le_refl _) _).alloc (by (try simp); (try omega)) _)
  have hS0 : W0.heap.size = w.heap.size + 2 := by rw [hW0]; simp
  have hR0 : W0.heap[w.heap.size + 1]? = some (.cells #[.int .i64 0, .int .i64 0, .string ⟨#[]⟩, .slice none 0 0, .slice none 0 0, .slice none 0 0, .int .i64 0] 34) := by
    rw [hW0]
    have := heap_alloc_new (w.alloc (.cells #[.int .i64 k1, .int .i64 h1, .string t1, .slice P1 l1.length p1, .slice Q1 ks1.length q1, .slice R1 vs1.length r1] 26)) (.cells #[.int .i64 0, .int .i64 0, .string ⟨#[]⟩, .slice none 0 0, .slice none 0 0, .slice none 0 0, .int .i64 0] 34)
    rw [show (w.alloc (.cells #[.int .i64 k1, .int .i64 h1, .string t1, .slice P1 l1.length p1, .slice Q1 ks1.length q1, .slice R1 vs1.length r1] 26)).heap.size = w.heap.size + 1 from by simp] at this
    exact this
  have HW0 := Lib.hid hW0
  have HT1 := Lib.hid (toGo_any _ ok _ W0 wf1 pa1 (HV1.out.keep hB))
  clear hW0
  go_enter Tryz.func25, Tryz.ntmps25
  go_wp2_with fail
  rw [← HW0.out]
  refine HT1.out.mono ?_
  rintro e' w1 ⟨x1, rfl, hx1, hb1⟩
  have HX1 := Lib.hid hx1
  have HB1 := Lib.hid (below_trans hB hb1)
  have HC1 := Lib.hid hb1
  clear hx1 hb1
  have HJ1 := Lib.hid (show Jr w1 (fun _ => True) _ x1 from HX1.out.mono fun _ _ => trivial)
  have hsz : w.heap.size + 2 ≤ w1.heap.size := by have := HC1.out.size; omega
  go_wp2_with fail
  refine (HZ x1 w1 HB1.out HJ1.out).mono ?_
  rintro e' w8 ⟨x8, rfl, hb8, hS8⟩
  have HS8 := Lib.hid hS8
  have HB8 := Lib.hid (below_trans HB1.out hb8)
  have HC8 := Lib.hid (below_trans HC1.out hb8)
  have hsz8 : w.heap.size + 2 ≤ w8.heap.size := by have := hb8.size; omega
  clear hS8 hb8
  go_wp2_with fail
  refine (HR x8 w8 HS8.out).mono ?_
  rintro e' w9 h9
  obtain ⟨v9, a0, a1, s, S3, S4, S5, n3, m3, n4, m4, n5, m5, c, rfl, hv9, hT9, hb9⟩ := resPost_shape h9
  have hr9 := (hb9.block _ (by omega)).trans ((HC8.out.block _ (by omega)).trans hR0)
  have y0 : w9.cell? ⟨w.heap.size + 1, 0, none⟩ = some (.int .i64 0) := by simp [World.cell?, hr9]
  have y1 : w9.cell? ⟨w.heap.size + 1, 1, none⟩ = some (.int .i64 0) := by simp [World.cell?, hr9]
  have y2 : w9.cell? ⟨w.heap.size + 1, 2, none⟩ = some (.string ⟨#[]⟩) := by simp [World.cell?, hr9]
  have y3 : w9.cell? ⟨w.heap.size + 1, 3, none⟩ = some (.slice none 0 0) := by simp [World.cell?, hr9]
  have y4 : w9.cell? ⟨w.heap.size + 1, 4, none⟩ = some (.slice none 0 0) := by simp [World.cell?, hr9]
  have y5 : w9.cell? ⟨w.heap.size + 1, 5, none⟩ = some (.slice none 0 0) := by simp [World.cell?, hr9]
  have y6 : w9.cell? ⟨w.heap.size + 1, 6, none⟩ = some (.int .i64 0) := by simp [World.cell?, hr9]
  have yf : ∀ i, w9.frozen? ⟨w.heap.size + 1, i, none⟩ = false := fun i => by simp [World.frozen?, hr9]
  have HB9 := Lib.hid (below_trans HB8.out hb9)
  have hset : ∀ (W : World) (i : Nat) (u : Value) (cs : List Value), Vr W (fun b => w.heap.size + 1 < b) v9 cs → Vr (W.setCell ⟨w.heap.size + 1, i, none⟩ u) (fun b => w.heap.size + 1 < b) v9 cs := fun W i u cs h =>
    h.move fun b hb => Below.heap_setCell _ _ _ _ (by show b ≠ w.heap.size + 1; omega)
  have HSET := Lib.hid hset
  have HV9 := Lib.hid (show Vr w9 (fun b => w.heap.size + 1 < b) v9 _ from hv9.mono fun b hb => by omega)
  have HT9 := Lib.hid hT9
  clear hset hv9 hT9 hb9 hr9 h9 hR0
  go_wp2_with fail
  refine bodyPost_ret (v := .agg #[.int .i64 a0, .int .i64 a1, .string s, .slice S3 n3 m3, .slice S4 n4 m4, .slice S5 n5 m5, .int .i64 c]) (by simp [results, Tryz.results25, go_sem, y0, y1, y2, y3, y4, y5, y6]) rfl ?_
  refine ⟨v9, [.int .i64 a0, .int .i64 a1, .string s, .slice S3 n3 m3, .slice S4 n4 m4, .slice S5 n5 m5], c, rfl, ?_, HT9.out, ?_⟩
  · exact (HSET.out _ _ _ _ (HSET.out _ _ _ _ (HSET.out _ _ _ _ (HSET.out _ _ _ _ (HSET.out _ _ _ _ (HSET.out _ _ _ _ (HSET.out _ _ _ _ HV9.out))))))).mono fun b hb => by omega
  · have hle : w.heap.size ≤ w.heap.size + 1 := by omega
    exact (((((((HB9.out.setCell hle _).setCell hle _).setCell hle _).setCell hle _).setCell hle _).setCell hle _).setCell hle _)
theorem implLength_arr (v : V) (l : List J) (hj : v.j = .arr l) (hl : l.length ≤ 1000000) (ok : Nat → Prop) (cs : List Value) (w : World) (hv : Vr w ok v cs) (wf : WF v) (sm : Sm v) :
    Calls Tryz.prog 28 #[.agg cs.toArray] w (ResPost (fun v c => v = V.mk 3 (2 * l.length) ⟨#[]⟩ [] [] [] ∧ c = 0) w) :=
  door_Length v ok cs w hv wf sm (fun x _ => x = .iface 3 (.int .i64 l.length)) _ (fun x W _ hx => by
    rw [hj] at hx
    obtain _ | _ | _ | _ | _ | ⟨_, A, c, f, hc, r, e⟩ := hx
    refine (zzLength_arr A l.length c W).mono ?_
    rintro e' w' ⟨rfl, rfl⟩
    exact ⟨_, rfl, Below.refl _ _, rfl⟩) (fun x W hx => by
    subst hx
    refine (result_any (.int l.length) (fun _ => True) _ W (.int _ (by omega)) (.int _)).mono fun e w' h => resPost_mono (resPost_ok h) fun v c h => ?_
    rw [h.1, h.2]
    exact ⟨rfl, rfl⟩)
/-- The columns come back as they went. -/
theorem trans_jn (rows : List (List J)) (hlen : rows.length ≤ 1000000) (hrow : ∀ r, r ∈ rows → JN (.arr r)) (hL : wideL rows ≤ 1000000) : JN (.arr (transJ rows (wideL rows))) := by
  refine jn_arr (fun j hj => ?_) (by simp [transJ]; exact hL)
  unfold transJ at hj
  obtain ⟨q, hq, rfl⟩ := List.mem_map.1 hj
  refine jn_arr (fun j hj => ?_) (by simpa using hlen)
  obtain ⟨r, hr, rfl⟩ := List.mem_map.1 hj
  exact jn_getD (jn_arr_elim (hrow r hr)) q
theorem implTranspose_rows (v : V) (rows : List (List J)) (hj : v.j = .arr (rows.map .arr)) (hN : JN (.arr (rows.map .arr))) (hL : wideL rows ≤ 1000000) (ok : Nat → Prop) (cs : List Value) (w : World) (hv : Vr w ok v cs) (wf : WF v) (sm : Sm v) :
    Calls Tryz.prog 25 #[.agg cs.toArray] w (ResPost (fun v c => v = (J.arr (transJ rows (wideL rows))).v ∧ c = 0) w) := by
  have hlen : rows.length ≤ 1000000 := by have := jn_len hN; rwa [List.length_map] at this
  have hrow : ∀ r, r ∈ rows → JN (.arr r) := fun r hr => jn_arr_elim hN _ (List.mem_map.2 ⟨r, hr, rfl⟩)
  refine door_Transpose v ok cs w hv wf sm (fun x W => Jr W (fun _ => True) (.arr (transJ rows (wideL rows))) x) _ (fun x W _ hx => ?_) (fun x W hx => ?_)
  · rw [hj] at hx
    exact (zzTranspose_any rows hlen (fun r hr => jn_len (hrow r hr)) x _ W hx).mono fun e w' h => h
  · refine (result_any _ (fun _ => True) _ W (trans_jn rows hlen hrow hL).2.2.1 hx).mono fun e w' h => resPost_ok h
end Go.Proofs.YtpamlgdcnmcedaaGreatDoor
