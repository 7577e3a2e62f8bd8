/- laws.FnFlattenTo: the walk. -/
import Derived.Test.YtpamlgdcnmcedaaGreatDoorS4
import Derived.Test.YtpamlgdcnmcedaaGreatDoorS5
import Derived.Test.YtpamlgdcnmcedaaGreatDoorF3
import Derived.Test.YtpamlgdcnmcedaaGreatDoorQ3
set_option linter.unusedVariables false
set_option linter.unusedSimpArgs false
set_option maxRecDepth 100000
namespace Go.Proofs.YtpamlgdcnmcedaaGreatDoor
open Go Go.RowKit
def LawPost (w : World) (e : Ending) (w' : World) : Prop := e = .returned (.bool true) ∧ Below w.heap.size w w'
theorem j_int {d : V} {n : Nat} (h3 : d.kind = 3) (hh : d.half = 2 * n) : d.j = .int n := by
  cases d with
  | mk k h t l ks vs =>
    have hk : k = 3 := h3
    have he : h = 2 * n := hh
    subst hk he
    have e1 : (2 * (n : Int)).tmod 2 = 0 := Int.mul_tmod_right 2 _
    have e2 : (2 * (n : Int)).tdiv 2 = n := Int.mul_tdiv_cancel_left _ (by decide)
    rw [V.j]
    simp [e1, e2]
/-- Two values' cells in one row. -/
theorem row_two {w : World} {B : Nat} {c0 c1 c2 c3 c4 c5 d0 d1 d2 d3 d4 d5 : Value} {t : TypeId} {fz : Nat × Nat} (h : w.heap[B]? = some (.cells #[c0, c1, c2, c3, c4, c5, d0, d1, d2, d3, d4, d5] t fz)) :
    RowAt w (fun _ => True) 6 (some ⟨B, 0, none⟩) 2 (fun i => if i = 0 then [c0, c1, c2, c3, c4, c5] else [d0, d1, d2, d3, d4, d5]) := by
  refine fun _ => ⟨_, rfl, trivial, fun i j u hi hu => ?_⟩
  have hi2 : i = 0 ∨ i = 1 := by omega
  rcases hi2 with rfl | rfl
  · match j, hu with
    | 0, hu => simp at hu; subst hu; simp [Addr.add, World.cell?, h]
    | 1, hu => simp at hu; subst hu; simp [Addr.add, World.cell?, h]
    | 2, hu => simp at hu; subst hu; simp [Addr.add, World.cell?, h]
    | 3, hu => simp at hu; subst hu; simp [Addr.add, World.cell?, h]
    | 4, hu => simp at hu; subst hu; simp [Addr.add, World.cell?, h]
    | 5, hu => simp at hu; subst hu; simp [Addr.add, World.cell?, h]
    | j + 6, hu => simp at hu
  · match j, hu with
    | 0, hu => simp at hu; subst hu; simp [Addr.add, World.cell?, h]
    | 1, hu => simp at hu; subst hu; simp [Addr.add, World.cell?, h]
    | 2, hu => simp at hu; subst hu; simp [Addr.add, World.cell?, h]
    | 3, hu => simp at hu; subst hu; simp [Addr.add, World.cell?, h]
    | 4, hu => simp at hu; subst hu; simp [Addr.add, World.cell?, h]
    | 5, hu => simp at hu; subst hu; simp [Addr.add, World.cell?, h]
    | j + 6, hu => simp at hu
theorem vr_zero (w : World) : Vr w (fun _ => True) (V.mk 0 0 ⟨#[]⟩ [] [] []) [.int .i64 0, .int .i64 0, .string ⟨#[]⟩, .slice none 0 0, .slice none 0 0, .slice none 0 0] :=
  .mk 0 0 ⟨#[]⟩ [] [] [] none 0 none 0 none 0 (fun _ => []) (fun _ => []) (by decide) (Nat.le_refl _) (Nat.le_refl _) (Nat.le_refl _) (by decide) (by decide) (by decide) (by decide) (by decide) (fun i s h => by simp at h) (fun h => absurd h (by simp)) (fun i v h => by simp at h) (fun h => absurd h (by simp)) (fun h => absurd h (by simp)) (fun i v h => by simp at h)
theorem result_shape {j : J} {w w' : World} {e : Ending} (h : ResultPost j w e w') : ∃ (a0 a1 : Int) (s : ByteArray) (S3 S4 S5 : Option Addr) (n3 m3 n4 m4 n5 m5 : Nat),
    e = .returned (.agg #[.int .i64 a0, .int .i64 a1, .string s, .slice S3 n3 m3, .slice S4 n4 m4, .slice S5 n5 m5, .int .i64 0]) ∧ Vr w' (fun _ => True) j.v [.int .i64 a0, .int .i64 a1, .string s, .slice S3 n3 m3, .slice S4 n4 m4, .slice S5 n5 m5] ∧ Below w.heap.size w w' := by
  obtain ⟨rs, he, hv, hb⟩ := h
  have hv2 : Vr w' (fun _ => True) j.v rs := hv.mono fun _ _ => trivial
  have key : ∀ jv, Vr w' (fun _ => True) jv rs → ∃ (a0 a1 : Int) (s : ByteArray) (S3 S4 S5 : Option Addr) (n3 m3 n4 m4 n5 m5 : Nat), rs = [.int .i64 a0, .int .i64 a1, .string s, .slice S3 n3 m3, .slice S4 n4 m4, .slice S5 n5 m5] := fun jv h => by
    cases h
    exact ⟨_, _, _, _, _, _, _, _, _, _, _, _, rfl⟩
  obtain ⟨_, _, _, _, _, _, _, _, _, _, _, _, rfl⟩ := key _ hv2
  exact ⟨_, _, _, _, _, _, _, _, _, _, _, _, he, hv2, hb⟩
theorem flat_v (n : Nat) (l : List V) (h : ∀ v, v ∈ l → WF v) : (J.arr (flatJ n (V.js l))).v = V.mk 5 0 ⟨#[]⟩ (flatV n l) [] [] := by
  rw [J.v, flat_js n l h, vs_js fun v hv => round (flat_wf n l h v hv)]
set_option maxHeartbeats 8000000 in
theorem flattenTo_law (v d : V) (ok : Nat → Prop) (cs ds : List Value) (w : World) (hv : Vr w ok v cs) (hd : Vr w ok d ds) (hT : Lib.Utf8Tabs 0 1 w) :
    Calls Tryz.prog 3 #[.agg cs.toArray, .agg ds.toArray] w (LawPost w) := by
  have HV := Lib.hid hv
  have HD := Lib.hid hd
  have HT := Lib.hid hT
  obtain ⟨k, h, t, l, ks, vs, A1, c1, A2, c2, A3, c3, f, g, ht, h1, h2, h3, b1, b2, b3, hk', hh', hs', r1, e1, r2, r3, e3⟩ := hv
  obtain ⟨dk, dh, dt, dl, dks, dvs, D1, p1, D2, p2, D3, p3, df, dg, dht, dh1, dh2, dh3, db1, db2, db3, dhk, dhh, dhs, dr1, de1, dr2, dr3, de3⟩ := hd
  obtain ⟨W2, hW2⟩ : ∃ W2, W2 = (w.alloc (.cells #[.int .i64 k, .int .i64 h, .string t, .slice A1 l.length c1, .slice A2 ks.length c2, .slice A3 vs.length c3] 26)).alloc (.cells #[.int .i64 dk, .int .i64 dh, .string dt, .slice D1 dl.length p1, .slice D2 dks.length p2, .slice D3 dvs.length p3] 26) := ⟨_, rfl⟩
  have hB2 : Below w.heap.size w W2 := by rw [hW2]; exact ((Below.refl _ _).alloc (Nat.le_refl _) _).alloc (by simp) _
  have hS2 : W2.heap.size = w.heap.size + 2 := by rw [hW2]; simp
  have hC2 : W2.heap[w.heap.size]? = some (.cells #[.int .i64 k, .int .i64 h, .string t, .slice A1 l.length c1, .slice A2 ks.length c2, .slice A3 vs.length c3] 26) := by
    rw [hW2, heap_alloc_old _ _ _ (by simp)]
    exact heap_alloc_new w _
  have hR2 : W2.heap[w.heap.size + 1]? = some (.cells #[.int .i64 dk, .int .i64 dh, .string dt, .slice D1 dl.length p1, .slice D2 dks.length p2, .slice D3 dvs.length p3] 26) := by
    rw [hW2]
    have := heap_alloc_new (w.alloc (.cells #[.int .i64 k, .int .i64 h, .string t, .slice A1 l.length c1, .slice A2 ks.length c2, .slice A3 vs.length c3] 26)) (.cells #[.int .i64 dk, .int .i64 dh, .string dt, .slice D1 dl.length p1, .slice D2 dks.length p2, .slice D3 dvs.length p3] 26)
    rw [show (w.alloc (.cells #[.int .i64 k, .int .i64 h, .string t, .slice A1 l.length c1, .slice A2 ks.length c2, .slice A3 vs.length c3] 26)).heap.size = w.heap.size + 1 from by simp] at this
    exact this
  have hfar : ∀ W, Below W2.heap.size W2 W → W.heap[w.heap.size]? = some (.cells #[.int .i64 k, .int .i64 h, .string t, .slice A1 l.length c1, .slice A2 ks.length c2, .slice A3 vs.length c3] 26) ∧
      W.heap[w.heap.size + 1]? = some (.cells #[.int .i64 dk, .int .i64 dh, .string dt, .slice D1 dl.length p1, .slice D2 dks.length p2, .slice D3 dvs.length p3] 26) := fun W hb => ⟨(hb.block _ (by omega)).trans hC2, (hb.block _ (by omega)).trans hR2⟩
  have HFAR := Lib.hid hfar
  have HW2 := Lib.hid hW2
  have HB2 := Lib.hid hB2
  clear hfar hW2 hB2 hS2 hC2 hR2 r1 e1 r2 r3 e3 hs' dr1 de1 dr2 dr3 de3 dhs hT
  go_enter Tryz.func3, Tryz.ntmps3
  go_wp2_with fail
  rw [← HW2.out]
  refine (zzFits1_any _ ok _ W2 (HV.out.keep HB2.out)).mono ?_
  rintro e' w3 ⟨⟨r, rfl⟩, hb3⟩
  have HB3 := Lib.hid hb3
  obtain ⟨q1, q2⟩ := HFAR.out w3 hb3
  have z0 : w3.cell? ⟨w.heap.size, 0, none⟩ = some (.int .i64 k) := by simp [World.cell?, q1]
  have z1 : w3.cell? ⟨w.heap.size, 1, none⟩ = some (.int .i64 h) := by simp [World.cell?, q1]
  have z2 : w3.cell? ⟨w.heap.size, 2, none⟩ = some (.string t) := by simp [World.cell?, q1]
  have z3 : w3.cell? ⟨w.heap.size, 3, none⟩ = some (.slice A1 l.length c1) := by simp [World.cell?, q1]
  have z4 : w3.cell? ⟨w.heap.size, 4, none⟩ = some (.slice A2 ks.length c2) := by simp [World.cell?, q1]
  have z5 : w3.cell? ⟨w.heap.size, 5, none⟩ = some (.slice A3 vs.length c3) := by simp [World.cell?, q1]
  have y0 : w3.cell? ⟨w.heap.size + 1, 0, none⟩ = some (.int .i64 dk) := by simp [World.cell?, q2]
  have y1 : w3.cell? ⟨w.heap.size + 1, 1, none⟩ = some (.int .i64 dh) := by simp [World.cell?, q2]
  have y2 : w3.cell? ⟨w.heap.size + 1, 2, none⟩ = some (.string dt) := by simp [World.cell?, q2]
  have y3 : w3.cell? ⟨w.heap.size + 1, 3, none⟩ = some (.slice D1 dl.length p1) := by simp [World.cell?, q2]
  have y4 : w3.cell? ⟨w.heap.size + 1, 4, none⟩ = some (.slice D2 dks.length p2) := by simp [World.cell?, q2]
  have y5 : w3.cell? ⟨w.heap.size + 1, 5, none⟩ = some (.slice D3 dvs.length p3) := by simp [World.cell?, q2]
  clear q1 q2 hb3
  cases r
  · go_wp2_with fail
    go_ret
    exact ⟨rfl, below_trans HB2.out HB3.out⟩
  go_wp2_with fail
  refine (zzFits1_any _ ok _ w3 (HD.out.keep (below_trans HB2.out HB3.out))).mono ?_
  rintro e' w4 ⟨⟨r, rfl⟩, hb4⟩
  have HB4 := Lib.hid (below_trans HB3.out hb4)
  clear hb4 z0 z1 z2 z3 z4 z5 y0 y1 y2 y3 y4 y5
  cases r
  · go_wp2_with fail
    go_ret
    exact ⟨rfl, below_trans HB2.out HB4.out⟩
  obtain ⟨q1, q2⟩ := HFAR.out w4 HB4.out
  have z0 : w4.cell? ⟨w.heap.size, 0, none⟩ = some (.int .i64 k) := by simp [World.cell?, q1]
  have z1 : w4.cell? ⟨w.heap.size, 1, none⟩ = some (.int .i64 h) := by simp [World.cell?, q1]
  have z2 : w4.cell? ⟨w.heap.size, 2, none⟩ = some (.string t) := by simp [World.cell?, q1]
  have z3 : w4.cell? ⟨w.heap.size, 3, none⟩ = some (.slice A1 l.length c1) := by simp [World.cell?, q1]
  have z4 : w4.cell? ⟨w.heap.size, 4, none⟩ = some (.slice A2 ks.length c2) := by simp [World.cell?, q1]
  have z5 : w4.cell? ⟨w.heap.size, 5, none⟩ = some (.slice A3 vs.length c3) := by simp [World.cell?, q1]
  have y0 : w4.cell? ⟨w.heap.size + 1, 0, none⟩ = some (.int .i64 dk) := by simp [World.cell?, q2]
  have y1 : w4.cell? ⟨w.heap.size + 1, 1, none⟩ = some (.int .i64 dh) := by simp [World.cell?, q2]
  have y2 : w4.cell? ⟨w.heap.size + 1, 2, none⟩ = some (.string dt) := by simp [World.cell?, q2]
  have y3 : w4.cell? ⟨w.heap.size + 1, 3, none⟩ = some (.slice D1 dl.length p1) := by simp [World.cell?, q2]
  have y4 : w4.cell? ⟨w.heap.size + 1, 4, none⟩ = some (.slice D2 dks.length p2) := by simp [World.cell?, q2]
  have y5 : w4.cell? ⟨w.heap.size + 1, 5, none⟩ = some (.slice D3 dvs.length p3) := by simp [World.cell?, q2]
  clear q1 q2
  obtain ⟨W5, hW5⟩ : ∃ W5, W5 = w4.alloc (.cells #[.int .i64 k, .int .i64 h, .string t, .slice A1 l.length c1, .slice A2 ks.length c2, .slice A3 vs.length c3, .int .i64 dk, .int .i64 dh, .string dt, .slice D1 dl.length p1, .slice D2 dks.length p2, .slice D3 dvs.length p3] 26) := ⟨_, rfl⟩
  have hb5 : Below w4.heap.size w4 W5 := by rw [hW5]; exact (Below.refl _ _).alloc (Nat.le_refl _) _
  have hc5 : W5.heap[w4.heap.size]? = some (.cells #[.int .i64 k, .int .i64 h, .string t, .slice A1 l.length c1, .slice A2 ks.length c2, .slice A3 vs.length c3, .int .i64 dk, .int .i64 dh, .string dt, .slice D1 dl.length p1, .slice D2 dks.length p2, .slice D3 dvs.length p3] 26) := by rw [hW5]; exact heap_alloc_new w4 _
  have HW5 := Lib.hid hW5
  have HB5 := Lib.hid (below_trans HB4.out hb5)
  have HFIT := Lib.hid (fits_any [V.mk k h t l ks vs, V.mk dk dh dt dl dks dvs] 2 rfl (fun _ => True) _ 2 _ W5 (row_two hc5) (fun i v hv => by
    match i, hv with
    | 0, hv => simp at hv; subst hv; exact (HV.out.keep (below_trans HB2.out HB5.out)).mono fun _ _ => trivial
    | 1, hv => simp at hv; subst hv; exact (HD.out.keep (below_trans HB2.out HB5.out)).mono fun _ _ => trivial
    | i + 2, hv => simp at hv) (by decide) (Utf8Tabs_below HT.out (below_trans HB2.out HB5.out)))
  clear hW5 hb5 hc5
  go_wp2_with fail
  rw [← HW5.out]
  refine HFIT.out.mono ?_
  rintro e' w6 ⟨hb6, r, rfl, hfit⟩
  have HB6 := Lib.hid (below_trans HB5.out hb6)
  have HF := Lib.hid hfit
  clear hb6 hfit z0 z1 z2 z3 z4 z5 y0 y1 y2 y3 y4 y5
  cases r
  · go_wp2_with fail
    go_ret
    exact ⟨rfl, below_trans HB2.out HB6.out⟩
  have WV := Lib.hid (HF.out rfl (V.mk k h t l ks vs) (by simp))
  have WD := Lib.hid (HF.out rfl (V.mk dk dh dt dl dks dvs) (by simp))
  have HLEN := Lib.hid (show ∀ n, (flatV n (V.mk k h t l ks vs).list).length ≤ 1000 from fun n => by
    have h1 := flat_len n (V.mk k h t l ks vs).list
    have h2 := parts_list (V.mk k h t l ks vs)
    have h3 := WV.out.2
    omega)
  obtain ⟨q1, q2⟩ := HFAR.out w6 HB6.out
  have z0 : w6.cell? ⟨w.heap.size, 0, none⟩ = some (.int .i64 k) := by simp [World.cell?, q1]
  have z1 : w6.cell? ⟨w.heap.size, 1, none⟩ = some (.int .i64 h) := by simp [World.cell?, q1]
  have z2 : w6.cell? ⟨w.heap.size, 2, none⟩ = some (.string t) := by simp [World.cell?, q1]
  have z3 : w6.cell? ⟨w.heap.size, 3, none⟩ = some (.slice A1 l.length c1) := by simp [World.cell?, q1]
  have z4 : w6.cell? ⟨w.heap.size, 4, none⟩ = some (.slice A2 ks.length c2) := by simp [World.cell?, q1]
  have z5 : w6.cell? ⟨w.heap.size, 5, none⟩ = some (.slice A3 vs.length c3) := by simp [World.cell?, q1]
  have y0 : w6.cell? ⟨w.heap.size + 1, 0, none⟩ = some (.int .i64 dk) := by simp [World.cell?, q2]
  have y1 : w6.cell? ⟨w.heap.size + 1, 1, none⟩ = some (.int .i64 dh) := by simp [World.cell?, q2]
  have y2 : w6.cell? ⟨w.heap.size + 1, 2, none⟩ = some (.string dt) := by simp [World.cell?, q2]
  have y3 : w6.cell? ⟨w.heap.size + 1, 3, none⟩ = some (.slice D1 dl.length p1) := by simp [World.cell?, q2]
  have y4 : w6.cell? ⟨w.heap.size + 1, 4, none⟩ = some (.slice D2 dks.length p2) := by simp [World.cell?, q2]
  have y5 : w6.cell? ⟨w.heap.size + 1, 5, none⟩ = some (.slice D3 dvs.length p3) := by simp [World.cell?, q2]
  clear q1 q2
  obtain ⟨W7, hW7⟩ : ∃ W7, W7 = w6.alloc (.cells #[.int .i64 dk, .int .i64 dh, .string dt, .slice D1 dl.length p1, .slice D2 dks.length p2, .slice D3 dvs.length p3] 26) := ⟨_, rfl⟩
  have hb7 : Below w6.heap.size w6 W7 := by rw [hW7]; exact (Below.refl _ _).alloc (Nat.le_refl _) _
  have hc7 : W7.heap[w6.heap.size]? = some (.cells #[.int .i64 dk, .int .i64 dh, .string dt, .slice D1 dl.length p1, .slice D2 dks.length p2, .slice D3 dvs.length p3] 26) := by rw [hW7]; exact heap_alloc_new w6 _
  have HW7 := Lib.hid hW7
  have HB7 := Lib.hid (below_trans HB6.out hb7)
  have HCALL := Lib.hid (call_any _ _ ok _ _ w6.heap.size 1 W7 (HV.out.keep (below_trans HB2.out HB7.out)) (HD.out.keep (below_trans HB2.out HB7.out)) WV.out.1 WD.out.1 HLEN.out (Nat.le_refl _) hc7)
  clear hW7 hb7 hc7
  go_wp2_with fail
  rw [← HW7.out]
  refine HCALL.out.mono ?_
  rintro e' w8 ⟨hb8, a0, a1, s, S3, S4, S5, n3, m3, n4, m4, n5, m5, code, rfl, hrel⟩
  have HB8 := Lib.hid (below_trans HB7.out hb8)
  have HREL := Lib.hid hrel
  clear hb8 hrel z0 z1 z2 z3 z4 z5 y0 y1 y2 y3 y4 y5
  obtain ⟨q1, q2⟩ := HFAR.out w8 HB8.out
  have z0 : w8.cell? ⟨w.heap.size, 0, none⟩ = some (.int .i64 k) := by simp [World.cell?, q1]
  have z1 : w8.cell? ⟨w.heap.size, 1, none⟩ = some (.int .i64 h) := by simp [World.cell?, q1]
  have z2 : w8.cell? ⟨w.heap.size, 2, none⟩ = some (.string t) := by simp [World.cell?, q1]
  have z3 : w8.cell? ⟨w.heap.size, 3, none⟩ = some (.slice A1 l.length c1) := by simp [World.cell?, q1]
  have z4 : w8.cell? ⟨w.heap.size, 4, none⟩ = some (.slice A2 ks.length c2) := by simp [World.cell?, q1]
  have z5 : w8.cell? ⟨w.heap.size, 5, none⟩ = some (.slice A3 vs.length c3) := by simp [World.cell?, q1]
  have y0 : w8.cell? ⟨w.heap.size + 1, 0, none⟩ = some (.int .i64 dk) := by simp [World.cell?, q2]
  have y1 : w8.cell? ⟨w.heap.size + 1, 1, none⟩ = some (.int .i64 dh) := by simp [World.cell?, q2]
  have y2 : w8.cell? ⟨w.heap.size + 1, 2, none⟩ = some (.string dt) := by simp [World.cell?, q2]
  have y3 : w8.cell? ⟨w.heap.size + 1, 3, none⟩ = some (.slice D1 dl.length p1) := by simp [World.cell?, q2]
  have y4 : w8.cell? ⟨w.heap.size + 1, 4, none⟩ = some (.slice D2 dks.length p2) := by simp [World.cell?, q2]
  have y5 : w8.cell? ⟨w.heap.size + 1, 5, none⟩ = some (.slice D3 dvs.length p3) := by simp [World.cell?, q2]
  clear q1 q2
  obtain ⟨W9, hW9⟩ : ∃ W9, W9 = w8.alloc (.cells #[.int .i64 a0, .int .i64 a1, .string s, .slice S3 n3 m3, .slice S4 n4 m4, .slice S5 n5 m5] 26) := ⟨_, rfl⟩
  have hb9 : Below w8.heap.size w8 W9 := by rw [hW9]; exact (Below.refl _ _).alloc (Nat.le_refl _) _
  have hc9 : W9.heap[w8.heap.size]? = some (.cells #[.int .i64 a0, .int .i64 a1, .string s, .slice S3 n3 m3, .slice S4 n4 m4, .slice S5 n5 m5] 26) := by rw [hW9]; exact heap_alloc_new w8 _
  have HW9 := Lib.hid hW9
  have HB9 := Lib.hid (below_trans HB8.out hb9)
  have HC9 := Lib.hid hc9
  have HB89 := Lib.hid hb9
  clear hW9 hb9 hc9
  have hrel := HREL.out
  rcases hrel with rfl | ⟨r6, r5, ⟨n, rh, r3⟩, rfl, rz⟩ | ⟨r5, n, rh, r3, rfl, rv⟩
  · go_wp2_with fail
    go_ret
    exact ⟨rfl, by rw [← HW9.out]; exact below_trans HB2.out HB9.out⟩
  · simp only [List.cons.injEq, Value.int.injEq, Value.string.injEq, Value.slice.injEq, true_and, and_true] at rz
    obtain ⟨rfl, rfl, rfl, ⟨rfl, rfl, rfl⟩, ⟨rfl, rfl, rfl⟩, rfl, rfl, rfl⟩ := rz
    go_upto_region 8 with fail
    rw [← HW9.out]
    have HK := Lib.hid (show ∀ W : World, Below W9.heap.size W9 W → W.cell? ⟨w.heap.size, 0, none⟩ = some (.int .i64 k) ∧ W.cell? ⟨w.heap.size, 1, none⟩ = some (.int .i64 h) ∧ W.cell? ⟨w.heap.size, 2, none⟩ = some (.string t) ∧ W.cell? ⟨w.heap.size, 3, none⟩ = some (.slice A1 l.length c1) ∧ W.cell? ⟨w.heap.size, 4, none⟩ = some (.slice A2 ks.length c2) ∧ W.cell? ⟨w.heap.size, 5, none⟩ = some (.slice A3 vs.length c3) ∧ W.cell? ⟨w.heap.size + 1, 0, none⟩ = some (.int .i64 dk) ∧ W.cell? ⟨w.heap.size + 1, 1, none⟩ = some (.int .i64 dh) ∧ W.cell? ⟨w.heap.size + 1, 2, none⟩ = some (.string dt) ∧ W.cell? ⟨w.heap.size + 1, 3, none⟩ = some (.slice D1 dl.length p1) ∧ W.cell? ⟨w.heap.size + 1, 4, none⟩ = some (.slice D2 dks.length p2) ∧ W.cell? ⟨w.heap.size + 1, 5, none⟩ = some (.slice D3 dvs.length p3) ∧ W.cell? ⟨w8.heap.size, 0, none⟩ = some (.int .i64 0) ∧ W.cell? ⟨w8.heap.size, 1, none⟩ = some (.int .i64 0) ∧ W.cell? ⟨w8.heap.size, 2, none⟩ = some (.string ⟨#[]⟩) ∧ W.cell? ⟨w8.heap.size, 3, none⟩ = some (.slice none 0 0) ∧ W.cell? ⟨w8.heap.size, 4, none⟩ = some (.slice none 0 0) ∧ W.cell? ⟨w8.heap.size, 5, none⟩ = some (.slice none 0 0) from fun W hb => by
      obtain ⟨q1, q2⟩ := HFAR.out W (below_trans HB9.out hb)
      have q3 := (hb.block _ (heap_lt HC9.out)).trans HC9.out
      refine ⟨?_, ?_, ?_, ?_, ?_, ?_, ?_, ?_, ?_, ?_, ?_, ?_, ?_, ?_, ?_, ?_, ?_, ?_⟩ <;> simp [World.cell?, q1, q2, q3])
    have hk9 := HK.out W9 (Below.refl _ _)
    obtain ⟨z0, z1, z2, z3, z4, z5, y0, y1, y2, y3, y4, y5, x0, x1, x2, x3, x4, x5⟩ := hk9
    have hn53 : n ≤ 2 ^ 53 := by
      obtain ⟨_, _, _, _, _, _, _, _, _, _, _, _, whb', _, _, _, _⟩ := WD.out.1
      have e : dh = 2 * n := rh
      omega
    have HFT := Lib.hid (flattenTo_any _ _ n hn53 ok _ _ W9.drew ((HV.out.keep (below_trans HB2.out HB9.out)).keep (Below.refl _ _).drew) ((HD.out.keep (below_trans HB2.out HB9.out)).keep (Below.refl _ _).drew) WV.out.1 WD.out.1 (by have := WV.out.2; omega) (by have := WD.out.2; omega) (j_int r3 rh) r6)
    clear hn53
    go_region_held3 (fun W : World => W.cell? ⟨w.heap.size, 0, none⟩ = some (.int .i64 k) ∧ W.cell? ⟨w.heap.size, 1, none⟩ = some (.int .i64 h) ∧ W.cell? ⟨w.heap.size, 2, none⟩ = some (.string t) ∧ W.cell? ⟨w.heap.size, 3, none⟩ = some (.slice A1 l.length c1) ∧ W.cell? ⟨w.heap.size, 4, none⟩ = some (.slice A2 ks.length c2) ∧ W.cell? ⟨w.heap.size, 5, none⟩ = some (.slice A3 vs.length c3) ∧ W.cell? ⟨w.heap.size + 1, 0, none⟩ = some (.int .i64 dk) ∧ W.cell? ⟨w.heap.size + 1, 1, none⟩ = some (.int .i64 dh) ∧ W.cell? ⟨w.heap.size + 1, 2, none⟩ = some (.string dt) ∧ W.cell? ⟨w.heap.size + 1, 3, none⟩ = some (.slice D1 dl.length p1) ∧ W.cell? ⟨w.heap.size + 1, 4, none⟩ = some (.slice D2 dks.length p2) ∧ W.cell? ⟨w.heap.size + 1, 5, none⟩ = some (.slice D3 dvs.length p3) ∧ W.cell? ⟨w8.heap.size, 0, none⟩ = some (.int .i64 0) ∧ W.cell? ⟨w8.heap.size, 1, none⟩ = some (.int .i64 0) ∧ W.cell? ⟨w8.heap.size, 2, none⟩ = some (.string ⟨#[]⟩) ∧ W.cell? ⟨w8.heap.size, 3, none⟩ = some (.slice none 0 0) ∧ W.cell? ⟨w8.heap.size, 4, none⟩ = some (.slice none 0 0) ∧ W.cell? ⟨w8.heap.size, 5, none⟩ = some (.slice none 0 0))
      (first | exact HK.out _ hbd | exact HK.out _ hbc | exact HK.out _ (by repeat (first | with_reducible exact Below.refl _ _ | with_reducible apply Below.drew)) | go_keep)
      ((first | (go_at_call 14; refine HFT.out.mono ?_; rintro e' w' hpost; have hpe := hpost.resolve_left (fun h => r5 h.1); obtain ⟨_, rfl, hb'⟩ := hpe; have hbc : Below W9.heap.size W9 w' := Below.trans (Below.drew (Below.refl _ _)) hb') | (go_at_call 13; refine (told_raises _ (V.mk 0 0 ⟨#[]⟩ [] [] []) (fun _ => True) _ (vr_zero _)).mono ?_; rintro e' w'' ⟨rfl, hb''⟩; have hbd : Below W9.heap.size W9 w'' := below_trans hbc hb'')))
    have HBD := Lib.hid hbd
    clear hb' hb'' hbc hbd z0 z1 z2 z3 z4 z5 y0 y1 y2 y3 y4 y5 x0 x1 x2 x3 x4 x5
    go_wp2_with fail
    go_ret
    exact ⟨rfl, below_trans HB2.out (below_trans HB9.out HBD.out)⟩
  · go_upto_region 8 with fail
    rw [← HW9.out]
    have HK := Lib.hid (show ∀ W : World, Below W9.heap.size W9 W → W.cell? ⟨w.heap.size, 0, none⟩ = some (.int .i64 k) ∧ W.cell? ⟨w.heap.size, 1, none⟩ = some (.int .i64 h) ∧ W.cell? ⟨w.heap.size, 2, none⟩ = some (.string t) ∧ W.cell? ⟨w.heap.size, 3, none⟩ = some (.slice A1 l.length c1) ∧ W.cell? ⟨w.heap.size, 4, none⟩ = some (.slice A2 ks.length c2) ∧ W.cell? ⟨w.heap.size, 5, none⟩ = some (.slice A3 vs.length c3) ∧ W.cell? ⟨w.heap.size + 1, 0, none⟩ = some (.int .i64 dk) ∧ W.cell? ⟨w.heap.size + 1, 1, none⟩ = some (.int .i64 dh) ∧ W.cell? ⟨w.heap.size + 1, 2, none⟩ = some (.string dt) ∧ W.cell? ⟨w.heap.size + 1, 3, none⟩ = some (.slice D1 dl.length p1) ∧ W.cell? ⟨w.heap.size + 1, 4, none⟩ = some (.slice D2 dks.length p2) ∧ W.cell? ⟨w.heap.size + 1, 5, none⟩ = some (.slice D3 dvs.length p3) ∧ W.cell? ⟨w8.heap.size, 0, none⟩ = some (.int .i64 a0) ∧ W.cell? ⟨w8.heap.size, 1, none⟩ = some (.int .i64 a1) ∧ W.cell? ⟨w8.heap.size, 2, none⟩ = some (.string s) ∧ W.cell? ⟨w8.heap.size, 3, none⟩ = some (.slice S3 n3 m3) ∧ W.cell? ⟨w8.heap.size, 4, none⟩ = some (.slice S4 n4 m4) ∧ W.cell? ⟨w8.heap.size, 5, none⟩ = some (.slice S5 n5 m5) from fun W hb => by
      obtain ⟨q1, q2⟩ := HFAR.out W (below_trans HB9.out hb)
      have q3 := (hb.block _ (heap_lt HC9.out)).trans HC9.out
      refine ⟨?_, ?_, ?_, ?_, ?_, ?_, ?_, ?_, ?_, ?_, ?_, ?_, ?_, ?_, ?_, ?_, ?_, ?_⟩ <;> simp [World.cell?, q1, q2, q3])
    have hk9 := HK.out W9 (Below.refl _ _)
    obtain ⟨z0, z1, z2, z3, z4, z5, y0, y1, y2, y3, y4, y5, x0, x1, x2, x3, x4, x5⟩ := hk9
    have hn53 : n ≤ 2 ^ 53 := by
      obtain ⟨_, _, _, _, _, _, _, _, _, _, _, _, whb', _, _, _, _⟩ := WD.out.1
      have e : dh = 2 * n := rh
      omega
    have HFT := Lib.hid (flattenTo_any _ _ n hn53 ok _ _ W9.drew ((HV.out.keep (below_trans HB2.out HB9.out)).keep (Below.refl _ _).drew) ((HD.out.keep (below_trans HB2.out HB9.out)).keep (Below.refl _ _).drew) WV.out.1 WD.out.1 (by have := WV.out.2; omega) (by have := WD.out.2; omega) (j_int r3 rh) (by rw [r5]; decide))
    clear hn53
    have HRV := Lib.hid (rv.mono (ok' := fun _ => True) fun _ _ => trivial)
    have HEQ := Lib.hid (flat_v n (V.mk k h t l ks vs).list (wf_list WV.out.1))
    have HWF := Lib.hid (wf_arr (flat_wf n (V.mk k h t l ks vs).list (wf_list WV.out.1)))
    clear rv
    go_region_held3 (fun W : World => W.cell? ⟨w.heap.size, 0, none⟩ = some (.int .i64 k) ∧ W.cell? ⟨w.heap.size, 1, none⟩ = some (.int .i64 h) ∧ W.cell? ⟨w.heap.size, 2, none⟩ = some (.string t) ∧ W.cell? ⟨w.heap.size, 3, none⟩ = some (.slice A1 l.length c1) ∧ W.cell? ⟨w.heap.size, 4, none⟩ = some (.slice A2 ks.length c2) ∧ W.cell? ⟨w.heap.size, 5, none⟩ = some (.slice A3 vs.length c3) ∧ W.cell? ⟨w.heap.size + 1, 0, none⟩ = some (.int .i64 dk) ∧ W.cell? ⟨w.heap.size + 1, 1, none⟩ = some (.int .i64 dh) ∧ W.cell? ⟨w.heap.size + 1, 2, none⟩ = some (.string dt) ∧ W.cell? ⟨w.heap.size + 1, 3, none⟩ = some (.slice D1 dl.length p1) ∧ W.cell? ⟨w.heap.size + 1, 4, none⟩ = some (.slice D2 dks.length p2) ∧ W.cell? ⟨w.heap.size + 1, 5, none⟩ = some (.slice D3 dvs.length p3) ∧ W.cell? ⟨w8.heap.size, 0, none⟩ = some (.int .i64 a0) ∧ W.cell? ⟨w8.heap.size, 1, none⟩ = some (.int .i64 a1) ∧ W.cell? ⟨w8.heap.size, 2, none⟩ = some (.string s) ∧ W.cell? ⟨w8.heap.size, 3, none⟩ = some (.slice S3 n3 m3) ∧ W.cell? ⟨w8.heap.size, 4, none⟩ = some (.slice S4 n4 m4) ∧ W.cell? ⟨w8.heap.size, 5, none⟩ = some (.slice S5 n5 m5))
      (first | exact HK.out _ hbd | exact HK.out _ hbc | exact HK.out _ (by repeat (first | with_reducible exact Below.refl _ _ | with_reducible apply Below.drew)) | go_keep)
      ((first | (go_at_call 14; refine HFT.out.mono ?_; rintro e' w' hpost; have hpe := hpost.resolve_right (fun h => h.1 r5); obtain ⟨b0, b1x, sb, T3, T4, T5, u3, v3, u4, v4, u5, v5, rfl, hvb, hb'⟩ := result_shape hpe.2; have hbc : Below W9.heap.size W9 w' := Below.trans (Below.drew (Below.refl _ _)) hb'; have HVB := Lib.hid hvb; clear hvb hpe hpost) | (go_at_call 13; refine (told_fine _ _ (fun _ => True) [.int .i64 b0, .int .i64 b1x, .string sb, .slice T3 u3 v3, .slice T4 u4 v4, .slice T5 u5 v5] [.int .i64 a0, .int .i64 a1, .string s, .slice S3 n3 m3, .slice S4 n4 m4, .slice S5 n5 m5] _ (HEQ.out ▸ HWF.out) HWF.out HVB.out (HRV.out.keep (below_trans HB89.out hbc)) (by rw [HEQ.out]; exact cmpV_self _)).mono ?_; rintro e' w'' ⟨rfl, hb''⟩; have hbd : Below W9.heap.size W9 w'' := below_trans hbc hb'')))
    have HBD := Lib.hid hbd
    clear hb' hb'' hbc hbd z0 z1 z2 z3 z4 z5 y0 y1 y2 y3 y4 y5 x0 x1 x2 x3 x4 x5
    go_wp2_with fail
    go_ret
    exact ⟨rfl, below_trans HB2.out (below_trans HB9.out HBD.out)⟩
end Go.Proofs.YtpamlgdcnmcedaaGreatDoor
