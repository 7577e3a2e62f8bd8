/- impl.FlattenTo. -/
import Derived.Test.YtpamlgdcnmcedaaGreatDoorF2
import Derived.Test.YtpamlgdcnmcedaaGreatDoorP1
set_option linter.unusedVariables false
set_option linter.unusedSimpArgs false
set_option maxRecDepth 100000
namespace Go.Proofs.YtpamlgdcnmcedaaGreatDoor
open Go Go.RowKit
/-- An error is told by 1. -/
def ErrPost (w : World) (e : Ending) (w' : World) : Prop := e = .returned (.agg #[.int .i64 0, .int .i64 0, .string ⟨#[]⟩, .slice none 0 0, .slice none 0 0, .slice none 0 0, .int .i64 1]) ∧ Below w.heap.size w w'
theorem result_err (v : Value) (w : World) : Calls Tryz.prog 48 #[.iface 132 v] w (ErrPost w) := by
  go_enter Tryz.func48, Tryz.ntmps48
  go_wp2_with fail
  refine bodyPost_ret (v := .agg #[.int .i64 0, .int .i64 0, .string ⟨#[]⟩, .slice none 0 0, .slice none 0 0, .slice none 0 0, .int .i64 1]) (by simp [results, Tryz.results48, go_sem]) rfl ?_
  refine ⟨rfl, ?_⟩
  exact (Below.refl _ _).alloc (Nat.le_refl _) _
theorem zzFlatten_arr (n : Nat) (hn : n ≤ 2 ^ 53) (l : List J) (ok : Nat → Prop) (x : Value) (ad : Addr) (c : Nat) (w : World) (hJ : Jr w ok (.arr l) x) (hG : GJ (.arr l)) (hlen : (flatJ n l).length ≤ 1000000) (hd : w.cell? ad = some (.iface 3 (.int .i64 n))) :
    Calls Tryz.prog 49 #[x, .slice (some ad) 1 c] w (FlatPost n l w) := by
  have H := Lib.hid (funcFlatten_arr n hn l ok x ad c w hJ hG hlen hd)
  obtain _ | _ | _ | _ | _ | ⟨_, A, c', f, hc, r, e⟩ := hJ
  go_enter Tryz.func49, Tryz.ntmps49
  go_wp2_with fail
  refine H.out.mono ?_
  rintro e' w' ⟨x, rfl, hj, hb⟩
  have HJ := Lib.hid hj
  obtain _ | _ | _ | _ | _ | ⟨_, A2, c2, f2, hc2, r2, e2⟩ := hj
  generalize (flatJ n l).length = q at *
  go_wp2_with fail
  go_ret
  exact ⟨_, rfl, HJ.out, hb⟩
theorem zzFlatten_no (w : World) {ok : Nat → Prop} {j : J} {x : Value} (h : Jr w ok j x) (h1 : ∀ l, j ≠ .arr l) (h2 : ∀ ks vs, j ≠ .obj ks vs) (s : Value) : Calls Tryz.prog 49 #[x, s] w fun e w' => (∃ v, e = .returned (.iface 132 v)) ∧ Below w.heap.size w w' := by
  have H := Lib.hid (funcFlatten_no w h h1 h2 s)
  clear h1 h2
  cases h
  all_goals
    go_enter Tryz.func49, Tryz.ntmps49
    go_wp2_with fail
    refine H.out.mono ?_
    rintro e' w' ⟨⟨v, rfl⟩, hb⟩
    go_wp2_with fail
    go_ret
    exact ⟨⟨_, rfl⟩, hb⟩
theorem flattenTo_any (v d : V) (n : Nat) (hn : n ≤ 2 ^ 53) (ok : Nat → Prop) (cs ds : List Value) (w : World) (hv : Vr w ok v cs) (hd : Vr w ok d ds) (wv : WF v) (wd : WF d) (pv : v.parts ≤ 1000) (pd : d.parts ≤ 1000)
    (hdj : d.j = .int n) (hk : v.kind ≠ 6) :
    Calls Tryz.prog 14 #[.agg cs.toArray, .agg ds.toArray] w fun e w' => (v.kind = 5 ∧ ResultPost (.arr (flatJ n (V.js v.list))) w e w') ∨ (v.kind ≠ 5 ∧ ErrPost w e w') := by
  have HV := Lib.hid hv
  have HD := Lib.hid hd
  obtain ⟨k, h, t, l, ks, vs, A1, c1, A2, c2, A3, c3, f, g, ht, h1, h2, h3, b1, b2, b3, hk', hh', hs', r1, e1, r2, r3, e3⟩ := hv
  obtain ⟨dk, dh, dt, dl, dks, dvs, D1, p1, D2, p2, D3, p3, df, dg, dht, dh1, dh2, dh3, db1, db2, db3, dhk, dhh, dhs, dr1, de1, dr2, dr3, de3⟩ := hd
  obtain ⟨W3, hW3⟩ : ∃ W3, W3 = ((w.alloc (.cells #[.int .i64 k, .int .i64 h, .string t, .slice A1 l.length c1, .slice A2 ks.length c2, .slice A3 vs.length c3] 26)).alloc (.cells #[.int .i64 dk, .int .i64 dh, .string dt, .slice D1 dl.length p1, .slice D2 dks.length p2, .slice D3 dvs.length p3] 26)).alloc (.cells #[.int .i64 0, .int .i64 0, .string ⟨#[]⟩, .slice none 0 0, .slice none 0 0, .slice none 0 0, .int .i64 0] 34) := ⟨_, rfl⟩
  have hB : Below w.heap.size w W3 := by rw [hW3]; exact (((Below.refl _ _).alloc (Nat.le_refl _) _).alloc (by simp) _).alloc (by simp; omega) _
  have hS3 : W3.heap.size = w.heap.size + 3 := by rw [hW3]; simp
  have hD3 : W3.heap[w.heap.size + 1]? = some (.cells #[.int .i64 dk, .int .i64 dh, .string dt, .slice D1 dl.length p1, .slice D2 dks.length p2, .slice D3 dvs.length p3] 26) := by
    rw [hW3]
    have := heap_alloc_new (w.alloc (.cells #[.int .i64 k, .int .i64 h, .string t, .slice A1 l.length c1, .slice A2 ks.length c2, .slice A3 vs.length c3] 26)) (.cells #[.int .i64 dk, .int .i64 dh, .string dt, .slice D1 dl.length p1, .slice D2 dks.length p2, .slice D3 dvs.length p3] 26)
    rw [show (w.alloc (.cells #[.int .i64 k, .int .i64 h, .string t, .slice A1 l.length c1, .slice A2 ks.length c2, .slice A3 vs.length c3] 26)).heap.size = w.heap.size + 1 from by simp] at this
    exact (Below.heap_alloc _ _ _ (by simp)).trans this
  have hR3 : W3.heap[w.heap.size + 2]? = some (.cells #[.int .i64 0, .int .i64 0, .string ⟨#[]⟩, .slice none 0 0, .slice none 0 0, .slice none 0 0, .int .i64 0] 34) := by
    rw [hW3]
    have := heap_alloc_new ((w.alloc (.cells #[.int .i64 k, .int .i64 h, .string t, .slice A1 l.length c1, .slice A2 ks.length c2, .slice A3 vs.length c3] 26)).alloc (.cells #[.int .i64 dk, .int .i64 dh, .string dt, .slice D1 dl.length p1, .slice D2 dks.length p2, .slice D3 dvs.length p3] 26)) (.cells #[.int .i64 0, .int .i64 0, .string ⟨#[]⟩, .slice none 0 0, .slice none 0 0, .slice none 0 0, .int .i64 0] 34)
    rw [show ((w.alloc (.cells #[.int .i64 k, .int .i64 h, .string t, .slice A1 l.length c1, .slice A2 ks.length c2, .slice A3 vs.length c3] 26)).alloc (.cells #[.int .i64 dk, .int .i64 dh, .string dt, .slice D1 dl.length p1, .slice D2 dks.length p2, .slice D3 dvs.length p3] 26)).heap.size = w.heap.size + 2 from by simp] at this
    exact this
  have HW3 := Lib.hid hW3
  have HT := Lib.hid (toGo_any (V.mk k h t l ks vs) ok _ W3 wv (sm_of (Nat.le_trans pv (by decide))) (HV.out.keep hB))
  have HG := Lib.hid (gj_of HV.out wv (by omega))
  have HDJ := Lib.hid hdj
  have HK := Lib.hid hk
  clear hW3 hdj hk
  go_enter Tryz.func14, Tryz.ntmps14
  go_wp2_with fail
  rw [← HW3.out]
  refine HT.out.mono ?_
  rintro e' w1 ⟨x, rfl, hx, hb1⟩
  have hd1 := (hb1.block _ (by omega)).trans hD3
  have z0 : w1.cell? ⟨w.heap.size + 1, 0, none⟩ = some (.int .i64 dk) := by simp [World.cell?, hd1]
  have z1 : w1.cell? ⟨w.heap.size + 1, 1, none⟩ = some (.int .i64 dh) := by simp [World.cell?, hd1]
  have z2 : w1.cell? ⟨w.heap.size + 1, 2, none⟩ = some (.string dt) := by simp [World.cell?, hd1]
  have z3 : w1.cell? ⟨w.heap.size + 1, 3, none⟩ = some (.slice D1 dl.length p1) := by simp [World.cell?, hd1]
  have z4 : w1.cell? ⟨w.heap.size + 1, 4, none⟩ = some (.slice D2 dks.length p2) := by simp [World.cell?, hd1]
  have z5 : w1.cell? ⟨w.heap.size + 1, 5, none⟩ = some (.slice D3 dvs.length p3) := by simp [World.cell?, hd1]
  have HX := Lib.hid hx
  clear hx hd1 hD3
  go_wp2_with fail
  refine (toGo_any (V.mk dk dh dt dl dks dvs) ok _ w1 wd (sm_of (Nat.le_trans pd (by decide))) (HD.out.keep (below_trans hB hb1))).mono ?_
  rintro e' w2 ⟨y, rfl, hy, hb2⟩
  rw [HDJ.out] at hy
  obtain _ | _ | _ := hy
  have hx2 := HX.out.keep hb2
  have hr2 := (hb2.block _ (by have := hb1.size; omega)).trans ((hb1.block _ (by omega)).trans hR3)
  have hbel2 : Below w.heap.size w w2 := below_trans hB (below_trans hb1 hb2)
  have hsz2 : w.heap.size + 3 ≤ w2.heap.size := by have := hb1.size; have := hb2.size; omega
  clear z0 z1 z2 z3 z4 z5 hR3
  obtain ⟨W4, hW4⟩ : ∃ W4, W4 = w2.alloc (.cells #[.iface 3 (.int .i64 n)] 20) := ⟨_, rfl⟩
  have hb4 : Below w2.heap.size w2 W4 := by rw [hW4]; exact (Below.refl _ _).alloc (Nat.le_refl _) _
  have hc4 : W4.cell? ⟨w2.heap.size, 0, none⟩ = some (.iface 3 (.int .i64 n)) := by rw [hW4]; simp
  have HW4 := Lib.hid hW4
  have hx4 := hx2.keep hb4
  have hr4 := (hb4.block _ (by omega)).trans hr2
  have hbel4 := below_trans hbel2 hb4
  have hsz4 := hb4.size
  have HR4 := Lib.hid hr4
  clear hW4 hr4 hr2 hb4
  by_cases h5 : (V.mk k h t l ks vs).kind = 5
  · have hj := j_arr h5
    have HJ5 := Lib.hid hj
    have hflen : (flatJ n (V.js l)).length ≤ 1000 := by
      rw [flat_js n l (wf_list wv), js_len]
      have h1 := flat_len n l
      have h2 := parts_list (V.mk k h t l ks vs)
      rw [show (V.mk k h t l ks vs).list = l from rfl] at h2
      omega
    have HGA : GJ (.arr (V.js l)) := by
      have := HG.out
      rw [hj] at this
      exact this
    have HGF : GJ (.arr (flatJ n (V.js l))) := by
      obtain _ | _ | _ | _ | _ | ⟨_, q1, q2⟩ := HGA
      exact .arr _ (by omega) (gj_flat n _ q2)
    have hz : Calls Tryz.prog 49 #[x, .slice (some ⟨w2.heap.size, 0, none⟩) 1 1] W4 (FlatPost n (V.js l) W4) := by
      rw [hj] at hx4
      exact zzFlatten_arr n hn _ _ x _ 1 W4 hx4 HGA (by omega) hc4
    have HZF := Lib.hid hz
    have HFL := Lib.hid hflen
    clear hz hj hflen hx4 hx2 hc4
    go_wp2_with fail
    rw [← HW4.out]
    refine HZF.out.mono ?_
    rintro e' w5 ⟨x5, rfl, hx5, hb5⟩
    have HX5 := Lib.hid hx5
    obtain _ | _ | _ | _ | _ | ⟨_, A6, c6, f6, hc6, r6, e6⟩ := hx5
    generalize (flatJ n (V.js l)).length = q at *
    go_wp2_with fail
    refine (result_any _ _ _ w5 HGF HX5.out).mono ?_
    rintro e' w6 ⟨rs, rfl, hv6, hb6⟩
    have hr6 := (hb6.block _ (by have := hb5.size; omega)).trans ((hb5.block _ (by omega)).trans HR4.out)
    have y0 : w6.cell? ⟨w.heap.size + 1 + 1, 0, none⟩ = some (.int .i64 0) := by simp [World.cell?, hr6]
    have y1 : w6.cell? ⟨w.heap.size + 1 + 1, 1, none⟩ = some (.int .i64 0) := by simp [World.cell?, hr6]
    have y2 : w6.cell? ⟨w.heap.size + 1 + 1, 2, none⟩ = some (.string ⟨#[]⟩) := by simp [World.cell?, hr6]
    have y3 : w6.cell? ⟨w.heap.size + 1 + 1, 3, none⟩ = some (.slice none 0 0) := by simp [World.cell?, hr6]
    have y4 : w6.cell? ⟨w.heap.size + 1 + 1, 4, none⟩ = some (.slice none 0 0) := by simp [World.cell?, hr6]
    have y5 : w6.cell? ⟨w.heap.size + 1 + 1, 5, none⟩ = some (.slice none 0 0) := by simp [World.cell?, hr6]
    have y6 : w6.cell? ⟨w.heap.size + 1 + 1, 6, none⟩ = some (.int .i64 0) := by simp [World.cell?, hr6]
    have yf : ∀ i, w6.frozen? ⟨w.heap.size + 1 + 1, i, none⟩ = false := fun i => by simp [World.frozen?, hr6]
    have hbel6 : Below w.heap.size w w6 := below_trans hbel4 (below_trans hb5 hb6)
    have hw5 : w.heap.size + 3 ≤ w5.heap.size := by have := hb5.size; omega
    have hset : ∀ (W : World) (i : Nat) (u : Value), Vr W (fun b => w.heap.size + 1 + 1 < b) (J.arr (flatJ n (V.js l))).v rs → Vr (W.setCell ⟨w.heap.size + 1 + 1, i, none⟩ u) (fun b => w.heap.size + 1 + 1 < b) (J.arr (flatJ n (V.js l))).v rs := fun W i u h =>
      h.move fun b hb => Below.heap_setCell _ _ _ _ (by show b ≠ w.heap.size + 1 + 1; omega)
    have hv1 : Vr w6 (fun b => w.heap.size + 1 + 1 < b) (J.arr (flatJ n (V.js l))).v rs := hv6.mono fun b hb => by omega
    have HSET := Lib.hid hset
    have HV1 := Lib.hid hv1
    have HB6 := Lib.hid hbel6
    clear hset hv1 hbel6 hr6
    generalize hjv : (J.arr (flatJ n (V.js l))).v = jv at hv6
    have HJV := Lib.hid hjv
    clear hjv
    obtain ⟨k', h', t', l', ks', vs', B1, d1, B2, d2, B3, d3, f1, g1, ht', h1', h2', h3', b1', b2', b3', hk', hh', hs', q1, e1', q2, q3, e3'⟩ := hv6
    go_wp2_with fail
    refine bodyPost_ret (v := .agg #[.int .i64 k', .int .i64 h', .string t', .slice B1 l'.length d1, .slice B2 ks'.length d2, .slice B3 vs'.length d3, .int .i64 0]) (by simp [results, Tryz.results14, go_sem, y0, y1, y2, y3, y4, y5, y6]) rfl ?_
    refine .inl ⟨h5, [.int .i64 k', .int .i64 h', .string t', .slice B1 l'.length d1, .slice B2 ks'.length d2, .slice B3 vs'.length d3], rfl, ?_, ?_⟩
    · exact (HSET.out _ _ _ (HSET.out _ _ _ (HSET.out _ _ _ (HSET.out _ _ _ (HSET.out _ _ _ (HSET.out _ _ _ (HSET.out _ _ _ HV1.out))))))).mono fun b hb => by omega
    · have hle : w.heap.size ≤ w.heap.size + 1 + 1 := by omega
      exact ((((((HB6.out.setCell hle _).setCell hle _).setCell hle _).setCell hle _).setCell hle _).setCell hle _).setCell hle _
  · have hz := Lib.hid (zzFlatten_no W4 hx4 (j_not_arr wv h5) (j_not_obj wv HK.out) (.slice (some ⟨w2.heap.size, 0, none⟩) 1 1))
    clear hx4 hx2 hc4
    go_wp2_with fail
    rw [← HW4.out]
    refine hz.out.mono ?_
    rintro e' w5 ⟨⟨ev, rfl⟩, hb5⟩
    go_wp2_with fail
    refine (result_err _ w5).mono ?_
    rintro e' w6 ⟨rfl, hb6⟩
    have hr6 := (hb6.block _ (by have := hb5.size; omega)).trans ((hb5.block _ (by omega)).trans HR4.out)
    have y0 : w6.cell? ⟨w.heap.size + 1 + 1, 0, none⟩ = some (.int .i64 0) := by simp [World.cell?, hr6]
    have y1 : w6.cell? ⟨w.heap.size + 1 + 1, 1, none⟩ = some (.int .i64 0) := by simp [World.cell?, hr6]
    have y2 : w6.cell? ⟨w.heap.size + 1 + 1, 2, none⟩ = some (.string ⟨#[]⟩) := by simp [World.cell?, hr6]
    have y3 : w6.cell? ⟨w.heap.size + 1 + 1, 3, none⟩ = some (.slice none 0 0) := by simp [World.cell?, hr6]
    have y4 : w6.cell? ⟨w.heap.size + 1 + 1, 4, none⟩ = some (.slice none 0 0) := by simp [World.cell?, hr6]
    have y5 : w6.cell? ⟨w.heap.size + 1 + 1, 5, none⟩ = some (.slice none 0 0) := by simp [World.cell?, hr6]
    have y6 : w6.cell? ⟨w.heap.size + 1 + 1, 6, none⟩ = some (.int .i64 0) := by simp [World.cell?, hr6]
    have yf : ∀ i, w6.frozen? ⟨w.heap.size + 1 + 1, i, none⟩ = false := fun i => by simp [World.frozen?, hr6]
    have HB6 := Lib.hid (show Below w.heap.size w w6 from below_trans hbel4 (below_trans hb5 hb6))
    clear hr6
    go_wp2_with fail
    refine bodyPost_ret (v := .agg #[.int .i64 0, .int .i64 0, .string ⟨#[]⟩, .slice none 0 0, .slice none 0 0, .slice none 0 0, .int .i64 1]) (by simp [results, Tryz.results14, go_sem, y0, y1, y2, y3, y4, y5, y6]) rfl ?_
    refine .inr ⟨h5, rfl, ?_⟩
    have hle : w.heap.size ≤ w.heap.size + 1 + 1 := by omega
    exact ((((((HB6.out.setCell hle _).setCell hle _).setCell hle _).setCell hle _).setCell hle _).setCell hle _).setCell hle _
end Go.Proofs.YtpamlgdcnmcedaaGreatDoor
