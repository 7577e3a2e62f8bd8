/- gojq.funcIndex2 at an integer; ZzIndex; impl.Index of a key or an index. -/
import Derived.Test.YtpamlgdcnmcedaaGreatDoorI1
set_option linter.unusedVariables false
set_option linter.unusedSimpArgs false
set_option maxRecDepth 100000
namespace Go.Proofs.YtpamlgdcnmcedaaGreatDoor
open Go Go.RowKit
theorem index2_int (v : J) (n : Int) (hn : -4611686018427387904 ≤ n ∧ n ≤ 4611686018427387904) (hs : ∀ s, v ≠ .str s) (hl : ∀ l, v = .arr l → l.length ≤ 140737488351232) (x : Value) (ok : Nat → Prop) (w : World) (h : Jr w ok v x) :
    Calls Tryz.prog 114 #[.nilIface, x, .iface 3 (.int .i64 n)] w (IndexPost (atI v n) w) := by
  have HTI := Lib.hid (fun W => toInt_any n W)
  cases v with
  | str s => exact absurd rfl (hs s)
  | null =>
    obtain _ | _ := h
    go_enter Tryz.func114, Tryz.ntmps114
    go_wp2_with fail
    refine (HTI.out _).mono ?_
    rintro e' w' ⟨rfl, rfl⟩
    go_wp2_with fail
    go_ret
    exact ⟨_, rfl, Below.refl _ _, .inr ⟨_, rfl, .null⟩⟩
  | arr l =>
    have hmax := hl l rfl
    obtain _ | _ | _ | _ | _ | ⟨_, A, c, f, hc, r, e⟩ := h
    have HIX := Lib.hid (fun W (hW : W = w) => index_any l l.length rfl A c f n ok W hn hmax (by rw [hW]; exact r) (by rw [hW]; exact e))
    generalize l.length = m at HIX hc r
    clear hs hl hmax hc r e
    go_enter Tryz.func114, Tryz.ntmps114
    go_wp2_with fail
    refine (HTI.out _).mono ?_
    rintro e' w' ⟨rfl, rfl⟩
    go_wp2_with fail
    refine (HIX.out _ rfl).mono ?_
    rintro e' w' ⟨y, rfl, hy, rfl⟩
    have HY := Lib.hid hy
    clear hy
    go_wp2_with fail
    go_ret
    exact ⟨_, rfl, Below.refl _ _, .inr ⟨_, rfl, HY.out.mono fun _ _ => trivial⟩⟩
  | _ =>
    cases h
    clear hs hl
    go_enter Tryz.func114, Tryz.ntmps114
    go_wp2_with fail
    refine (HTI.out _).mono ?_
    rintro e' w' ⟨rfl, rfl⟩
    go_wp2_with fail
    go_ret
    exact ⟨_, rfl, (Below.refl _ _).alloc (Nat.le_refl _) _, .inl ⟨rfl, _, _, rfl, fun W => by first | exact err_138 _ W | exact err_162 _ W | exact err_169 _ W | exact err_176 _ W | exact err_178 _ W | exact err_181 _ W | exact err_183 _ W | exact err_185 _ W | exact err_193 _ W | exact err_196 _ W⟩⟩
theorem zzIndex_of {x y : Value} {w : World} {r : Option J} (h : Calls Tryz.prog 114 #[.nilIface, x, y] w (IndexPost r w)) : Calls Tryz.prog 63 #[x, y] w (IndexPost r w) := by
  have H := Lib.hid h
  clear h
  go_enter Tryz.func63, Tryz.ntmps63
  go_wp2_with fail
  refine H.out.mono ?_
  rintro e' w' ⟨u, rfl, hb, hr⟩
  have HR := Lib.hid hr
  clear hr
  go_wp2_with fail
  go_ret
  exact ⟨_, rfl, hb, HR.out⟩
set_option maxHeartbeats 1000000 in
/-- impl.Index: what gojq gives of the values, as a result. -/
theorem door_Index (v1 v2 : V) (ok : Nat → Prop) (cs1 cs2 : List Value) (w : World) (hv1 : Vr w ok v1 cs1) (hv2 : Vr w ok v2 cs2) (wf1 : WF v1) (wf2 : WF v2) (pa1 : Sm v1) (pa2 : Sm v2)
    (S : Value → World → Prop) (T : V → Int → Prop)
    (HZ : ∀ (x1 x2 : Value) (W : World), Below w.heap.size w W → Jr W (fun _ => True) v1.j x1 → Jr W (fun _ => True) v2.j x2 → Calls Tryz.prog 63 #[x1, x2] W fun e W' => ∃ x, e = .returned x ∧ Below W.heap.size W W' ∧ S x W')
    (HR : ∀ (x : Value) (W : World), S x W → Calls Tryz.prog 48 #[x] W (ResPost T W)) :
    Calls Tryz.prog 23 #[.agg cs1.toArray, .agg cs2.toArray] w (ResPost T w) := by
  have HV1 := Lib.hid hv1
  have HV2 := Lib.hid hv2
  obtain ⟨k1, h1, t1, l1, ks1, vs1, P1, p1, Q1, q1, R1, r1, f1, g1, i1, i2, i3, i4, i5, i6, i7, i8, i9, i10, i11, i12, i13, i14, i15⟩ := hv1
  clear i1 i2 i3 i4 i5 i6 i7 i8 i9 i10 i11 i12 i13 i14 i15
  obtain ⟨k2, h2, t2, l2, ks2, vs2, P2, p2, Q2, q2, R2, r2, f2, g2, i1, i2, i3, i4, i5, i6, i7, i8, i9, i10, i11, i12, i13, i14, i15⟩ := hv2
  clear i1 i2 i3 i4 i5 i6 i7 i8 i9 i10 i11 i12 i13 i14 i15
  obtain ⟨W0, hW0⟩ : ∃ W0, W0 = ((w.alloc (.cells #[.int .i64 k1, .int .i64 h1, .string t1, .slice P1 l1.length p1, .slice Q1 ks1.length q1, .slice R1 vs1.length r1] 26)).alloc (.cells #[.int .i64 k2, .int .i64 h2, .string t2, .slice P2 l2.length p2, .slice Q2 ks2.length q2, .slice R2 vs2.length r2] 26)).alloc (.cells #[.int .i64 0, .int .i64 0, .string ⟨#[]⟩, .slice none 0 0, .slice none 0 0, .slice none 0 0, .int .i64 0] 34) := ⟨_, rfl⟩
  have hB : Below w.heap.size w W0 := by rw [hW0]; exact ((((Below.refl _ _).alloc (Nat.le_refl _) _).alloc (by (try simp); (try omega)) _).alloc (by (try simp); (try omega)) _)
  have hS0 : W0.heap.size = w.heap.size + 3 := by rw [hW0]; simp
  have hD2 : W0.heap[w.heap.size + 1]? = some (.cells #[.int .i64 k2, .int .i64 h2, .string t2, .slice P2 l2.length p2, .slice Q2 ks2.length q2, .slice R2 vs2.length r2] 26) := by
    rw [hW0]
    have := heap_alloc_new (w.alloc (.cells #[.int .i64 k1, .int .i64 h1, .string t1, .slice P1 l1.length p1, .slice Q1 ks1.length q1, .slice R1 vs1.length r1] 26)) (.cells #[.int .i64 k2, .int .i64 h2, .string t2, .slice P2 l2.length p2, .slice Q2 ks2.length q2, .slice R2 vs2.length r2] 26)
    rw [show (w.alloc (.cells #[.int .i64 k1, .int .i64 h1, .string t1, .slice P1 l1.length p1, .slice Q1 ks1.length q1, .slice R1 vs1.length r1] 26)).heap.size = w.heap.size + 1 from by simp] at this
    exact (Below.heap_alloc _ _ _ (by (try simp); (try omega))).trans (this)
  have hR0 : W0.heap[w.heap.size + 2]? = some (.cells #[.int .i64 0, .int .i64 0, .string ⟨#[]⟩, .slice none 0 0, .slice none 0 0, .slice none 0 0, .int .i64 0] 34) := by
    rw [hW0]
    have := heap_alloc_new ((w.alloc (.cells #[.int .i64 k1, .int .i64 h1, .string t1, .slice P1 l1.length p1, .slice Q1 ks1.length q1, .slice R1 vs1.length r1] 26)).alloc (.cells #[.int .i64 k2, .int .i64 h2, .string t2, .slice P2 l2.length p2, .slice Q2 ks2.length q2, .slice R2 vs2.length r2] 26)) (.cells #[.int .i64 0, .int .i64 0, .string ⟨#[]⟩, .slice none 0 0, .slice none 0 0, .slice none 0 0, .int .i64 0] 34)
    rw [show ((w.alloc (.cells #[.int .i64 k1, .int .i64 h1, .string t1, .slice P1 l1.length p1, .slice Q1 ks1.length q1, .slice R1 vs1.length r1] 26)).alloc (.cells #[.int .i64 k2, .int .i64 h2, .string t2, .slice P2 l2.length p2, .slice Q2 ks2.length q2, .slice R2 vs2.length r2] 26)).heap.size = w.heap.size + 2 from by simp] at this
    exact this
  have HW0 := Lib.hid hW0
  have HT1 := Lib.hid (toGo_any _ ok _ W0 wf1 pa1 (HV1.out.keep hB))
  clear hW0
  go_enter Tryz.func23, Tryz.ntmps23
  go_wp2_with fail
  rw [← HW0.out]
  refine HT1.out.mono ?_
  rintro e' w1 ⟨x1, rfl, hx1, hb1⟩
  have HX1 := Lib.hid hx1
  have HB1 := Lib.hid (below_trans hB hb1)
  have HC1 := Lib.hid hb1
  clear hx1 hb1
  have hd := (HC1.out.block _ (by omega)).trans hD2
  have z0 : w1.cell? ⟨w.heap.size + 1, 0, none⟩ = some (.int .i64 k2) := by simp [World.cell?, hd]
  have z1 : w1.cell? ⟨w.heap.size + 1, 1, none⟩ = some (.int .i64 h2) := by simp [World.cell?, hd]
  have z2 : w1.cell? ⟨w.heap.size + 1, 2, none⟩ = some (.string t2) := by simp [World.cell?, hd]
  have z3 : w1.cell? ⟨w.heap.size + 1, 3, none⟩ = some (.slice P2 l2.length p2) := by simp [World.cell?, hd]
  have z4 : w1.cell? ⟨w.heap.size + 1, 4, none⟩ = some (.slice Q2 ks2.length q2) := by simp [World.cell?, hd]
  have z5 : w1.cell? ⟨w.heap.size + 1, 5, none⟩ = some (.slice R2 vs2.length r2) := by simp [World.cell?, hd]
  clear hd
  go_wp2_with fail
  refine (toGo_any _ ok _ w1 wf2 pa2 (HV2.out.keep HB1.out)).mono ?_
  rintro e' w2 ⟨x2, rfl, hx2, hb2⟩
  have HX2 := Lib.hid hx2
  have HB2 := Lib.hid (below_trans HB1.out hb2)
  have HC2 := Lib.hid (below_trans HC1.out hb2)
  have HE2 := Lib.hid hb2
  clear hx2 hb2 z0 z1 z2 z3 z4 z5
  have HJ1 := Lib.hid (show Jr w2 (fun _ => True) _ x1 from (HX1.out.keep HE2.out).mono fun _ _ => trivial)
  have HJ2 := Lib.hid (show Jr w2 (fun _ => True) _ x2 from HX2.out.mono fun _ _ => trivial)
  have hsz : w.heap.size + 3 ≤ w2.heap.size := by have := HC2.out.size; omega
  go_wp2_with fail
  refine (HZ x1 x2 w2 HB2.out HJ1.out HJ2.out).mono ?_
  rintro e' w8 ⟨x8, rfl, hb8, hS8⟩
  have HS8 := Lib.hid hS8
  have HB8 := Lib.hid (below_trans HB2.out hb8)
  have HC8 := Lib.hid (below_trans HC2.out hb8)
  have hsz8 : w.heap.size + 3 ≤ w8.heap.size := by have := hb8.size; omega
  clear hS8 hb8
  go_wp2_with fail
  refine (HR x8 w8 HS8.out).mono ?_
  rintro e' w9 h9
  obtain ⟨v9, a0, a1, s, S3, S4, S5, n3, m3, n4, m4, n5, m5, c, rfl, hv9, hT9, hb9⟩ := resPost_shape h9
  have hr9 := (hb9.block _ (by omega)).trans ((HC8.out.block _ (by omega)).trans hR0)
  have y0 : w9.cell? ⟨w.heap.size + 1 + 1, 0, none⟩ = some (.int .i64 0) := by simp [World.cell?, hr9]
  have y1 : w9.cell? ⟨w.heap.size + 1 + 1, 1, none⟩ = some (.int .i64 0) := by simp [World.cell?, hr9]
  have y2 : w9.cell? ⟨w.heap.size + 1 + 1, 2, none⟩ = some (.string ⟨#[]⟩) := by simp [World.cell?, hr9]
  have y3 : w9.cell? ⟨w.heap.size + 1 + 1, 3, none⟩ = some (.slice none 0 0) := by simp [World.cell?, hr9]
  have y4 : w9.cell? ⟨w.heap.size + 1 + 1, 4, none⟩ = some (.slice none 0 0) := by simp [World.cell?, hr9]
  have y5 : w9.cell? ⟨w.heap.size + 1 + 1, 5, none⟩ = some (.slice none 0 0) := by simp [World.cell?, hr9]
  have y6 : w9.cell? ⟨w.heap.size + 1 + 1, 6, none⟩ = some (.int .i64 0) := by simp [World.cell?, hr9]
  have yf : ∀ i, w9.frozen? ⟨w.heap.size + 1 + 1, i, none⟩ = false := fun i => by simp [World.frozen?, hr9]
  have HB9 := Lib.hid (below_trans HB8.out hb9)
  have hset : ∀ (W : World) (i : Nat) (u : Value) (cs : List Value), Vr W (fun b => w.heap.size + 1 + 1 < b) v9 cs → Vr (W.setCell ⟨w.heap.size + 1 + 1, i, none⟩ u) (fun b => w.heap.size + 1 + 1 < b) v9 cs := fun W i u cs h =>
    h.move fun b hb => Below.heap_setCell _ _ _ _ (by show b ≠ w.heap.size + 1 + 1; omega)
  have HSET := Lib.hid hset
  have HV9 := Lib.hid (show Vr w9 (fun b => w.heap.size + 1 + 1 < b) v9 _ from hv9.mono fun b hb => by omega)
  have HT9 := Lib.hid hT9
  clear hset hv9 hT9 hb9 hr9 h9 hR0
  go_wp2_with fail
  refine bodyPost_ret (v := .agg #[.int .i64 a0, .int .i64 a1, .string s, .slice S3 n3 m3, .slice S4 n4 m4, .slice S5 n5 m5, .int .i64 c]) (by simp [results, Tryz.results23, go_sem, y0, y1, y2, y3, y4, y5, y6]) rfl ?_
  refine ⟨v9, [.int .i64 a0, .int .i64 a1, .string s, .slice S3 n3 m3, .slice S4 n4 m4, .slice S5 n5 m5], c, rfl, ?_, HT9.out, ?_⟩
  · exact (HSET.out _ _ _ _ (HSET.out _ _ _ _ (HSET.out _ _ _ _ (HSET.out _ _ _ _ (HSET.out _ _ _ _ (HSET.out _ _ _ _ (HSET.out _ _ _ _ HV9.out))))))).mono fun b hb => by omega
  · have hle : w.heap.size ≤ w.heap.size + 1 + 1 := by omega
    exact (((((((HB9.out.setCell hle _).setCell hle _).setCell hle _).setCell hle _).setCell hle _).setCell hle _).setCell hle _)
/-- What of a jq value or an error comes out of a door. -/
def OptT (r : Option J) (v : V) (c : Int) : Prop := match r with
  | some j => v = j.v ∧ c = 0
  | none => v = zeroV0 ∧ c = 1
def OptR (r : Option J) (x : Value) (w : World) : Prop := (r = none ∧ IsErr x) ∨ ∃ j, r = some j ∧ GJ j ∧ Jr w (fun _ => True) j x
theorem result_opt (r : Option J) (x : Value) (w : World) (h : OptR r x w) : Calls Tryz.prog 48 #[x] w (ResPost (OptT r) w) := by
  rcases h with ⟨rfl, h⟩ | ⟨j, rfl, hg, hj⟩
  · exact (result_errG h w).mono fun e w' h => resPost_mono (resPost_err h) fun v c h => h
  · exact (result_any j _ x w hg hj).mono fun e w' h => resPost_mono (resPost_ok h) fun v c h => h
end Go.Proofs.YtpamlgdcnmcedaaGreatDoor
