/- spec.Call at 'flatten', one argument. -/
import Derived.Test.YtpamlgdcnmcedaaGreatDoorS3
import Derived.Deep.RegionHeld3
import Derived.Deep.QuietTactic
import Derived.BigQuiet
set_option linter.unusedVariables false
set_option linter.unusedSimpArgs false
set_option maxRecDepth 100000
namespace Go.Proofs.YtpamlgdcnmcedaaGreatDoor
open Go Go.RowKit
theorem wf_arr {l : List V} (h : ∀ v, v ∈ l → WF v) : WF (V.mk 5 0 ⟨#[]⟩ l [] []) :=
  .mk 5 0 ⟨#[]⟩ l [] [] (by decide) (.inr rfl) (.inr rfl) (.inl rfl) (.inr rfl) rfl (by decide) (.inl rfl) (fun i a b ha => by simp at ha) h (fun v hv => by simp at hv)
theorem vr_one {w : World} {B : Nat} {d : V} {ds : List Value} {cap : Nat} (hd : Vr w (fun _ => True) d ds) (hc : 1 ≤ cap) (hB : ∀ j u, ds[j]? = some u → w.cell? ((⟨B, 0, none⟩ : Addr).add j) = some u) :
    Vr w (fun _ => True) (V.mk 5 0 ⟨#[]⟩ [d] [] []) [.int .i64 5, .int .i64 0, .string ⟨#[]⟩, .slice (some ⟨B, 0, none⟩) 1 cap, .slice none 0 0, .slice none 0 0] := by
  refine .mk 5 0 ⟨#[]⟩ [d] [] [] (some ⟨B, 0, none⟩) cap none 0 none 0 (fun _ => ds) (fun _ => []) (by decide) hc (Nat.le_refl _) (Nat.le_refl _) (show 1 ≤ 140737488351232 by decide) (by decide) (by decide) (by decide) (by decide) (fun i s h => by simp at h) ?_ ?_ (fun h => absurd h (by simp)) (fun h => absurd h (by simp)) (fun i v h => by simp at h)
  · refine fun _ => ⟨_, rfl, trivial, fun i j u hi hu => ?_⟩
    have : i = 0 := by simpa using hi
    subst this
    rw [Nat.zero_mul, Nat.zero_add]
    exact hB j u hu
  · intro i v hv
    match i, hv with
    | 0, hv => simp at hv; subst hv; exact hd
    | i + 1, hv => simp at hv
/-- What the reference answers: 2: nothing is said; 1: an error; 0: the cells of a value. -/
def AlongRel (ok : Nat → Prop) (v d : V) (w : World) (code : Int) (rs : List Value) (w' : World) : Prop :=
  code = 2 ∨ (v.kind ≠ 6 ∧ v.kind ≠ 5 ∧ (∃ n : Nat, d.half = 2 * n ∧ d.kind = 3) ∧ code = 1 ∧ rs = [.int .i64 0, .int .i64 0, .string ⟨#[]⟩, .slice none 0 0, .slice none 0 0, .slice none 0 0]) ∨
  (v.kind = 5 ∧ ∃ n : Nat, d.half = 2 * n ∧ d.kind = 3 ∧ code = 0 ∧ Vr w' (fun b => w.heap.size ≤ b ∨ (ok b ∧ b < w.heap.size)) (V.mk 5 0 ⟨#[]⟩ (flatV n v.list) [] []) rs)
def CallPost (ok : Nat → Prop) (v d : V) (w : World) (e : Ending) (w' : World) : Prop := Below w.heap.size w w' ∧
  ∃ (a0 a1 : Int) (s : ByteArray) (S3 S4 S5 : Option Addr) (n3 m3 n4 m4 n5 m5 : Nat) (code : Int), e = .returned (.tuple #[.agg #[.int .i64 a0, .int .i64 a1, .string s, .slice S3 n3 m3, .slice S4 n4 m4, .slice S5 n5 m5], .int .i64 code]) ∧
    AlongRel ok v d w code [.int .i64 a0, .int .i64 a1, .string s, .slice S3 n3 m3, .slice S4 n4 m4, .slice S5 n5 m5] w'
theorem callPost_of {ok : Nat → Prop} {v d : V} {w w' : World} {e : Ending} (h : AlongPost ok v d w e w') : CallPost ok v d w e w' := by
  obtain ⟨hb, he | ⟨h6, h5, hn, he⟩ | ⟨h5, n, rs, hh, h3, he, hv⟩⟩ := h
  · exact ⟨hb, _, _, _, _, _, _, _, _, _, _, _, _, _, he, .inl rfl⟩
  · exact ⟨hb, _, _, _, _, _, _, _, _, _, _, _, _, _, he, .inr (.inl ⟨h6, h5, hn, rfl, rfl⟩)⟩
  · cases hv with
    | mk _ _ _ _ _ _ A1 c1 A2 c2 A3 c3 f g ht h1 h2 h3' b1 b2 b3 hk hh' hs r1 e1 r2 r3 e3 =>
      refine ⟨hb, _, _, _, _, _, _, _, _, _, _, _, _, _, he, .inr (.inr ⟨h5, n, hh, h3, rfl, ?_⟩)⟩
      exact .mk _ _ _ _ _ _ A1 c1 A2 c2 A3 c3 f g ht h1 h2 h3' b1 b2 b3 hk hh' hs r1 e1 r2 r3 e3
theorem rel_fin {ok : Nat → Prop} {v d : V} {w wm wa wb : World} {code : Int} {rs : List Value} (h : AlongRel (fun b => ok b ∧ b < w.heap.size) v d wm code rs wa) (hs : w.heap.size + 2 ≤ wm.heap.size) (hm : ∀ b, b ≠ w.heap.size + 1 → wb.heap[b]? = wa.heap[b]?) : AlongRel ok v d w code rs wb := by
  rcases h with h | h | ⟨h5, n, hh, h3, hc, hv⟩
  · exact .inl h
  · exact .inr (.inl h)
  · exact .inr (.inr ⟨h5, n, hh, h3, hc, (hv.move fun b hb => hm b (by omega)).mono fun b hb => hb.elim (fun h => .inl (by omega)) (fun h => .inr h.1)⟩)
theorem set_far {w : World} {R i b : Nat} {u : Value} (h : b ≠ R) : (w.setCell ⟨R, i, none⟩ u).heap[b]? = w.heap[b]? := Below.heap_setCell _ _ _ _ h
set_option maxHeartbeats 4000000 in
theorem call_any (v d : V) (ok : Nat → Prop) (cs ds : List Value) (B cap : Nat) (w : World) (hv : Vr w ok v cs) (hd : Vr w ok d ds) (wv : WF v) (wd : WF d) (hlen : ∀ n, (flatV n v.list).length ≤ 1000) (hcap : 1 ≤ cap)
    (hB : w.heap[B]? = some (.cells ds.toArray 26 (0, 0))) :
    Calls Tryz.prog 12 #[.string { data := #[102, 108, 97, 116, 116, 101, 110] }, .agg cs.toArray, .slice (some ⟨B, 0, none⟩) 1 cap] w (CallPost ok v d w) := by
  have HV := Lib.hid hv
  have HD := Lib.hid hd
  have HLEN := Lib.hid hlen
  have WV := Lib.hid wv
  have WD := Lib.hid wd
  obtain ⟨k, h, t, l, ks, vs, A1, c1, A2, c2, A3, c3, f, g, ht, h1, h2, h3, b1, b2, b3, hk', hh', hs', r1, e1, r2, r3, e3⟩ := hv
  obtain ⟨dk, dh, dt, dl, dks, dvs, D1, p1, D2, p2, D3, p3, df, dg, dht, dh1, dh2, dh3, db1, db2, db3, dhk, dhh, dhs, dr1, de1, dr2, dr3, de3⟩ := hd
  obtain ⟨W2, hW2⟩ : ∃ W2, W2 = (w.alloc (.cells #[.int .i64 k, .int .i64 h, .string t, .slice A1 l.length c1, .slice A2 ks.length c2, .slice A3 vs.length c3] 26)).alloc (.cells #[.int .i64 0, .int .i64 0, .string ⟨#[]⟩, .slice none 0 0, .slice none 0 0, .slice none 0 0] 26) := ⟨_, rfl⟩
  have hB2 : Below w.heap.size w W2 := by rw [hW2]; exact ((Below.refl _ _).alloc (Nat.le_refl _) _).alloc (by simp) _
  have hS2 : W2.heap.size = w.heap.size + 2 := by rw [hW2]; simp
  have hC2 : W2.heap[w.heap.size]? = some (.cells #[.int .i64 k, .int .i64 h, .string t, .slice A1 l.length c1, .slice A2 ks.length c2, .slice A3 vs.length c3] 26) := by
    rw [hW2, heap_alloc_old _ _ (by simp)]
    exact heap_alloc_new w _
  have hR2 : W2.heap[w.heap.size + 1]? = some (.cells #[.int .i64 0, .int .i64 0, .string ⟨#[]⟩, .slice none 0 0, .slice none 0 0, .slice none 0 0] 26) := by
    rw [hW2]
    have := heap_alloc_new (w.alloc (.cells #[.int .i64 k, .int .i64 h, .string t, .slice A1 l.length c1, .slice A2 ks.length c2, .slice A3 vs.length c3] 26)) (.cells #[.int .i64 0, .int .i64 0, .string ⟨#[]⟩, .slice none 0 0, .slice none 0 0, .slice none 0 0] 26)
    rw [show (w.alloc (.cells #[.int .i64 k, .int .i64 h, .string t, .slice A1 l.length c1, .slice A2 ks.length c2, .slice A3 vs.length c3] 26)).heap.size = w.heap.size + 1 from by simp] at this
    exact this
  have hfar : ∀ W, Below W2.heap.size W2 W → W.heap[w.heap.size]? = some (.cells #[.int .i64 k, .int .i64 h, .string t, .slice A1 l.length c1, .slice A2 ks.length c2, .slice A3 vs.length c3] 26) ∧ W.heap[w.heap.size + 1]? = some (.cells #[.int .i64 0, .int .i64 0, .string ⟨#[]⟩, .slice none 0 0, .slice none 0 0, .slice none 0 0] 26) ∧
      W.heap[B]? = some (.cells #[.int .i64 dk, .int .i64 dh, .string dt, .slice D1 dl.length p1, .slice D2 dks.length p2, .slice D3 dvs.length p3] 26) := fun W hb => ⟨(hb.block _ (by omega)).trans hC2, (hb.block _ (by omega)).trans hR2, (hb.block _ (by have := (Array.getElem?_eq_some_iff.1 hB).1; omega)).trans ((hB2.block _ (Array.getElem?_eq_some_iff.1 hB).1).trans hB)⟩
  have HFAR := Lib.hid hfar
  have HW2 := Lib.hid hW2
  have HB2 := Lib.hid hB2
  have HS2 := Lib.hid hS2
  have hBlt : B < w.heap.size := (Array.getElem?_eq_some_iff.1 hB).1
  clear hfar hW2 hB2 hS2 hC2 hR2 hB r1 e1 r2 r3 e3 hs' dr1 de1 dr2 dr3 de3 dhs wv wd hlen
  go_enter Tryz.func12, Tryz.ntmps12
  go_wp2_with fail
  rw [← HW2.out]
  refine (vague_any _ ok _ W2 WV.out (HV.out.keep HB2.out)).mono ?_
  rintro e' w3 ⟨rfl, hb3⟩
  have HB3 := Lib.hid hb3
  clear hb3
  go_wp2_with fail
  refine (array_any _ _ _ w3).mono ?_
  rintro e' w4 ⟨rfl, hb4⟩
  have HB4 := Lib.hid (below_trans HB3.out hb4)
  clear hb4
  go_wp2_with fail
  refine (vague_any (V.mk 5 0 ⟨#[]⟩ [V.mk dk dh dt dl dks dvs] [] []) (fun _ => True) _ w4 (wf_arr fun u hu => by simp at hu; rw [hu]; exact WD.out) (vr_one ((HD.out.keep (below_trans HB2.out HB4.out)).mono fun _ _ => trivial) hcap (cells_six (HFAR.out w4 HB4.out).2.2))).mono ?_
  rintro e' w5 ⟨rfl, hb5⟩
  have HB5 := Lib.hid (below_trans HB4.out hb5)
  clear hb5
  obtain ⟨q1, q2, q3⟩ := HFAR.out w5 HB5.out
  have z0 : w5.cell? ⟨w.heap.size, 0, none⟩ = some (.int .i64 k) := by simp [World.cell?, q1]
  have z1 : w5.cell? ⟨w.heap.size, 1, none⟩ = some (.int .i64 h) := by simp [World.cell?, q1]
  have z2 : w5.cell? ⟨w.heap.size, 2, none⟩ = some (.string t) := by simp [World.cell?, q1]
  have z3 : w5.cell? ⟨w.heap.size, 3, none⟩ = some (.slice A1 l.length c1) := by simp [World.cell?, q1]
  have z4 : w5.cell? ⟨w.heap.size, 4, none⟩ = some (.slice A2 ks.length c2) := by simp [World.cell?, q1]
  have z5 : w5.cell? ⟨w.heap.size, 5, none⟩ = some (.slice A3 vs.length c3) := by simp [World.cell?, q1]
  have y0 : w5.cell? ⟨B, 0, none⟩ = some (.int .i64 dk) := by simp [World.cell?, q3]
  have y1 : w5.cell? ⟨B, 1, none⟩ = some (.int .i64 dh) := by simp [World.cell?, q3]
  have y2 : w5.cell? ⟨B, 2, none⟩ = some (.string dt) := by simp [World.cell?, q3]
  have y3 : w5.cell? ⟨B, 3, none⟩ = some (.slice D1 dl.length p1) := by simp [World.cell?, q3]
  have y4 : w5.cell? ⟨B, 4, none⟩ = some (.slice D2 dks.length p2) := by simp [World.cell?, q3]
  have y5 : w5.cell? ⟨B, 5, none⟩ = some (.slice D3 dvs.length p3) := by simp [World.cell?, q3]
  clear q1 q2 q3
  go_wp2_with fail
  have hBn1 : ¬ B = w.heap.size + 1 := by omega
  have hBn2 : ¬ w.heap.size + 1 = B := by omega
  have hBn3 : B ≠ w.heap.size + 1 := by omega
  go_region_held3 (fun W => W.cell? ⟨w.heap.size, 0, none⟩ = some (.int .i64 k) ∧ W.cell? ⟨w.heap.size, 1, none⟩ = some (.int .i64 h) ∧ W.cell? ⟨w.heap.size, 2, none⟩ = some (.string t) ∧ W.cell? ⟨w.heap.size, 3, none⟩ = some (.slice A1 l.length c1) ∧ W.cell? ⟨w.heap.size, 4, none⟩ = some (.slice A2 ks.length c2) ∧ W.cell? ⟨w.heap.size, 5, none⟩ = some (.slice A3 vs.length c3) ∧
      W.cell? ⟨B, 0, none⟩ = some (.int .i64 dk) ∧ W.cell? ⟨B, 1, none⟩ = some (.int .i64 dh) ∧ W.cell? ⟨B, 2, none⟩ = some (.string dt) ∧ W.cell? ⟨B, 3, none⟩ = some (.slice D1 dl.length p1) ∧ W.cell? ⟨B, 4, none⟩ = some (.slice D2 dks.length p2) ∧ W.cell? ⟨B, 5, none⟩ = some (.slice D3 dvs.length p3))
    (first | go_keep | exact ⟨cell_kept hbc z0, cell_kept hbc z1, cell_kept hbc z2, cell_kept hbc z3, cell_kept hbc z4, cell_kept hbc z5, cell_kept hbc y0, cell_kept hbc y1, cell_kept hbc y2, cell_kept hbc y3, cell_kept hbc y4, cell_kept hbc y5⟩ | ((try dsimp only); (repeat' apply And.intro) <;> go_keep))
    ((first | (go_at_call 44; refine (along_any _ _ (fun b => ok b ∧ b < w.heap.size) _ _ _ ((HV.out.bound.keep (below_trans HB2.out HB5.out)).keep (Below.refl _ _).drew) ((HD.out.bound.keep (below_trans HB2.out HB5.out)).keep (Below.refl _ _).drew) WV.out WD.out HLEN.out).mono ?_; rintro e' w' hpost; obtain ⟨hb', a0, a1, s, S3, S4, S5, n3, m3, n4, m4, n5, m5, code, rfl, hrel⟩ := callPost_of hpost; have hbc : Below w5.heap.size w5 w' := Below.trans (Below.drew (Below.refl _ _)) hb'; have hr6 := (HFAR.out w' (below_trans HB5.out hbc)).2.1; have x0 : w'.cell? ⟨w.heap.size + 1, 0, none⟩ = some (.int .i64 0) := (by simp [World.cell?, hr6]); have x1 : w'.cell? ⟨w.heap.size + 1, 1, none⟩ = some (.int .i64 0) := (by simp [World.cell?, hr6]); have x2 : w'.cell? ⟨w.heap.size + 1, 2, none⟩ = some (.string ⟨#[]⟩) := (by simp [World.cell?, hr6]); have x3 : w'.cell? ⟨w.heap.size + 1, 3, none⟩ = some (.slice none 0 0) := (by simp [World.cell?, hr6]); have x4 : w'.cell? ⟨w.heap.size + 1, 4, none⟩ = some (.slice none 0 0) := (by simp [World.cell?, hr6]); have x5 : w'.cell? ⟨w.heap.size + 1, 5, none⟩ = some (.slice none 0 0) := (by simp [World.cell?, hr6]); have xf : ∀ i, w'.frozen? ⟨w.heap.size + 1, i, none⟩ = false := fun i => (by simp [World.frozen?, hr6]))))
  have HBC := Lib.hid hbc
  have HREL := Lib.hid hrel
  clear z0 z1 z2 z3 z4 z5 y0 y1 y2 y3 y4 y5 hb' hbc hrel
  go_wp2_with fail
  refine bodyPost_ret (v := .tuple #[.agg #[.int .i64 a0, .int .i64 a1, .string s, .slice S3 n3 m3, .slice S4 n4 m4, .slice S5 n5 m5], .int .i64 code]) (by simp [results, Tryz.results12, go_sem, x0, x1, x2, x3, x4, x5]) rfl ?_
  have hle : w.heap.size ≤ w.heap.size + 1 := by omega
  have hz5 : w.heap.size + 2 ≤ w5.heap.size := by have := HB5.out.size; have := HS2.out; omega
  refine ⟨(((((((below_trans HB2.out (below_trans HB5.out HBC.out)).setCell hle _).setCell hle _).setCell hle _).setCell hle _).setCell hle _).setCell hle _), a0, a1, s, S3, S4, S5, n3, m3, n4, m4, n5, m5, code, rfl, ?_⟩
  exact rel_fin HREL.out hz5 (fun b hb => (set_far hb).trans ((set_far hb).trans ((set_far hb).trans ((set_far hb).trans ((set_far hb).trans (set_far hb))))))
end Go.Proofs.YtpamlgdcnmcedaaGreatDoor
