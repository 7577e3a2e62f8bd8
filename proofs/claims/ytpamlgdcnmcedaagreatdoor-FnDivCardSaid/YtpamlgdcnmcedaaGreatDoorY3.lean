/- laws.fit: two values that spec.Fit lets in. -/
import Derived.Test.YtpamlgdcnmcedaaGreatDoorS4
set_option linter.unusedVariables false
set_option linter.unusedSimpArgs false
set_option maxRecDepth 100000
namespace Go.Proofs.YtpamlgdcnmcedaaGreatDoor
open Go Go.RowKit
theorem fit2_any (v d : V) (ok : Nat → Prop) (cs ds : List Value) (w : World) (hv : Vr w ok v cs) (hd : Vr w ok d ds) (hT : Lib.Utf8Tabs 0 1 w) :
    Calls Tryz.prog 19 #[.agg cs.toArray, .agg ds.toArray] w fun e w' => Below w.heap.size w w' ∧ ∃ r, e = .returned (.bool r) ∧ (r = true → (WF v ∧ v.parts ≤ 400) ∧ (WF d ∧ d.parts ≤ 400)) := by
  have HV := Lib.hid hv
  have HD := Lib.hid hd
  have HT := Lib.hid hT
  obtain ⟨k, h, t, l, ks, vs, A1, c1, A2, c2, A3, c3, f, g, ht, h1, h2, h3, b1, b2, b3, hk', hh', hs', r1, e1, r2, r3, e3⟩ := hv
  obtain ⟨dk, dh, dt, dl, dks, dvs, D1, p1, D2, p2, D3, p3, df, dg, dht, dh1, dh2, dh3, db1, db2, db3, dhk, dhh, dhs, dr1, de1, dr2, dr3, de3⟩ := hd
  obtain ⟨W2, hW2⟩ : ∃ W2, W2 = (w.alloc (.cells #[.int .i64 k, .int .i64 h, .string t, .slice A1 l.length c1, .slice A2 ks.length c2, .slice A3 vs.length c3] 26)).alloc (.cells #[.int .i64 dk, .int .i64 dh, .string dt, .slice D1 dl.length p1, .slice D2 dks.length p2, .slice D3 dvs.length p3] 26) := ⟨_, rfl⟩
  have hB2 : Below w.heap.size w W2 := by rw [hW2]; exact ((Below.refl _ _).alloc (Nat.le_refl _) _).alloc (by simp) _
  have hS2 : W2.heap.size = w.heap.size + 2 := by rw [hW2]; simp
  have hR2 : W2.heap[w.heap.size + 1]? = some (.cells #[.int .i64 dk, .int .i64 dh, .string dt, .slice D1 dl.length p1, .slice D2 dks.length p2, .slice D3 dvs.length p3] 26) := by
    rw [hW2]
    have := heap_alloc_new (w.alloc (.cells #[.int .i64 k, .int .i64 h, .string t, .slice A1 l.length c1, .slice A2 ks.length c2, .slice A3 vs.length c3] 26)) (.cells #[.int .i64 dk, .int .i64 dh, .string dt, .slice D1 dl.length p1, .slice D2 dks.length p2, .slice D3 dvs.length p3] 26)
    rw [show (w.alloc (.cells #[.int .i64 k, .int .i64 h, .string t, .slice A1 l.length c1, .slice A2 ks.length c2, .slice A3 vs.length c3] 26)).heap.size = w.heap.size + 1 from by simp] at this
    exact this
  have HW2 := Lib.hid hW2
  have HB2 := Lib.hid hB2
  have HR2 := Lib.hid hR2
  clear hW2 hB2 hR2 r1 e1 r2 r3 e3 hs' dr1 de1 dr2 dr3 de3 dhs hT
  go_enter Tryz.func19, Tryz.ntmps19
  go_wp2_with fail
  rw [← HW2.out]
  refine (fit_any _ ok _ W2 (HV.out.keep HB2.out) (Utf8Tabs_below HT.out HB2.out)).mono ?_
  rintro e' w3 ⟨hb3, r, rfl, hr⟩
  have HR := Lib.hid hr
  have HB3 := Lib.hid hb3
  have q2 := (hb3.block _ (by omega)).trans HR2.out
  have y0 : w3.cell? ⟨w.heap.size + 1, 0, none⟩ = some (.int .i64 dk) := by simp [World.cell?, q2]
  have y1 : w3.cell? ⟨w.heap.size + 1, 1, none⟩ = some (.int .i64 dh) := by simp [World.cell?, q2]
  have y2 : w3.cell? ⟨w.heap.size + 1, 2, none⟩ = some (.string dt) := by simp [World.cell?, q2]
  have y3 : w3.cell? ⟨w.heap.size + 1, 3, none⟩ = some (.slice D1 dl.length p1) := by simp [World.cell?, q2]
  have y4 : w3.cell? ⟨w.heap.size + 1, 4, none⟩ = some (.slice D2 dks.length p2) := by simp [World.cell?, q2]
  have y5 : w3.cell? ⟨w.heap.size + 1, 5, none⟩ = some (.slice D3 dvs.length p3) := by simp [World.cell?, q2]
  clear q2 hb3 hr
  cases r
  · go_wp2_with fail
    go_ret
    exact ⟨below_trans HB2.out HB3.out, _, rfl, fun h => by cases h⟩
  go_wp2_with fail
  refine (fit_any _ ok _ w3 (HD.out.keep (below_trans HB2.out HB3.out)) (Utf8Tabs_below HT.out (below_trans HB2.out HB3.out))).mono ?_
  rintro e' w4 ⟨hb4, r, rfl, hr⟩
  have HQ := Lib.hid hr
  have HB4 := Lib.hid hb4
  clear hr hb4 y0 y1 y2 y3 y4 y5
  cases r
  · go_wp2_with fail
    go_ret
    exact ⟨below_trans HB2.out (below_trans HB3.out HB4.out), _, rfl, fun h => by cases h⟩
  · go_wp2_with fail
    go_ret
    exact ⟨below_trans HB2.out (below_trans HB3.out HB4.out), _, rfl, fun _ => ⟨HR.out (by first | rfl | trivial), HQ.out (by first | rfl | trivial)⟩⟩
end Go.Proofs.YtpamlgdcnmcedaaGreatDoor
