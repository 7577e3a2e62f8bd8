/- spec.Index. -/
import Derived.Test.YtpamlgdcnmcedaaGreatDoorJh
set_option linter.unusedVariables false
set_option linter.unusedSimpArgs false
set_option maxRecDepth 100000
namespace Go.Proofs.YtpamlgdcnmcedaaGreatDoor
open Go Go.RowKit
set_option maxHeartbeats 8000000 in
theorem specIndex_k0 (v k : V) (ok : Nat → Prop) (cs1 cs2 : List Value) (w : World) (hv : Vr w ok v cs1) (hk : Vr w ok k cs2) (wv : WF v) (wk : WF k) (hkk : k.kind = 0) (lv : v.list.length ≤ 1000000) (tv : v.text.size ≤ 2000) (vv : Lib.validD v.text.data.toList = true) :
    Calls Tryz.prog 22 #[.agg cs1.toArray, .agg cs2.toArray] w (IdxPost ok (IdxS v k) w) := by
  have HV1 := Lib.hid hv
  have HV2 := Lib.hid hk
  have HWV := Lib.hid wv
  have HK := Lib.hid wk
  have HLV := Lib.hid lv
  have HTV := Lib.hid tv
  have HVV := Lib.hid vv
  have hkv : v.kind = 0 ∨ v.kind = 1 ∨ v.kind = 2 ∨ v.kind = 3 ∨ v.kind = 4 ∨ v.kind = 5 ∨ v.kind = 6 := by
    rcases kinds wv with ⟨h, _⟩ | ⟨h, _⟩ | ⟨h, _⟩ | ⟨h, _⟩ | ⟨h, _⟩ | ⟨h, _⟩ | ⟨h, _⟩ | ⟨h, _⟩ <;> omega
  obtain ⟨k1, h1, t1, l1, ks1, vs1, P1, p1, Q1, q1, R1, r1, f1, g1, i1, i2, i3, i4, i5, i6, i7, i8, i9, i10, ra, ea, i13, i14, i15⟩ := hv
  have hrow : RowAt w ok 6 P1 l1.length f1 := ra
  have hel := ea
  clear i1 i2 i3 i4 i5 i6 i7 i8 i9 i10 i13 i14 i15 ra ea
  obtain ⟨k2, h2, t2, l2, ks2, vs2, P2, p2, Q2, q2, R2, r2, f2, g2, i1, i2, i3, i4, i5, i6, i7, i8, i9, i10, i11, i12, i13, i14, i15⟩ := hk
  clear i1 i2 i3 i4 i5 i6 i7 i8 i9 i10 i11 i12 i13 i14 i15
  simp only [V.kind] at hkk
  subst hkk
  obtain ⟨nl, hnl⟩ : ∃ nl, nl = l1.length := ⟨_, rfl⟩
  rw [← hnl] at HV1 hrow ⊢
  have HNL := Lib.hid hnl
  have HROW := Lib.hid hrow
  have HEL := Lib.hid hel
  have hnl6 : nl ≤ 1000000 := by rw [hnl]; exact lv
  clear hnl hrow hel lv tv vv wv wk
  obtain ⟨W0, hW0⟩ : ∃ W0, W0 = ((w.alloc (.cells #[.int .i64 k1, .int .i64 h1, .string t1, .slice P1 nl p1, .slice Q1 ks1.length q1, .slice R1 vs1.length r1] 26)).alloc (.cells #[.int .i64 0, .int .i64 h2, .string t2, .slice P2 l2.length p2, .slice Q2 ks2.length q2, .slice R2 vs2.length r2] 26)).alloc (.cells #[.int .i64 0, .int .i64 0, .string ⟨#[]⟩, .slice none 0 0, .slice none 0 0, .slice none 0 0] 26) := ⟨_, rfl⟩
  have hBW0 : Below w.heap.size w W0 := by rw [hW0]; exact ((((Below.refl _ _).alloc (Nat.le_refl _) _).alloc (by (try simp); (try omega)) _).alloc (by (try simp); (try omega)) _)
  have hSW0 : W0.heap.size = w.heap.size + 3 := by rw [hW0]; simp
  have hD0 : W0.heap[w.heap.size]? = some (.cells #[.int .i64 k1, .int .i64 h1, .string t1, .slice P1 nl p1, .slice Q1 ks1.length q1, .slice R1 vs1.length r1] 26) := by
    rw [hW0]
    have := heap_alloc_new w (.cells #[.int .i64 k1, .int .i64 h1, .string t1, .slice P1 nl p1, .slice Q1 ks1.length q1, .slice R1 vs1.length r1] 26)
    exact (Below.heap_alloc _ _ _ (by (try simp); (try omega))).trans ((Below.heap_alloc _ _ _ (by (try simp); (try omega))).trans (this))
  have hD1 : W0.heap[w.heap.size + 1]? = some (.cells #[.int .i64 0, .int .i64 h2, .string t2, .slice P2 l2.length p2, .slice Q2 ks2.length q2, .slice R2 vs2.length r2] 26) := by
    rw [hW0]
    have := heap_alloc_new (w.alloc (.cells #[.int .i64 k1, .int .i64 h1, .string t1, .slice P1 nl p1, .slice Q1 ks1.length q1, .slice R1 vs1.length r1] 26)) (.cells #[.int .i64 0, .int .i64 h2, .string t2, .slice P2 l2.length p2, .slice Q2 ks2.length q2, .slice R2 vs2.length r2] 26)
    rw [show (w.alloc (.cells #[.int .i64 k1, .int .i64 h1, .string t1, .slice P1 nl p1, .slice Q1 ks1.length q1, .slice R1 vs1.length r1] 26)).heap.size = w.heap.size + 1 from by simp] at this
    exact (Below.heap_alloc _ _ _ (by (try simp); (try omega))).trans (this)
  have hD2 : W0.heap[w.heap.size + 2]? = some (.cells #[.int .i64 0, .int .i64 0, .string ⟨#[]⟩, .slice none 0 0, .slice none 0 0, .slice none 0 0] 26) := by
    rw [hW0]
    have := heap_alloc_new ((w.alloc (.cells #[.int .i64 k1, .int .i64 h1, .string t1, .slice P1 nl p1, .slice Q1 ks1.length q1, .slice R1 vs1.length r1] 26)).alloc (.cells #[.int .i64 0, .int .i64 h2, .string t2, .slice P2 l2.length p2, .slice Q2 ks2.length q2, .slice R2 vs2.length r2] 26)) (.cells #[.int .i64 0, .int .i64 0, .string ⟨#[]⟩, .slice none 0 0, .slice none 0 0, .slice none 0 0] 26)
    rw [show ((w.alloc (.cells #[.int .i64 k1, .int .i64 h1, .string t1, .slice P1 nl p1, .slice Q1 ks1.length q1, .slice R1 vs1.length r1] 26)).alloc (.cells #[.int .i64 0, .int .i64 h2, .string t2, .slice P2 l2.length p2, .slice Q2 ks2.length q2, .slice R2 vs2.length r2] 26)).heap.size = w.heap.size + 2 from by simp] at this
    exact this
  have hfar : ∀ W, Below W0.heap.size W0 W → W.heap[w.heap.size]? = some (.cells #[.int .i64 k1, .int .i64 h1, .string t1, .slice P1 nl p1, .slice Q1 ks1.length q1, .slice R1 vs1.length r1] 26) ∧ W.heap[w.heap.size + 1]? = some (.cells #[.int .i64 0, .int .i64 h2, .string t2, .slice P2 l2.length p2, .slice Q2 ks2.length q2, .slice R2 vs2.length r2] 26) ∧ W.heap[w.heap.size + 2]? = some (.cells #[.int .i64 0, .int .i64 0, .string ⟨#[]⟩, .slice none 0 0, .slice none 0 0, .slice none 0 0] 26) := fun W hb => ⟨(hb.block _ (by omega)).trans hD0, (hb.block _ (by omega)).trans hD1, (hb.block _ (by omega)).trans hD2⟩
  have HFAR := Lib.hid hfar
  have HW0 := Lib.hid hW0
  have HBW0 := Lib.hid hBW0
  have HSW0 := Lib.hid hSW0
  clear hfar hW0 hBW0 hSW0 hD0 hD1 hD2
  have HLE := Lib.hid (show w.heap.size ≤ w.heap.size + 1 + 1 by omega)
  simp only [V.kind] at hkv
  rcases hkv with rfl | rfl | rfl | rfl | rfl | rfl | rfl
  · go_enter Tryz.func22, Tryz.ntmps22
    go_wp2_with fail
    rw [← HW0.out]
    obtain ⟨hq1, hq2, hq3⟩ := HFAR.out W0 (Below.refl _ _)
    have x0 : W0.cell? ⟨w.heap.size + 1 + 1, 0, none⟩ = some (.int .i64 0) := by simp [World.cell?, hq3]
    have x1 : W0.cell? ⟨w.heap.size + 1 + 1, 1, none⟩ = some (.int .i64 0) := by simp [World.cell?, hq3]
    have x2 : W0.cell? ⟨w.heap.size + 1 + 1, 2, none⟩ = some (.string ⟨#[]⟩) := by simp [World.cell?, hq3]
    have x3 : W0.cell? ⟨w.heap.size + 1 + 1, 3, none⟩ = some (.slice none 0 0) := by simp [World.cell?, hq3]
    have x4 : W0.cell? ⟨w.heap.size + 1 + 1, 4, none⟩ = some (.slice none 0 0) := by simp [World.cell?, hq3]
    have x5 : W0.cell? ⟨w.heap.size + 1 + 1, 5, none⟩ = some (.slice none 0 0) := by simp [World.cell?, hq3]
    have xf : ∀ i, W0.frozen? ⟨w.heap.size + 1 + 1, i, none⟩ = false := fun i => by simp [World.frozen?, hq3]
    clear hq1 hq2 hq3
    refine bodyPost_ret (v := .tuple #[.agg #[.int .i64 0, .int .i64 0, .string ⟨#[]⟩, .slice none 0 0, .slice none 0 0, .slice none 0 0], .int .i64 2]) (by simp [results, Tryz.results22, go_sem, x0, x1, x2, x3, x4, x5]) rfl ?_
    exact ⟨zeroV0, 0, 0, ⟨#[]⟩, none, none, none, 0, 0, 0, 0, 0, 0, 2, rfl, vr_plain' 0 0 (by decide) (by decide), .inl rfl, HBW0.out⟩
  · go_enter Tryz.func22, Tryz.ntmps22
    go_wp2_with fail
    rw [← HW0.out]
    obtain ⟨hq1, hq2, hq3⟩ := HFAR.out W0 (Below.refl _ _)
    have x0 : W0.cell? ⟨w.heap.size + 1 + 1, 0, none⟩ = some (.int .i64 0) := by simp [World.cell?, hq3]
    have x1 : W0.cell? ⟨w.heap.size + 1 + 1, 1, none⟩ = some (.int .i64 0) := by simp [World.cell?, hq3]
    have x2 : W0.cell? ⟨w.heap.size + 1 + 1, 2, none⟩ = some (.string ⟨#[]⟩) := by simp [World.cell?, hq3]
    have x3 : W0.cell? ⟨w.heap.size + 1 + 1, 3, none⟩ = some (.slice none 0 0) := by simp [World.cell?, hq3]
    have x4 : W0.cell? ⟨w.heap.size + 1 + 1, 4, none⟩ = some (.slice none 0 0) := by simp [World.cell?, hq3]
    have x5 : W0.cell? ⟨w.heap.size + 1 + 1, 5, none⟩ = some (.slice none 0 0) := by simp [World.cell?, hq3]
    have xf : ∀ i, W0.frozen? ⟨w.heap.size + 1 + 1, i, none⟩ = false := fun i => by simp [World.frozen?, hq3]
    clear hq1 hq2 hq3
    refine bodyPost_ret (v := .tuple #[.agg #[.int .i64 0, .int .i64 0, .string ⟨#[]⟩, .slice none 0 0, .slice none 0 0, .slice none 0 0], .int .i64 1]) (by simp [results, Tryz.results22, go_sem, x0, x1, x2, x3, x4, x5]) rfl ?_
    exact ⟨zeroV0, 0, 0, ⟨#[]⟩, none, none, none, 0, 0, 0, 0, 0, 0, 1, rfl, vr_plain' 0 0 (by decide) (by decide), .inr (.inl ⟨rfl, .none (by simp [V.kind]) (by simp [V.kind]) (by simp [V.kind]) (by simp [V.kind]) (by simp [V.kind]) (by simp [V.kind])⟩), HBW0.out⟩
  · go_enter Tryz.func22, Tryz.ntmps22
    go_wp2_with fail
    rw [← HW0.out]
    obtain ⟨hq1, hq2, hq3⟩ := HFAR.out W0 (Below.refl _ _)
    have x0 : W0.cell? ⟨w.heap.size + 1 + 1, 0, none⟩ = some (.int .i64 0) := by simp [World.cell?, hq3]
    have x1 : W0.cell? ⟨w.heap.size + 1 + 1, 1, none⟩ = some (.int .i64 0) := by simp [World.cell?, hq3]
    have x2 : W0.cell? ⟨w.heap.size + 1 + 1, 2, none⟩ = some (.string ⟨#[]⟩) := by simp [World.cell?, hq3]
    have x3 : W0.cell? ⟨w.heap.size + 1 + 1, 3, none⟩ = some (.slice none 0 0) := by simp [World.cell?, hq3]
    have x4 : W0.cell? ⟨w.heap.size + 1 + 1, 4, none⟩ = some (.slice none 0 0) := by simp [World.cell?, hq3]
    have x5 : W0.cell? ⟨w.heap.size + 1 + 1, 5, none⟩ = some (.slice none 0 0) := by simp [World.cell?, hq3]
    have xf : ∀ i, W0.frozen? ⟨w.heap.size + 1 + 1, i, none⟩ = false := fun i => by simp [World.frozen?, hq3]
    clear hq1 hq2 hq3
    refine bodyPost_ret (v := .tuple #[.agg #[.int .i64 0, .int .i64 0, .string ⟨#[]⟩, .slice none 0 0, .slice none 0 0, .slice none 0 0], .int .i64 1]) (by simp [results, Tryz.results22, go_sem, x0, x1, x2, x3, x4, x5]) rfl ?_
    exact ⟨zeroV0, 0, 0, ⟨#[]⟩, none, none, none, 0, 0, 0, 0, 0, 0, 1, rfl, vr_plain' 0 0 (by decide) (by decide), .inr (.inl ⟨rfl, .none (by simp [V.kind]) (by simp [V.kind]) (by simp [V.kind]) (by simp [V.kind]) (by simp [V.kind]) (by simp [V.kind])⟩), HBW0.out⟩
  · go_enter Tryz.func22, Tryz.ntmps22
    go_wp2_with fail
    rw [← HW0.out]
    obtain ⟨hq1, hq2, hq3⟩ := HFAR.out W0 (Below.refl _ _)
    have x0 : W0.cell? ⟨w.heap.size + 1 + 1, 0, none⟩ = some (.int .i64 0) := by simp [World.cell?, hq3]
    have x1 : W0.cell? ⟨w.heap.size + 1 + 1, 1, none⟩ = some (.int .i64 0) := by simp [World.cell?, hq3]
    have x2 : W0.cell? ⟨w.heap.size + 1 + 1, 2, none⟩ = some (.string ⟨#[]⟩) := by simp [World.cell?, hq3]
    have x3 : W0.cell? ⟨w.heap.size + 1 + 1, 3, none⟩ = some (.slice none 0 0) := by simp [World.cell?, hq3]
    have x4 : W0.cell? ⟨w.heap.size + 1 + 1, 4, none⟩ = some (.slice none 0 0) := by simp [World.cell?, hq3]
    have x5 : W0.cell? ⟨w.heap.size + 1 + 1, 5, none⟩ = some (.slice none 0 0) := by simp [World.cell?, hq3]
    have xf : ∀ i, W0.frozen? ⟨w.heap.size + 1 + 1, i, none⟩ = false := fun i => by simp [World.frozen?, hq3]
    clear hq1 hq2 hq3
    refine bodyPost_ret (v := .tuple #[.agg #[.int .i64 0, .int .i64 0, .string ⟨#[]⟩, .slice none 0 0, .slice none 0 0, .slice none 0 0], .int .i64 1]) (by simp [results, Tryz.results22, go_sem, x0, x1, x2, x3, x4, x5]) rfl ?_
    exact ⟨zeroV0, 0, 0, ⟨#[]⟩, none, none, none, 0, 0, 0, 0, 0, 0, 1, rfl, vr_plain' 0 0 (by decide) (by decide), .inr (.inl ⟨rfl, .none (by simp [V.kind]) (by simp [V.kind]) (by simp [V.kind]) (by simp [V.kind]) (by simp [V.kind]) (by simp [V.kind])⟩), HBW0.out⟩
  · go_enter Tryz.func22, Tryz.ntmps22
    go_wp2_with fail
    rw [← HW0.out]
    obtain ⟨hq1, hq2, hq3⟩ := HFAR.out W0 (Below.refl _ _)
    have x0 : W0.cell? ⟨w.heap.size + 1 + 1, 0, none⟩ = some (.int .i64 0) := by simp [World.cell?, hq3]
    have x1 : W0.cell? ⟨w.heap.size + 1 + 1, 1, none⟩ = some (.int .i64 0) := by simp [World.cell?, hq3]
    have x2 : W0.cell? ⟨w.heap.size + 1 + 1, 2, none⟩ = some (.string ⟨#[]⟩) := by simp [World.cell?, hq3]
    have x3 : W0.cell? ⟨w.heap.size + 1 + 1, 3, none⟩ = some (.slice none 0 0) := by simp [World.cell?, hq3]
    have x4 : W0.cell? ⟨w.heap.size + 1 + 1, 4, none⟩ = some (.slice none 0 0) := by simp [World.cell?, hq3]
    have x5 : W0.cell? ⟨w.heap.size + 1 + 1, 5, none⟩ = some (.slice none 0 0) := by simp [World.cell?, hq3]
    have xf : ∀ i, W0.frozen? ⟨w.heap.size + 1 + 1, i, none⟩ = false := fun i => by simp [World.frozen?, hq3]
    clear hq1 hq2 hq3
    refine bodyPost_ret (v := .tuple #[.agg #[.int .i64 0, .int .i64 0, .string ⟨#[]⟩, .slice none 0 0, .slice none 0 0, .slice none 0 0], .int .i64 1]) (by simp [results, Tryz.results22, go_sem, x0, x1, x2, x3, x4, x5]) rfl ?_
    exact ⟨zeroV0, 0, 0, ⟨#[]⟩, none, none, none, 0, 0, 0, 0, 0, 0, 1, rfl, vr_plain' 0 0 (by decide) (by decide), .inr (.inl ⟨rfl, .none (by simp [V.kind]) (by simp [V.kind]) (by simp [V.kind]) (by simp [V.kind]) (by simp [V.kind]) (by simp [V.kind])⟩), HBW0.out⟩
  · go_enter Tryz.func22, Tryz.ntmps22
    go_wp2_with fail
    rw [← HW0.out]
    obtain ⟨hq1, hq2, hq3⟩ := HFAR.out W0 (Below.refl _ _)
    have x0 : W0.cell? ⟨w.heap.size + 1 + 1, 0, none⟩ = some (.int .i64 0) := by simp [World.cell?, hq3]
    have x1 : W0.cell? ⟨w.heap.size + 1 + 1, 1, none⟩ = some (.int .i64 0) := by simp [World.cell?, hq3]
    have x2 : W0.cell? ⟨w.heap.size + 1 + 1, 2, none⟩ = some (.string ⟨#[]⟩) := by simp [World.cell?, hq3]
    have x3 : W0.cell? ⟨w.heap.size + 1 + 1, 3, none⟩ = some (.slice none 0 0) := by simp [World.cell?, hq3]
    have x4 : W0.cell? ⟨w.heap.size + 1 + 1, 4, none⟩ = some (.slice none 0 0) := by simp [World.cell?, hq3]
    have x5 : W0.cell? ⟨w.heap.size + 1 + 1, 5, none⟩ = some (.slice none 0 0) := by simp [World.cell?, hq3]
    have xf : ∀ i, W0.frozen? ⟨w.heap.size + 1 + 1, i, none⟩ = false := fun i => by simp [World.frozen?, hq3]
    clear hq1 hq2 hq3
    refine bodyPost_ret (v := .tuple #[.agg #[.int .i64 0, .int .i64 0, .string ⟨#[]⟩, .slice none 0 0, .slice none 0 0, .slice none 0 0], .int .i64 1]) (by simp [results, Tryz.results22, go_sem, x0, x1, x2, x3, x4, x5]) rfl ?_
    exact ⟨zeroV0, 0, 0, ⟨#[]⟩, none, none, none, 0, 0, 0, 0, 0, 0, 1, rfl, vr_plain' 0 0 (by decide) (by decide), .inr (.inl ⟨rfl, .none (by simp [V.kind]) (by simp [V.kind]) (by simp [V.kind]) (by simp [V.kind]) (by simp [V.kind]) (by simp [V.kind])⟩), HBW0.out⟩
  · go_enter Tryz.func22, Tryz.ntmps22
    go_wp2_with fail
    rw [← HW0.out]
    obtain ⟨hq1, hq2, hq3⟩ := HFAR.out W0 (Below.refl _ _)
    have x0 : W0.cell? ⟨w.heap.size + 1 + 1, 0, none⟩ = some (.int .i64 0) := by simp [World.cell?, hq3]
    have x1 : W0.cell? ⟨w.heap.size + 1 + 1, 1, none⟩ = some (.int .i64 0) := by simp [World.cell?, hq3]
    have x2 : W0.cell? ⟨w.heap.size + 1 + 1, 2, none⟩ = some (.string ⟨#[]⟩) := by simp [World.cell?, hq3]
    have x3 : W0.cell? ⟨w.heap.size + 1 + 1, 3, none⟩ = some (.slice none 0 0) := by simp [World.cell?, hq3]
    have x4 : W0.cell? ⟨w.heap.size + 1 + 1, 4, none⟩ = some (.slice none 0 0) := by simp [World.cell?, hq3]
    have x5 : W0.cell? ⟨w.heap.size + 1 + 1, 5, none⟩ = some (.slice none 0 0) := by simp [World.cell?, hq3]
    have xf : ∀ i, W0.frozen? ⟨w.heap.size + 1 + 1, i, none⟩ = false := fun i => by simp [World.frozen?, hq3]
    clear hq1 hq2 hq3
    refine bodyPost_ret (v := .tuple #[.agg #[.int .i64 0, .int .i64 0, .string ⟨#[]⟩, .slice none 0 0, .slice none 0 0, .slice none 0 0], .int .i64 1]) (by simp [results, Tryz.results22, go_sem, x0, x1, x2, x3, x4, x5]) rfl ?_
    exact ⟨zeroV0, 0, 0, ⟨#[]⟩, none, none, none, 0, 0, 0, 0, 0, 0, 1, rfl, vr_plain' 0 0 (by decide) (by decide), .inr (.inl ⟨rfl, .none (by simp [V.kind]) (by simp [V.kind]) (by simp [V.kind]) (by simp [V.kind]) (by simp [V.kind]) (by simp [V.kind])⟩), HBW0.out⟩
set_option maxHeartbeats 8000000 in
theorem specIndex_k1 (v k : V) (ok : Nat → Prop) (cs1 cs2 : List Value) (w : World) (hv : Vr w ok v cs1) (hk : Vr w ok k cs2) (wv : WF v) (wk : WF k) (hkk : k.kind = 1) (lv : v.list.length ≤ 1000000) (tv : v.text.size ≤ 2000) (vv : Lib.validD v.text.data.toList = true) :
    Calls Tryz.prog 22 #[.agg cs1.toArray, .agg cs2.toArray] w (IdxPost ok (IdxS v k) w) := by
  have HV1 := Lib.hid hv
  have HV2 := Lib.hid hk
  have HWV := Lib.hid wv
  have HK := Lib.hid wk
  have HLV := Lib.hid lv
  have HTV := Lib.hid tv
  have HVV := Lib.hid vv
  have hkv : v.kind = 0 ∨ v.kind = 1 ∨ v.kind = 2 ∨ v.kind = 3 ∨ v.kind = 4 ∨ v.kind = 5 ∨ v.kind = 6 := by
    rcases kinds wv with ⟨h, _⟩ | ⟨h, _⟩ | ⟨h, _⟩ | ⟨h, _⟩ | ⟨h, _⟩ | ⟨h, _⟩ | ⟨h, _⟩ | ⟨h, _⟩ <;> omega
  obtain ⟨k1, h1, t1, l1, ks1, vs1, P1, p1, Q1, q1, R1, r1, f1, g1, i1, i2, i3, i4, i5, i6, i7, i8, i9, i10, ra, ea, i13, i14, i15⟩ := hv
  have hrow : RowAt w ok 6 P1 l1.length f1 := ra
  have hel := ea
  clear i1 i2 i3 i4 i5 i6 i7 i8 i9 i10 i13 i14 i15 ra ea
  obtain ⟨k2, h2, t2, l2, ks2, vs2, P2, p2, Q2, q2, R2, r2, f2, g2, i1, i2, i3, i4, i5, i6, i7, i8, i9, i10, i11, i12, i13, i14, i15⟩ := hk
  clear i1 i2 i3 i4 i5 i6 i7 i8 i9 i10 i11 i12 i13 i14 i15
  simp only [V.kind] at hkk
  subst hkk
  obtain ⟨nl, hnl⟩ : ∃ nl, nl = l1.length := ⟨_, rfl⟩
  rw [← hnl] at HV1 hrow ⊢
  have HNL := Lib.hid hnl
  have HROW := Lib.hid hrow
  have HEL := Lib.hid hel
  have hnl6 : nl ≤ 1000000 := by rw [hnl]; exact lv
  clear hnl hrow hel lv tv vv wv wk
  obtain ⟨W0, hW0⟩ : ∃ W0, W0 = ((w.alloc (.cells #[.int .i64 k1, .int .i64 h1, .string t1, .slice P1 nl p1, .slice Q1 ks1.length q1, .slice R1 vs1.length r1] 26)).alloc (.cells #[.int .i64 1, .int .i64 h2, .string t2, .slice P2 l2.length p2, .slice Q2 ks2.length q2, .slice R2 vs2.length r2] 26)).alloc (.cells #[.int .i64 0, .int .i64 0, .string ⟨#[]⟩, .slice none 0 0, .slice none 0 0, .slice none 0 0] 26) := ⟨_, rfl⟩
  have hBW0 : Below w.heap.size w W0 := by rw [hW0]; exact ((((Below.refl _ _).alloc (Nat.le_refl _) _).alloc (by (try simp); (try omega)) _).alloc (by (try simp); (try omega)) _)
  have hSW0 : W0.heap.size = w.heap.size + 3 := by rw [hW0]; simp
  have hD0 : W0.heap[w.heap.size]? = some (.cells #[.int .i64 k1, .int .i64 h1, .string t1, .slice P1 nl p1, .slice Q1 ks1.length q1, .slice R1 vs1.length r1] 26) := by
    rw [hW0]
    have := heap_alloc_new w (.cells #[.int .i64 k1, .int .i64 h1, .string t1, .slice P1 nl p1, .slice Q1 ks1.length q1, .slice R1 vs1.length r1] 26)
    exact (Below.heap_alloc _ _ _ (by (try simp); (try omega))).trans ((Below.heap_alloc _ _ _ (by (try simp); (try omega))).trans (this))
  have hD1 : W0.heap[w.heap.size + 1]? = some (.cells #[.int .i64 1, .int .i64 h2, .string t2, .slice P2 l2.length p2, .slice Q2 ks2.length q2, .slice R2 vs2.length r2] 26) := by
    rw [hW0]
    have := heap_alloc_new (w.alloc (.cells #[.int .i64 k1, .int .i64 h1, .string t1, .slice P1 nl p1, .slice Q1 ks1.length q1, .slice R1 vs1.length r1] 26)) (.cells #[.int .i64 1, .int .i64 h2, .string t2, .slice P2 l2.length p2, .slice Q2 ks2.length q2, .slice R2 vs2.length r2] 26)
    rw [show (w.alloc (.cells #[.int .i64 k1, .int .i64 h1, .string t1, .slice P1 nl p1, .slice Q1 ks1.length q1, .slice R1 vs1.length r1] 26)).heap.size = w.heap.size + 1 from by simp] at this
    exact (Below.heap_alloc _ _ _ (by (try simp); (try omega))).trans (this)
  have hD2 : W0.heap[w.heap.size + 2]? = some (.cells #[.int .i64 0, .int .i64 0, .string ⟨#[]⟩, .slice none 0 0, .slice none 0 0, .slice none 0 0] 26) := by
    rw [hW0]
    have := heap_alloc_new ((w.alloc (.cells #[.int .i64 k1, .int .i64 h1, .string t1, .slice P1 nl p1, .slice Q1 ks1.length q1, .slice R1 vs1.length r1] 26)).alloc (.cells #[.int .i64 1, .int .i64 h2, .string t2, .slice P2 l2.length p2, .slice Q2 ks2.length q2, .slice R2 vs2.length r2] 26)) (.cells #[.int .i64 0, .int .i64 0, .string ⟨#[]⟩, .slice none 0 0, .slice none 0 0, .slice none 0 0] 26)
    rw [show ((w.alloc (.cells #[.int .i64 k1, .int .i64 h1, .string t1, .slice P1 nl p1, .slice Q1 ks1.length q1, .slice R1 vs1.length r1] 26)).alloc (.cells #[.int .i64 1, .int .i64 h2, .string t2, .slice P2 l2.length p2, .slice Q2 ks2.length q2, .slice R2 vs2.length r2] 26)).heap.size = w.heap.size + 2 from by simp] at this
    exact this
  have hfar : ∀ W, Below W0.heap.size W0 W → W.heap[w.heap.size]? = some (.cells #[.int .i64 k1, .int .i64 h1, .string t1, .slice P1 nl p1, .slice Q1 ks1.length q1, .slice R1 vs1.length r1] 26) ∧ W.heap[w.heap.size + 1]? = some (.cells #[.int .i64 1, .int .i64 h2, .string t2, .slice P2 l2.length p2, .slice Q2 ks2.length q2, .slice R2 vs2.length r2] 26) ∧ W.heap[w.heap.size + 2]? = some (.cells #[.int .i64 0, .int .i64 0, .string ⟨#[]⟩, .slice none 0 0, .slice none 0 0, .slice none 0 0] 26) := fun W hb => ⟨(hb.block _ (by omega)).trans hD0, (hb.block _ (by omega)).trans hD1, (hb.block _ (by omega)).trans hD2⟩
  have HFAR := Lib.hid hfar
  have HW0 := Lib.hid hW0
  have HBW0 := Lib.hid hBW0
  have HSW0 := Lib.hid hSW0
  clear hfar hW0 hBW0 hSW0 hD0 hD1 hD2
  have HLE := Lib.hid (show w.heap.size ≤ w.heap.size + 1 + 1 by omega)
  simp only [V.kind] at hkv
  rcases hkv with rfl | rfl | rfl | rfl | rfl | rfl | rfl
  · go_enter Tryz.func22, Tryz.ntmps22
    go_wp2_with fail
    rw [← HW0.out]
    obtain ⟨hq1, hq2, hq3⟩ := HFAR.out W0 (Below.refl _ _)
    have x0 : W0.cell? ⟨w.heap.size + 1 + 1, 0, none⟩ = some (.int .i64 0) := by simp [World.cell?, hq3]
    have x1 : W0.cell? ⟨w.heap.size + 1 + 1, 1, none⟩ = some (.int .i64 0) := by simp [World.cell?, hq3]
    have x2 : W0.cell? ⟨w.heap.size + 1 + 1, 2, none⟩ = some (.string ⟨#[]⟩) := by simp [World.cell?, hq3]
    have x3 : W0.cell? ⟨w.heap.size + 1 + 1, 3, none⟩ = some (.slice none 0 0) := by simp [World.cell?, hq3]
    have x4 : W0.cell? ⟨w.heap.size + 1 + 1, 4, none⟩ = some (.slice none 0 0) := by simp [World.cell?, hq3]
    have x5 : W0.cell? ⟨w.heap.size + 1 + 1, 5, none⟩ = some (.slice none 0 0) := by simp [World.cell?, hq3]
    have xf : ∀ i, W0.frozen? ⟨w.heap.size + 1 + 1, i, none⟩ = false := fun i => by simp [World.frozen?, hq3]
    clear hq1 hq2 hq3
    refine bodyPost_ret (v := .tuple #[.agg #[.int .i64 0, .int .i64 0, .string ⟨#[]⟩, .slice none 0 0, .slice none 0 0, .slice none 0 0], .int .i64 2]) (by simp [results, Tryz.results22, go_sem, x0, x1, x2, x3, x4, x5]) rfl ?_
    exact ⟨zeroV0, 0, 0, ⟨#[]⟩, none, none, none, 0, 0, 0, 0, 0, 0, 2, rfl, vr_plain' 0 0 (by decide) (by decide), .inl rfl, HBW0.out⟩
  · go_enter Tryz.func22, Tryz.ntmps22
    go_wp2_with fail
    rw [← HW0.out]
    obtain ⟨hq1, hq2, hq3⟩ := HFAR.out W0 (Below.refl _ _)
    have x0 : W0.cell? ⟨w.heap.size + 1 + 1, 0, none⟩ = some (.int .i64 0) := by simp [World.cell?, hq3]
    have x1 : W0.cell? ⟨w.heap.size + 1 + 1, 1, none⟩ = some (.int .i64 0) := by simp [World.cell?, hq3]
    have x2 : W0.cell? ⟨w.heap.size + 1 + 1, 2, none⟩ = some (.string ⟨#[]⟩) := by simp [World.cell?, hq3]
    have x3 : W0.cell? ⟨w.heap.size + 1 + 1, 3, none⟩ = some (.slice none 0 0) := by simp [World.cell?, hq3]
    have x4 : W0.cell? ⟨w.heap.size + 1 + 1, 4, none⟩ = some (.slice none 0 0) := by simp [World.cell?, hq3]
    have x5 : W0.cell? ⟨w.heap.size + 1 + 1, 5, none⟩ = some (.slice none 0 0) := by simp [World.cell?, hq3]
    have xf : ∀ i, W0.frozen? ⟨w.heap.size + 1 + 1, i, none⟩ = false := fun i => by simp [World.frozen?, hq3]
    clear hq1 hq2 hq3
    refine bodyPost_ret (v := .tuple #[.agg #[.int .i64 0, .int .i64 0, .string ⟨#[]⟩, .slice none 0 0, .slice none 0 0, .slice none 0 0], .int .i64 1]) (by simp [results, Tryz.results22, go_sem, x0, x1, x2, x3, x4, x5]) rfl ?_
    exact ⟨zeroV0, 0, 0, ⟨#[]⟩, none, none, none, 0, 0, 0, 0, 0, 0, 1, rfl, vr_plain' 0 0 (by decide) (by decide), .inr (.inl ⟨rfl, .none (by simp [V.kind]) (by simp [V.kind]) (by simp [V.kind]) (by simp [V.kind]) (by simp [V.kind]) (by simp [V.kind])⟩), HBW0.out⟩
  · go_enter Tryz.func22, Tryz.ntmps22
    go_wp2_with fail
    rw [← HW0.out]
    obtain ⟨hq1, hq2, hq3⟩ := HFAR.out W0 (Below.refl _ _)
    have x0 : W0.cell? ⟨w.heap.size + 1 + 1, 0, none⟩ = some (.int .i64 0) := by simp [World.cell?, hq3]
    have x1 : W0.cell? ⟨w.heap.size + 1 + 1, 1, none⟩ = some (.int .i64 0) := by simp [World.cell?, hq3]
    have x2 : W0.cell? ⟨w.heap.size + 1 + 1, 2, none⟩ = some (.string ⟨#[]⟩) := by simp [World.cell?, hq3]
    have x3 : W0.cell? ⟨w.heap.size + 1 + 1, 3, none⟩ = some (.slice none 0 0) := by simp [World.cell?, hq3]
    have x4 : W0.cell? ⟨w.heap.size + 1 + 1, 4, none⟩ = some (.slice none 0 0) := by simp [World.cell?, hq3]
    have x5 : W0.cell? ⟨w.heap.size + 1 + 1, 5, none⟩ = some (.slice none 0 0) := by simp [World.cell?, hq3]
    have xf : ∀ i, W0.frozen? ⟨w.heap.size + 1 + 1, i, none⟩ = false := fun i => by simp [World.frozen?, hq3]
    clear hq1 hq2 hq3
    refine bodyPost_ret (v := .tuple #[.agg #[.int .i64 0, .int .i64 0, .string ⟨#[]⟩, .slice none 0 0, .slice none 0 0, .slice none 0 0], .int .i64 1]) (by simp [results, Tryz.results22, go_sem, x0, x1, x2, x3, x4, x5]) rfl ?_
    exact ⟨zeroV0, 0, 0, ⟨#[]⟩, none, none, none, 0, 0, 0, 0, 0, 0, 1, rfl, vr_plain' 0 0 (by decide) (by decide), .inr (.inl ⟨rfl, .none (by simp [V.kind]) (by simp [V.kind]) (by simp [V.kind]) (by simp [V.kind]) (by simp [V.kind]) (by simp [V.kind])⟩), HBW0.out⟩
  · go_enter Tryz.func22, Tryz.ntmps22
    go_wp2_with fail
    rw [← HW0.out]
    obtain ⟨hq1, hq2, hq3⟩ := HFAR.out W0 (Below.refl _ _)
    have x0 : W0.cell? ⟨w.heap.size + 1 + 1, 0, none⟩ = some (.int .i64 0) := by simp [World.cell?, hq3]
    have x1 : W0.cell? ⟨w.heap.size + 1 + 1, 1, none⟩ = some (.int .i64 0) := by simp [World.cell?, hq3]
    have x2 : W0.cell? ⟨w.heap.size + 1 + 1, 2, none⟩ = some (.string ⟨#[]⟩) := by simp [World.cell?, hq3]
    have x3 : W0.cell? ⟨w.heap.size + 1 + 1, 3, none⟩ = some (.slice none 0 0) := by simp [World.cell?, hq3]
    have x4 : W0.cell? ⟨w.heap.size + 1 + 1, 4, none⟩ = some (.slice none 0 0) := by simp [World.cell?, hq3]
    have x5 : W0.cell? ⟨w.heap.size + 1 + 1, 5, none⟩ = some (.slice none 0 0) := by simp [World.cell?, hq3]
    have xf : ∀ i, W0.frozen? ⟨w.heap.size + 1 + 1, i, none⟩ = false := fun i => by simp [World.frozen?, hq3]
    clear hq1 hq2 hq3
    refine bodyPost_ret (v := .tuple #[.agg #[.int .i64 0, .int .i64 0, .string ⟨#[]⟩, .slice none 0 0, .slice none 0 0, .slice none 0 0], .int .i64 1]) (by simp [results, Tryz.results22, go_sem, x0, x1, x2, x3, x4, x5]) rfl ?_
    exact ⟨zeroV0, 0, 0, ⟨#[]⟩, none, none, none, 0, 0, 0, 0, 0, 0, 1, rfl, vr_plain' 0 0 (by decide) (by decide), .inr (.inl ⟨rfl, .none (by simp [V.kind]) (by simp [V.kind]) (by simp [V.kind]) (by simp [V.kind]) (by simp [V.kind]) (by simp [V.kind])⟩), HBW0.out⟩
  · go_enter Tryz.func22, Tryz.ntmps22
    go_wp2_with fail
    rw [← HW0.out]
    obtain ⟨hq1, hq2, hq3⟩ := HFAR.out W0 (Below.refl _ _)
    have x0 : W0.cell? ⟨w.heap.size + 1 + 1, 0, none⟩ = some (.int .i64 0) := by simp [World.cell?, hq3]
    have x1 : W0.cell? ⟨w.heap.size + 1 + 1, 1, none⟩ = some (.int .i64 0) := by simp [World.cell?, hq3]
    have x2 : W0.cell? ⟨w.heap.size + 1 + 1, 2, none⟩ = some (.string ⟨#[]⟩) := by simp [World.cell?, hq3]
    have x3 : W0.cell? ⟨w.heap.size + 1 + 1, 3, none⟩ = some (.slice none 0 0) := by simp [World.cell?, hq3]
    have x4 : W0.cell? ⟨w.heap.size + 1 + 1, 4, none⟩ = some (.slice none 0 0) := by simp [World.cell?, hq3]
    have x5 : W0.cell? ⟨w.heap.size + 1 + 1, 5, none⟩ = some (.slice none 0 0) := by simp [World.cell?, hq3]
    have xf : ∀ i, W0.frozen? ⟨w.heap.size + 1 + 1, i, none⟩ = false := fun i => by simp [World.frozen?, hq3]
    clear hq1 hq2 hq3
    refine bodyPost_ret (v := .tuple #[.agg #[.int .i64 0, .int .i64 0, .string ⟨#[]⟩, .slice none 0 0, .slice none 0 0, .slice none 0 0], .int .i64 1]) (by simp [results, Tryz.results22, go_sem, x0, x1, x2, x3, x4, x5]) rfl ?_
    exact ⟨zeroV0, 0, 0, ⟨#[]⟩, none, none, none, 0, 0, 0, 0, 0, 0, 1, rfl, vr_plain' 0 0 (by decide) (by decide), .inr (.inl ⟨rfl, .none (by simp [V.kind]) (by simp [V.kind]) (by simp [V.kind]) (by simp [V.kind]) (by simp [V.kind]) (by simp [V.kind])⟩), HBW0.out⟩
  · go_enter Tryz.func22, Tryz.ntmps22
    go_wp2_with fail
    rw [← HW0.out]
    obtain ⟨hq1, hq2, hq3⟩ := HFAR.out W0 (Below.refl _ _)
    have x0 : W0.cell? ⟨w.heap.size + 1 + 1, 0, none⟩ = some (.int .i64 0) := by simp [World.cell?, hq3]
    have x1 : W0.cell? ⟨w.heap.size + 1 + 1, 1, none⟩ = some (.int .i64 0) := by simp [World.cell?, hq3]
    have x2 : W0.cell? ⟨w.heap.size + 1 + 1, 2, none⟩ = some (.string ⟨#[]⟩) := by simp [World.cell?, hq3]
    have x3 : W0.cell? ⟨w.heap.size + 1 + 1, 3, none⟩ = some (.slice none 0 0) := by simp [World.cell?, hq3]
    have x4 : W0.cell? ⟨w.heap.size + 1 + 1, 4, none⟩ = some (.slice none 0 0) := by simp [World.cell?, hq3]
    have x5 : W0.cell? ⟨w.heap.size + 1 + 1, 5, none⟩ = some (.slice none 0 0) := by simp [World.cell?, hq3]
    have xf : ∀ i, W0.frozen? ⟨w.heap.size + 1 + 1, i, none⟩ = false := fun i => by simp [World.frozen?, hq3]
    clear hq1 hq2 hq3
    refine bodyPost_ret (v := .tuple #[.agg #[.int .i64 0, .int .i64 0, .string ⟨#[]⟩, .slice none 0 0, .slice none 0 0, .slice none 0 0], .int .i64 1]) (by simp [results, Tryz.results22, go_sem, x0, x1, x2, x3, x4, x5]) rfl ?_
    exact ⟨zeroV0, 0, 0, ⟨#[]⟩, none, none, none, 0, 0, 0, 0, 0, 0, 1, rfl, vr_plain' 0 0 (by decide) (by decide), .inr (.inl ⟨rfl, .none (by simp [V.kind]) (by simp [V.kind]) (by simp [V.kind]) (by simp [V.kind]) (by simp [V.kind]) (by simp [V.kind])⟩), HBW0.out⟩
  · go_enter Tryz.func22, Tryz.ntmps22
    go_wp2_with fail
    rw [← HW0.out]
    obtain ⟨hq1, hq2, hq3⟩ := HFAR.out W0 (Below.refl _ _)
    have x0 : W0.cell? ⟨w.heap.size + 1 + 1, 0, none⟩ = some (.int .i64 0) := by simp [World.cell?, hq3]
    have x1 : W0.cell? ⟨w.heap.size + 1 + 1, 1, none⟩ = some (.int .i64 0) := by simp [World.cell?, hq3]
    have x2 : W0.cell? ⟨w.heap.size + 1 + 1, 2, none⟩ = some (.string ⟨#[]⟩) := by simp [World.cell?, hq3]
    have x3 : W0.cell? ⟨w.heap.size + 1 + 1, 3, none⟩ = some (.slice none 0 0) := by simp [World.cell?, hq3]
    have x4 : W0.cell? ⟨w.heap.size + 1 + 1, 4, none⟩ = some (.slice none 0 0) := by simp [World.cell?, hq3]
    have x5 : W0.cell? ⟨w.heap.size + 1 + 1, 5, none⟩ = some (.slice none 0 0) := by simp [World.cell?, hq3]
    have xf : ∀ i, W0.frozen? ⟨w.heap.size + 1 + 1, i, none⟩ = false := fun i => by simp [World.frozen?, hq3]
    clear hq1 hq2 hq3
    refine bodyPost_ret (v := .tuple #[.agg #[.int .i64 0, .int .i64 0, .string ⟨#[]⟩, .slice none 0 0, .slice none 0 0, .slice none 0 0], .int .i64 1]) (by simp [results, Tryz.results22, go_sem, x0, x1, x2, x3, x4, x5]) rfl ?_
    exact ⟨zeroV0, 0, 0, ⟨#[]⟩, none, none, none, 0, 0, 0, 0, 0, 0, 1, rfl, vr_plain' 0 0 (by decide) (by decide), .inr (.inl ⟨rfl, .none (by simp [V.kind]) (by simp [V.kind]) (by simp [V.kind]) (by simp [V.kind]) (by simp [V.kind]) (by simp [V.kind])⟩), HBW0.out⟩
set_option maxHeartbeats 8000000 in
theorem specIndex_k2 (v k : V) (ok : Nat → Prop) (cs1 cs2 : List Value) (w : World) (hv : Vr w ok v cs1) (hk : Vr w ok k cs2) (wv : WF v) (wk : WF k) (hkk : k.kind = 2) (lv : v.list.length ≤ 1000000) (tv : v.text.size ≤ 2000) (vv : Lib.validD v.text.data.toList = true) :
    Calls Tryz.prog 22 #[.agg cs1.toArray, .agg cs2.toArray] w (IdxPost ok (IdxS v k) w) := by
  have HV1 := Lib.hid hv
  have HV2 := Lib.hid hk
  have HWV := Lib.hid wv
  have HK := Lib.hid wk
  have HLV := Lib.hid lv
  have HTV := Lib.hid tv
  have HVV := Lib.hid vv
  have hkv : v.kind = 0 ∨ v.kind = 1 ∨ v.kind = 2 ∨ v.kind = 3 ∨ v.kind = 4 ∨ v.kind = 5 ∨ v.kind = 6 := by
    rcases kinds wv with ⟨h, _⟩ | ⟨h, _⟩ | ⟨h, _⟩ | ⟨h, _⟩ | ⟨h, _⟩ | ⟨h, _⟩ | ⟨h, _⟩ | ⟨h, _⟩ <;> omega
  obtain ⟨k1, h1, t1, l1, ks1, vs1, P1, p1, Q1, q1, R1, r1, f1, g1, i1, i2, i3, i4, i5, i6, i7, i8, i9, i10, ra, ea, i13, i14, i15⟩ := hv
  have hrow : RowAt w ok 6 P1 l1.length f1 := ra
  have hel := ea
  clear i1 i2 i3 i4 i5 i6 i7 i8 i9 i10 i13 i14 i15 ra ea
  obtain ⟨k2, h2, t2, l2, ks2, vs2, P2, p2, Q2, q2, R2, r2, f2, g2, i1, i2, i3, i4, i5, i6, i7, i8, i9, i10, i11, i12, i13, i14, i15⟩ := hk
  clear i1 i2 i3 i4 i5 i6 i7 i8 i9 i10 i11 i12 i13 i14 i15
  simp only [V.kind] at hkk
  subst hkk
  obtain ⟨nl, hnl⟩ : ∃ nl, nl = l1.length := ⟨_, rfl⟩
  rw [← hnl] at HV1 hrow ⊢
  have HNL := Lib.hid hnl
  have HROW := Lib.hid hrow
  have HEL := Lib.hid hel
  have hnl6 : nl ≤ 1000000 := by rw [hnl]; exact lv
  clear hnl hrow hel lv tv vv wv wk
  obtain ⟨W0, hW0⟩ : ∃ W0, W0 = ((w.alloc (.cells #[.int .i64 k1, .int .i64 h1, .string t1, .slice P1 nl p1, .slice Q1 ks1.length q1, .slice R1 vs1.length r1] 26)).alloc (.cells #[.int .i64 2, .int .i64 h2, .string t2, .slice P2 l2.length p2, .slice Q2 ks2.length q2, .slice R2 vs2.length r2] 26)).alloc (.cells #[.int .i64 0, .int .i64 0, .string ⟨#[]⟩, .slice none 0 0, .slice none 0 0, .slice none 0 0] 26) := ⟨_, rfl⟩
  have hBW0 : Below w.heap.size w W0 := by rw [hW0]; exact ((((Below.refl _ _).alloc (Nat.le_refl _) _).alloc (by (try simp); (try omega)) _).alloc (by (try simp); (try omega)) _)
  have hSW0 : W0.heap.size = w.heap.size + 3 := by rw [hW0]; simp
  have hD0 : W0.heap[w.heap.size]? = some (.cells #[.int .i64 k1, .int .i64 h1, .string t1, .slice P1 nl p1, .slice Q1 ks1.length q1, .slice R1 vs1.length r1] 26) := by
    rw [hW0]
    have := heap_alloc_new w (.cells #[.int .i64 k1, .int .i64 h1, .string t1, .slice P1 nl p1, .slice Q1 ks1.length q1, .slice R1 vs1.length r1] 26)
    exact (Below.heap_alloc _ _ _ (by (try simp); (try omega))).trans ((Below.heap_alloc _ _ _ (by (try simp); (try omega))).trans (this))
  have hD1 : W0.heap[w.heap.size + 1]? = some (.cells #[.int .i64 2, .int .i64 h2, .string t2, .slice P2 l2.length p2, .slice Q2 ks2.length q2, .slice R2 vs2.length r2] 26) := by
    rw [hW0]
    have := heap_alloc_new (w.alloc (.cells #[.int .i64 k1, .int .i64 h1, .string t1, .slice P1 nl p1, .slice Q1 ks1.length q1, .slice R1 vs1.length r1] 26)) (.cells #[.int .i64 2, .int .i64 h2, .string t2, .slice P2 l2.length p2, .slice Q2 ks2.length q2, .slice R2 vs2.length r2] 26)
    rw [show (w.alloc (.cells #[.int .i64 k1, .int .i64 h1, .string t1, .slice P1 nl p1, .slice Q1 ks1.length q1, .slice R1 vs1.length r1] 26)).heap.size = w.heap.size + 1 from by simp] at this
    exact (Below.heap_alloc _ _ _ (by (try simp); (try omega))).trans (this)
  have hD2 : W0.heap[w.heap.size + 2]? = some (.cells #[.int .i64 0, .int .i64 0, .string ⟨#[]⟩, .slice none 0 0, .slice none 0 0, .slice none 0 0] 26) := by
    rw [hW0]
    have := heap_alloc_new ((w.alloc (.cells #[.int .i64 k1, .int .i64 h1, .string t1, .slice P1 nl p1, .slice Q1 ks1.length q1, .slice R1 vs1.length r1] 26)).alloc (.cells #[.int .i64 2, .int .i64 h2, .string t2, .slice P2 l2.length p2, .slice Q2 ks2.length q2, .slice R2 vs2.length r2] 26)) (.cells #[.int .i64 0, .int .i64 0, .string ⟨#[]⟩, .slice none 0 0, .slice none 0 0, .slice none 0 0] 26)
    rw [show ((w.alloc (.cells #[.int .i64 k1, .int .i64 h1, .string t1, .slice P1 nl p1, .slice Q1 ks1.length q1, .slice R1 vs1.length r1] 26)).alloc (.cells #[.int .i64 2, .int .i64 h2, .string t2, .slice P2 l2.length p2, .slice Q2 ks2.length q2, .slice R2 vs2.length r2] 26)).heap.size = w.heap.size + 2 from by simp] at this
    exact this
  have hfar : ∀ W, Below W0.heap.size W0 W → W.heap[w.heap.size]? = some (.cells #[.int .i64 k1, .int .i64 h1, .string t1, .slice P1 nl p1, .slice Q1 ks1.length q1, .slice R1 vs1.length r1] 26) ∧ W.heap[w.heap.size + 1]? = some (.cells #[.int .i64 2, .int .i64 h2, .string t2, .slice P2 l2.length p2, .slice Q2 ks2.length q2, .slice R2 vs2.length r2] 26) ∧ W.heap[w.heap.size + 2]? = some (.cells #[.int .i64 0, .int .i64 0, .string ⟨#[]⟩, .slice none 0 0, .slice none 0 0, .slice none 0 0] 26) := fun W hb => ⟨(hb.block _ (by omega)).trans hD0, (hb.block _ (by omega)).trans hD1, (hb.block _ (by omega)).trans hD2⟩
  have HFAR := Lib.hid hfar
  have HW0 := Lib.hid hW0
  have HBW0 := Lib.hid hBW0
  have HSW0 := Lib.hid hSW0
  clear hfar hW0 hBW0 hSW0 hD0 hD1 hD2
  have HLE := Lib.hid (show w.heap.size ≤ w.heap.size + 1 + 1 by omega)
  simp only [V.kind] at hkv
  rcases hkv with rfl | rfl | rfl | rfl | rfl | rfl | rfl
  · go_enter Tryz.func22, Tryz.ntmps22
    go_wp2_with fail
    rw [← HW0.out]
    obtain ⟨hq1, hq2, hq3⟩ := HFAR.out W0 (Below.refl _ _)
    have x0 : W0.cell? ⟨w.heap.size + 1 + 1, 0, none⟩ = some (.int .i64 0) := by simp [World.cell?, hq3]
    have x1 : W0.cell? ⟨w.heap.size + 1 + 1, 1, none⟩ = some (.int .i64 0) := by simp [World.cell?, hq3]
    have x2 : W0.cell? ⟨w.heap.size + 1 + 1, 2, none⟩ = some (.string ⟨#[]⟩) := by simp [World.cell?, hq3]
    have x3 : W0.cell? ⟨w.heap.size + 1 + 1, 3, none⟩ = some (.slice none 0 0) := by simp [World.cell?, hq3]
    have x4 : W0.cell? ⟨w.heap.size + 1 + 1, 4, none⟩ = some (.slice none 0 0) := by simp [World.cell?, hq3]
    have x5 : W0.cell? ⟨w.heap.size + 1 + 1, 5, none⟩ = some (.slice none 0 0) := by simp [World.cell?, hq3]
    have xf : ∀ i, W0.frozen? ⟨w.heap.size + 1 + 1, i, none⟩ = false := fun i => by simp [World.frozen?, hq3]
    clear hq1 hq2 hq3
    refine bodyPost_ret (v := .tuple #[.agg #[.int .i64 0, .int .i64 0, .string ⟨#[]⟩, .slice none 0 0, .slice none 0 0, .slice none 0 0], .int .i64 2]) (by simp [results, Tryz.results22, go_sem, x0, x1, x2, x3, x4, x5]) rfl ?_
    exact ⟨zeroV0, 0, 0, ⟨#[]⟩, none, none, none, 0, 0, 0, 0, 0, 0, 2, rfl, vr_plain' 0 0 (by decide) (by decide), .inl rfl, HBW0.out⟩
  · go_enter Tryz.func22, Tryz.ntmps22
    go_wp2_with fail
    rw [← HW0.out]
    obtain ⟨hq1, hq2, hq3⟩ := HFAR.out W0 (Below.refl _ _)
    have x0 : W0.cell? ⟨w.heap.size + 1 + 1, 0, none⟩ = some (.int .i64 0) := by simp [World.cell?, hq3]
    have x1 : W0.cell? ⟨w.heap.size + 1 + 1, 1, none⟩ = some (.int .i64 0) := by simp [World.cell?, hq3]
    have x2 : W0.cell? ⟨w.heap.size + 1 + 1, 2, none⟩ = some (.string ⟨#[]⟩) := by simp [World.cell?, hq3]
    have x3 : W0.cell? ⟨w.heap.size + 1 + 1, 3, none⟩ = some (.slice none 0 0) := by simp [World.cell?, hq3]
    have x4 : W0.cell? ⟨w.heap.size + 1 + 1, 4, none⟩ = some (.slice none 0 0) := by simp [World.cell?, hq3]
    have x5 : W0.cell? ⟨w.heap.size + 1 + 1, 5, none⟩ = some (.slice none 0 0) := by simp [World.cell?, hq3]
    have xf : ∀ i, W0.frozen? ⟨w.heap.size + 1 + 1, i, none⟩ = false := fun i => by simp [World.frozen?, hq3]
    clear hq1 hq2 hq3
    refine bodyPost_ret (v := .tuple #[.agg #[.int .i64 0, .int .i64 0, .string ⟨#[]⟩, .slice none 0 0, .slice none 0 0, .slice none 0 0], .int .i64 1]) (by simp [results, Tryz.results22, go_sem, x0, x1, x2, x3, x4, x5]) rfl ?_
    exact ⟨zeroV0, 0, 0, ⟨#[]⟩, none, none, none, 0, 0, 0, 0, 0, 0, 1, rfl, vr_plain' 0 0 (by decide) (by decide), .inr (.inl ⟨rfl, .none (by simp [V.kind]) (by simp [V.kind]) (by simp [V.kind]) (by simp [V.kind]) (by simp [V.kind]) (by simp [V.kind])⟩), HBW0.out⟩
  · go_enter Tryz.func22, Tryz.ntmps22
    go_wp2_with fail
    rw [← HW0.out]
    obtain ⟨hq1, hq2, hq3⟩ := HFAR.out W0 (Below.refl _ _)
    have x0 : W0.cell? ⟨w.heap.size + 1 + 1, 0, none⟩ = some (.int .i64 0) := by simp [World.cell?, hq3]
    have x1 : W0.cell? ⟨w.heap.size + 1 + 1, 1, none⟩ = some (.int .i64 0) := by simp [World.cell?, hq3]
    have x2 : W0.cell? ⟨w.heap.size + 1 + 1, 2, none⟩ = some (.string ⟨#[]⟩) := by simp [World.cell?, hq3]
    have x3 : W0.cell? ⟨w.heap.size + 1 + 1, 3, none⟩ = some (.slice none 0 0) := by simp [World.cell?, hq3]
    have x4 : W0.cell? ⟨w.heap.size + 1 + 1, 4, none⟩ = some (.slice none 0 0) := by simp [World.cell?, hq3]
    have x5 : W0.cell? ⟨w.heap.size + 1 + 1, 5, none⟩ = some (.slice none 0 0) := by simp [World.cell?, hq3]
    have xf : ∀ i, W0.frozen? ⟨w.heap.size + 1 + 1, i, none⟩ = false := fun i => by simp [World.frozen?, hq3]
    clear hq1 hq2 hq3
    refine bodyPost_ret (v := .tuple #[.agg #[.int .i64 0, .int .i64 0, .string ⟨#[]⟩, .slice none 0 0, .slice none 0 0, .slice none 0 0], .int .i64 1]) (by simp [results, Tryz.results22, go_sem, x0, x1, x2, x3, x4, x5]) rfl ?_
    exact ⟨zeroV0, 0, 0, ⟨#[]⟩, none, none, none, 0, 0, 0, 0, 0, 0, 1, rfl, vr_plain' 0 0 (by decide) (by decide), .inr (.inl ⟨rfl, .none (by simp [V.kind]) (by simp [V.kind]) (by simp [V.kind]) (by simp [V.kind]) (by simp [V.kind]) (by simp [V.kind])⟩), HBW0.out⟩
  · go_enter Tryz.func22, Tryz.ntmps22
    go_wp2_with fail
    rw [← HW0.out]
    obtain ⟨hq1, hq2, hq3⟩ := HFAR.out W0 (Below.refl _ _)
    have x0 : W0.cell? ⟨w.heap.size + 1 + 1, 0, none⟩ = some (.int .i64 0) := by simp [World.cell?, hq3]
    have x1 : W0.cell? ⟨w.heap.size + 1 + 1, 1, none⟩ = some (.int .i64 0) := by simp [World.cell?, hq3]
    have x2 : W0.cell? ⟨w.heap.size + 1 + 1, 2, none⟩ = some (.string ⟨#[]⟩) := by simp [World.cell?, hq3]
    have x3 : W0.cell? ⟨w.heap.size + 1 + 1, 3, none⟩ = some (.slice none 0 0) := by simp [World.cell?, hq3]
    have x4 : W0.cell? ⟨w.heap.size + 1 + 1, 4, none⟩ = some (.slice none 0 0) := by simp [World.cell?, hq3]
    have x5 : W0.cell? ⟨w.heap.size + 1 + 1, 5, none⟩ = some (.slice none 0 0) := by simp [World.cell?, hq3]
    have xf : ∀ i, W0.frozen? ⟨w.heap.size + 1 + 1, i, none⟩ = false := fun i => by simp [World.frozen?, hq3]
    clear hq1 hq2 hq3
    refine bodyPost_ret (v := .tuple #[.agg #[.int .i64 0, .int .i64 0, .string ⟨#[]⟩, .slice none 0 0, .slice none 0 0, .slice none 0 0], .int .i64 1]) (by simp [results, Tryz.results22, go_sem, x0, x1, x2, x3, x4, x5]) rfl ?_
    exact ⟨zeroV0, 0, 0, ⟨#[]⟩, none, none, none, 0, 0, 0, 0, 0, 0, 1, rfl, vr_plain' 0 0 (by decide) (by decide), .inr (.inl ⟨rfl, .none (by simp [V.kind]) (by simp [V.kind]) (by simp [V.kind]) (by simp [V.kind]) (by simp [V.kind]) (by simp [V.kind])⟩), HBW0.out⟩
  · go_enter Tryz.func22, Tryz.ntmps22
    go_wp2_with fail
    rw [← HW0.out]
    obtain ⟨hq1, hq2, hq3⟩ := HFAR.out W0 (Below.refl _ _)
    have x0 : W0.cell? ⟨w.heap.size + 1 + 1, 0, none⟩ = some (.int .i64 0) := by simp [World.cell?, hq3]
    have x1 : W0.cell? ⟨w.heap.size + 1 + 1, 1, none⟩ = some (.int .i64 0) := by simp [World.cell?, hq3]
    have x2 : W0.cell? ⟨w.heap.size + 1 + 1, 2, none⟩ = some (.string ⟨#[]⟩) := by simp [World.cell?, hq3]
    have x3 : W0.cell? ⟨w.heap.size + 1 + 1, 3, none⟩ = some (.slice none 0 0) := by simp [World.cell?, hq3]
    have x4 : W0.cell? ⟨w.heap.size + 1 + 1, 4, none⟩ = some (.slice none 0 0) := by simp [World.cell?, hq3]
    have x5 : W0.cell? ⟨w.heap.size + 1 + 1, 5, none⟩ = some (.slice none 0 0) := by simp [World.cell?, hq3]
    have xf : ∀ i, W0.frozen? ⟨w.heap.size + 1 + 1, i, none⟩ = false := fun i => by simp [World.frozen?, hq3]
    clear hq1 hq2 hq3
    refine bodyPost_ret (v := .tuple #[.agg #[.int .i64 0, .int .i64 0, .string ⟨#[]⟩, .slice none 0 0, .slice none 0 0, .slice none 0 0], .int .i64 1]) (by simp [results, Tryz.results22, go_sem, x0, x1, x2, x3, x4, x5]) rfl ?_
    exact ⟨zeroV0, 0, 0, ⟨#[]⟩, none, none, none, 0, 0, 0, 0, 0, 0, 1, rfl, vr_plain' 0 0 (by decide) (by decide), .inr (.inl ⟨rfl, .none (by simp [V.kind]) (by simp [V.kind]) (by simp [V.kind]) (by simp [V.kind]) (by simp [V.kind]) (by simp [V.kind])⟩), HBW0.out⟩
  · go_enter Tryz.func22, Tryz.ntmps22
    go_wp2_with fail
    rw [← HW0.out]
    obtain ⟨hq1, hq2, hq3⟩ := HFAR.out W0 (Below.refl _ _)
    have x0 : W0.cell? ⟨w.heap.size + 1 + 1, 0, none⟩ = some (.int .i64 0) := by simp [World.cell?, hq3]
    have x1 : W0.cell? ⟨w.heap.size + 1 + 1, 1, none⟩ = some (.int .i64 0) := by simp [World.cell?, hq3]
    have x2 : W0.cell? ⟨w.heap.size + 1 + 1, 2, none⟩ = some (.string ⟨#[]⟩) := by simp [World.cell?, hq3]
    have x3 : W0.cell? ⟨w.heap.size + 1 + 1, 3, none⟩ = some (.slice none 0 0) := by simp [World.cell?, hq3]
    have x4 : W0.cell? ⟨w.heap.size + 1 + 1, 4, none⟩ = some (.slice none 0 0) := by simp [World.cell?, hq3]
    have x5 : W0.cell? ⟨w.heap.size + 1 + 1, 5, none⟩ = some (.slice none 0 0) := by simp [World.cell?, hq3]
    have xf : ∀ i, W0.frozen? ⟨w.heap.size + 1 + 1, i, none⟩ = false := fun i => by simp [World.frozen?, hq3]
    clear hq1 hq2 hq3
    refine bodyPost_ret (v := .tuple #[.agg #[.int .i64 0, .int .i64 0, .string ⟨#[]⟩, .slice none 0 0, .slice none 0 0, .slice none 0 0], .int .i64 1]) (by simp [results, Tryz.results22, go_sem, x0, x1, x2, x3, x4, x5]) rfl ?_
    exact ⟨zeroV0, 0, 0, ⟨#[]⟩, none, none, none, 0, 0, 0, 0, 0, 0, 1, rfl, vr_plain' 0 0 (by decide) (by decide), .inr (.inl ⟨rfl, .none (by simp [V.kind]) (by simp [V.kind]) (by simp [V.kind]) (by simp [V.kind]) (by simp [V.kind]) (by simp [V.kind])⟩), HBW0.out⟩
  · go_enter Tryz.func22, Tryz.ntmps22
    go_wp2_with fail
    rw [← HW0.out]
    obtain ⟨hq1, hq2, hq3⟩ := HFAR.out W0 (Below.refl _ _)
    have x0 : W0.cell? ⟨w.heap.size + 1 + 1, 0, none⟩ = some (.int .i64 0) := by simp [World.cell?, hq3]
    have x1 : W0.cell? ⟨w.heap.size + 1 + 1, 1, none⟩ = some (.int .i64 0) := by simp [World.cell?, hq3]
    have x2 : W0.cell? ⟨w.heap.size + 1 + 1, 2, none⟩ = some (.string ⟨#[]⟩) := by simp [World.cell?, hq3]
    have x3 : W0.cell? ⟨w.heap.size + 1 + 1, 3, none⟩ = some (.slice none 0 0) := by simp [World.cell?, hq3]
    have x4 : W0.cell? ⟨w.heap.size + 1 + 1, 4, none⟩ = some (.slice none 0 0) := by simp [World.cell?, hq3]
    have x5 : W0.cell? ⟨w.heap.size + 1 + 1, 5, none⟩ = some (.slice none 0 0) := by simp [World.cell?, hq3]
    have xf : ∀ i, W0.frozen? ⟨w.heap.size + 1 + 1, i, none⟩ = false := fun i => by simp [World.frozen?, hq3]
    clear hq1 hq2 hq3
    refine bodyPost_ret (v := .tuple #[.agg #[.int .i64 0, .int .i64 0, .string ⟨#[]⟩, .slice none 0 0, .slice none 0 0, .slice none 0 0], .int .i64 1]) (by simp [results, Tryz.results22, go_sem, x0, x1, x2, x3, x4, x5]) rfl ?_
    exact ⟨zeroV0, 0, 0, ⟨#[]⟩, none, none, none, 0, 0, 0, 0, 0, 0, 1, rfl, vr_plain' 0 0 (by decide) (by decide), .inr (.inl ⟨rfl, .none (by simp [V.kind]) (by simp [V.kind]) (by simp [V.kind]) (by simp [V.kind]) (by simp [V.kind]) (by simp [V.kind])⟩), HBW0.out⟩
set_option maxHeartbeats 8000000 in
theorem specIndex_k3 (v k : V) (ok : Nat → Prop) (cs1 cs2 : List Value) (w : World) (hv : Vr w ok v cs1) (hk : Vr w ok k cs2) (wv : WF v) (wk : WF k) (hkk : k.kind = 3) (lv : v.list.length ≤ 1000000) (tv : v.text.size ≤ 2000) (vv : Lib.validD v.text.data.toList = true) :
    Calls Tryz.prog 22 #[.agg cs1.toArray, .agg cs2.toArray] w (IdxPost ok (IdxS v k) w) := by
  have HV1 := Lib.hid hv
  have HV2 := Lib.hid hk
  have HWV := Lib.hid wv
  have HK := Lib.hid wk
  have HLV := Lib.hid lv
  have HTV := Lib.hid tv
  have HVV := Lib.hid vv
  have hkv : v.kind = 0 ∨ v.kind = 1 ∨ v.kind = 2 ∨ v.kind = 3 ∨ v.kind = 4 ∨ v.kind = 5 ∨ v.kind = 6 := by
    rcases kinds wv with ⟨h, _⟩ | ⟨h, _⟩ | ⟨h, _⟩ | ⟨h, _⟩ | ⟨h, _⟩ | ⟨h, _⟩ | ⟨h, _⟩ | ⟨h, _⟩ <;> omega
  obtain ⟨k1, h1, t1, l1, ks1, vs1, P1, p1, Q1, q1, R1, r1, f1, g1, i1, i2, i3, i4, i5, i6, i7, i8, i9, i10, ra, ea, i13, i14, i15⟩ := hv
  have hrow : RowAt w ok 6 P1 l1.length f1 := ra
  have hel := ea
  clear i1 i2 i3 i4 i5 i6 i7 i8 i9 i10 i13 i14 i15 ra ea
  obtain ⟨k2, h2, t2, l2, ks2, vs2, P2, p2, Q2, q2, R2, r2, f2, g2, i1, i2, i3, i4, i5, i6, i7, i8, i9, i10, i11, i12, i13, i14, i15⟩ := hk
  clear i1 i2 i3 i4 i5 i6 i7 i8 i9 i10 i11 i12 i13 i14 i15
  simp only [V.kind] at hkk
  subst hkk
  obtain ⟨nl, hnl⟩ : ∃ nl, nl = l1.length := ⟨_, rfl⟩
  rw [← hnl] at HV1 hrow ⊢
  have HNL := Lib.hid hnl
  have HROW := Lib.hid hrow
  have HEL := Lib.hid hel
  have hnl6 : nl ≤ 1000000 := by rw [hnl]; exact lv
  clear hnl hrow hel lv tv vv wv wk
  obtain ⟨W0, hW0⟩ : ∃ W0, W0 = ((w.alloc (.cells #[.int .i64 k1, .int .i64 h1, .string t1, .slice P1 nl p1, .slice Q1 ks1.length q1, .slice R1 vs1.length r1] 26)).alloc (.cells #[.int .i64 3, .int .i64 h2, .string t2, .slice P2 l2.length p2, .slice Q2 ks2.length q2, .slice R2 vs2.length r2] 26)).alloc (.cells #[.int .i64 0, .int .i64 0, .string ⟨#[]⟩, .slice none 0 0, .slice none 0 0, .slice none 0 0] 26) := ⟨_, rfl⟩
  have hBW0 : Below w.heap.size w W0 := by rw [hW0]; exact ((((Below.refl _ _).alloc (Nat.le_refl _) _).alloc (by (try simp); (try omega)) _).alloc (by (try simp); (try omega)) _)
  have hSW0 : W0.heap.size = w.heap.size + 3 := by rw [hW0]; simp
  have hD0 : W0.heap[w.heap.size]? = some (.cells #[.int .i64 k1, .int .i64 h1, .string t1, .slice P1 nl p1, .slice Q1 ks1.length q1, .slice R1 vs1.length r1] 26) := by
    rw [hW0]
    have := heap_alloc_new w (.cells #[.int .i64 k1, .int .i64 h1, .string t1, .slice P1 nl p1, .slice Q1 ks1.length q1, .slice R1 vs1.length r1] 26)
    exact (Below.heap_alloc _ _ _ (by (try simp); (try omega))).trans ((Below.heap_alloc _ _ _ (by (try simp); (try omega))).trans (this))
  have hD1 : W0.heap[w.heap.size + 1]? = some (.cells #[.int .i64 3, .int .i64 h2, .string t2, .slice P2 l2.length p2, .slice Q2 ks2.length q2, .slice R2 vs2.length r2] 26) := by
    rw [hW0]
    have := heap_alloc_new (w.alloc (.cells #[.int .i64 k1, .int .i64 h1, .string t1, .slice P1 nl p1, .slice Q1 ks1.length q1, .slice R1 vs1.length r1] 26)) (.cells #[.int .i64 3, .int .i64 h2, .string t2, .slice P2 l2.length p2, .slice Q2 ks2.length q2, .slice R2 vs2.length r2] 26)
    rw [show (w.alloc (.cells #[.int .i64 k1, .int .i64 h1, .string t1, .slice P1 nl p1, .slice Q1 ks1.length q1, .slice R1 vs1.length r1] 26)).heap.size = w.heap.size + 1 from by simp] at this
    exact (Below.heap_alloc _ _ _ (by (try simp); (try omega))).trans (this)
  have hD2 : W0.heap[w.heap.size + 2]? = some (.cells #[.int .i64 0, .int .i64 0, .string ⟨#[]⟩, .slice none 0 0, .slice none 0 0, .slice none 0 0] 26) := by
    rw [hW0]
    have := heap_alloc_new ((w.alloc (.cells #[.int .i64 k1, .int .i64 h1, .string t1, .slice P1 nl p1, .slice Q1 ks1.length q1, .slice R1 vs1.length r1] 26)).alloc (.cells #[.int .i64 3, .int .i64 h2, .string t2, .slice P2 l2.length p2, .slice Q2 ks2.length q2, .slice R2 vs2.length r2] 26)) (.cells #[.int .i64 0, .int .i64 0, .string ⟨#[]⟩, .slice none 0 0, .slice none 0 0, .slice none 0 0] 26)
    rw [show ((w.alloc (.cells #[.int .i64 k1, .int .i64 h1, .string t1, .slice P1 nl p1, .slice Q1 ks1.length q1, .slice R1 vs1.length r1] 26)).alloc (.cells #[.int .i64 3, .int .i64 h2, .string t2, .slice P2 l2.length p2, .slice Q2 ks2.length q2, .slice R2 vs2.length r2] 26)).heap.size = w.heap.size + 2 from by simp] at this
    exact this
  have hfar : ∀ W, Below W0.heap.size W0 W → W.heap[w.heap.size]? = some (.cells #[.int .i64 k1, .int .i64 h1, .string t1, .slice P1 nl p1, .slice Q1 ks1.length q1, .slice R1 vs1.length r1] 26) ∧ W.heap[w.heap.size + 1]? = some (.cells #[.int .i64 3, .int .i64 h2, .string t2, .slice P2 l2.length p2, .slice Q2 ks2.length q2, .slice R2 vs2.length r2] 26) ∧ W.heap[w.heap.size + 2]? = some (.cells #[.int .i64 0, .int .i64 0, .string ⟨#[]⟩, .slice none 0 0, .slice none 0 0, .slice none 0 0] 26) := fun W hb => ⟨(hb.block _ (by omega)).trans hD0, (hb.block _ (by omega)).trans hD1, (hb.block _ (by omega)).trans hD2⟩
  have HFAR := Lib.hid hfar
  have HW0 := Lib.hid hW0
  have HBW0 := Lib.hid hBW0
  have HSW0 := Lib.hid hSW0
  clear hfar hW0 hBW0 hSW0 hD0 hD1 hD2
  have HLE := Lib.hid (show w.heap.size ≤ w.heap.size + 1 + 1 by omega)
  simp only [V.kind] at hkv
  rcases hkv with rfl | rfl | rfl | rfl | rfl | rfl | rfl
  · go_enter Tryz.func22, Tryz.ntmps22
    go_wp2_with fail
    rw [← HW0.out]
    obtain ⟨hq1, hq2, hq3⟩ := HFAR.out W0 (Below.refl _ _)
    have x0 : W0.cell? ⟨w.heap.size + 1 + 1, 0, none⟩ = some (.int .i64 0) := by simp [World.cell?, hq3]
    have x1 : W0.cell? ⟨w.heap.size + 1 + 1, 1, none⟩ = some (.int .i64 0) := by simp [World.cell?, hq3]
    have x2 : W0.cell? ⟨w.heap.size + 1 + 1, 2, none⟩ = some (.string ⟨#[]⟩) := by simp [World.cell?, hq3]
    have x3 : W0.cell? ⟨w.heap.size + 1 + 1, 3, none⟩ = some (.slice none 0 0) := by simp [World.cell?, hq3]
    have x4 : W0.cell? ⟨w.heap.size + 1 + 1, 4, none⟩ = some (.slice none 0 0) := by simp [World.cell?, hq3]
    have x5 : W0.cell? ⟨w.heap.size + 1 + 1, 5, none⟩ = some (.slice none 0 0) := by simp [World.cell?, hq3]
    have xf : ∀ i, W0.frozen? ⟨w.heap.size + 1 + 1, i, none⟩ = false := fun i => by simp [World.frozen?, hq3]
    clear hq1 hq2 hq3
    refine bodyPost_ret (v := .tuple #[.agg #[.int .i64 0, .int .i64 0, .string ⟨#[]⟩, .slice none 0 0, .slice none 0 0, .slice none 0 0], .int .i64 0]) (by simp [results, Tryz.results22, go_sem, x0, x1, x2, x3, x4, x5]) rfl ?_
    exact ⟨zeroV0, 0, 0, ⟨#[]⟩, none, none, none, 0, 0, 0, 0, 0, 0, 0, rfl, vr_plain' 0 0 (by decide) (by decide), .inr (.inr ⟨rfl, .nil rfl (.inl rfl)⟩), HBW0.out⟩
  · go_enter Tryz.func22, Tryz.ntmps22
    go_wp2_with fail
    rw [← HW0.out]
    obtain ⟨hq1, hq2, hq3⟩ := HFAR.out W0 (Below.refl _ _)
    have x0 : W0.cell? ⟨w.heap.size + 1 + 1, 0, none⟩ = some (.int .i64 0) := by simp [World.cell?, hq3]
    have x1 : W0.cell? ⟨w.heap.size + 1 + 1, 1, none⟩ = some (.int .i64 0) := by simp [World.cell?, hq3]
    have x2 : W0.cell? ⟨w.heap.size + 1 + 1, 2, none⟩ = some (.string ⟨#[]⟩) := by simp [World.cell?, hq3]
    have x3 : W0.cell? ⟨w.heap.size + 1 + 1, 3, none⟩ = some (.slice none 0 0) := by simp [World.cell?, hq3]
    have x4 : W0.cell? ⟨w.heap.size + 1 + 1, 4, none⟩ = some (.slice none 0 0) := by simp [World.cell?, hq3]
    have x5 : W0.cell? ⟨w.heap.size + 1 + 1, 5, none⟩ = some (.slice none 0 0) := by simp [World.cell?, hq3]
    have xf : ∀ i, W0.frozen? ⟨w.heap.size + 1 + 1, i, none⟩ = false := fun i => by simp [World.frozen?, hq3]
    clear hq1 hq2 hq3
    refine bodyPost_ret (v := .tuple #[.agg #[.int .i64 0, .int .i64 0, .string ⟨#[]⟩, .slice none 0 0, .slice none 0 0, .slice none 0 0], .int .i64 1]) (by simp [results, Tryz.results22, go_sem, x0, x1, x2, x3, x4, x5]) rfl ?_
    exact ⟨zeroV0, 0, 0, ⟨#[]⟩, none, none, none, 0, 0, 0, 0, 0, 0, 1, rfl, vr_plain' 0 0 (by decide) (by decide), .inr (.inl ⟨rfl, .none (by simp [V.kind]) (by simp [V.kind]) (by simp [V.kind]) (by simp [V.kind]) (by simp [V.kind]) (by simp [V.kind])⟩), HBW0.out⟩
  · go_enter Tryz.func22, Tryz.ntmps22
    go_wp2_with fail
    rw [← HW0.out]
    obtain ⟨hq1, hq2, hq3⟩ := HFAR.out W0 (Below.refl _ _)
    have x0 : W0.cell? ⟨w.heap.size + 1 + 1, 0, none⟩ = some (.int .i64 0) := by simp [World.cell?, hq3]
    have x1 : W0.cell? ⟨w.heap.size + 1 + 1, 1, none⟩ = some (.int .i64 0) := by simp [World.cell?, hq3]
    have x2 : W0.cell? ⟨w.heap.size + 1 + 1, 2, none⟩ = some (.string ⟨#[]⟩) := by simp [World.cell?, hq3]
    have x3 : W0.cell? ⟨w.heap.size + 1 + 1, 3, none⟩ = some (.slice none 0 0) := by simp [World.cell?, hq3]
    have x4 : W0.cell? ⟨w.heap.size + 1 + 1, 4, none⟩ = some (.slice none 0 0) := by simp [World.cell?, hq3]
    have x5 : W0.cell? ⟨w.heap.size + 1 + 1, 5, none⟩ = some (.slice none 0 0) := by simp [World.cell?, hq3]
    have xf : ∀ i, W0.frozen? ⟨w.heap.size + 1 + 1, i, none⟩ = false := fun i => by simp [World.frozen?, hq3]
    clear hq1 hq2 hq3
    refine bodyPost_ret (v := .tuple #[.agg #[.int .i64 0, .int .i64 0, .string ⟨#[]⟩, .slice none 0 0, .slice none 0 0, .slice none 0 0], .int .i64 1]) (by simp [results, Tryz.results22, go_sem, x0, x1, x2, x3, x4, x5]) rfl ?_
    exact ⟨zeroV0, 0, 0, ⟨#[]⟩, none, none, none, 0, 0, 0, 0, 0, 0, 1, rfl, vr_plain' 0 0 (by decide) (by decide), .inr (.inl ⟨rfl, .none (by simp [V.kind]) (by simp [V.kind]) (by simp [V.kind]) (by simp [V.kind]) (by simp [V.kind]) (by simp [V.kind])⟩), HBW0.out⟩
  · go_enter Tryz.func22, Tryz.ntmps22
    go_wp2_with fail
    rw [← HW0.out]
    obtain ⟨hq1, hq2, hq3⟩ := HFAR.out W0 (Below.refl _ _)
    have x0 : W0.cell? ⟨w.heap.size + 1 + 1, 0, none⟩ = some (.int .i64 0) := by simp [World.cell?, hq3]
    have x1 : W0.cell? ⟨w.heap.size + 1 + 1, 1, none⟩ = some (.int .i64 0) := by simp [World.cell?, hq3]
    have x2 : W0.cell? ⟨w.heap.size + 1 + 1, 2, none⟩ = some (.string ⟨#[]⟩) := by simp [World.cell?, hq3]
    have x3 : W0.cell? ⟨w.heap.size + 1 + 1, 3, none⟩ = some (.slice none 0 0) := by simp [World.cell?, hq3]
    have x4 : W0.cell? ⟨w.heap.size + 1 + 1, 4, none⟩ = some (.slice none 0 0) := by simp [World.cell?, hq3]
    have x5 : W0.cell? ⟨w.heap.size + 1 + 1, 5, none⟩ = some (.slice none 0 0) := by simp [World.cell?, hq3]
    have xf : ∀ i, W0.frozen? ⟨w.heap.size + 1 + 1, i, none⟩ = false := fun i => by simp [World.frozen?, hq3]
    clear hq1 hq2 hq3
    refine bodyPost_ret (v := .tuple #[.agg #[.int .i64 0, .int .i64 0, .string ⟨#[]⟩, .slice none 0 0, .slice none 0 0, .slice none 0 0], .int .i64 1]) (by simp [results, Tryz.results22, go_sem, x0, x1, x2, x3, x4, x5]) rfl ?_
    exact ⟨zeroV0, 0, 0, ⟨#[]⟩, none, none, none, 0, 0, 0, 0, 0, 0, 1, rfl, vr_plain' 0 0 (by decide) (by decide), .inr (.inl ⟨rfl, .none (by simp [V.kind]) (by simp [V.kind]) (by simp [V.kind]) (by simp [V.kind]) (by simp [V.kind]) (by simp [V.kind])⟩), HBW0.out⟩
  · go_enter Tryz.func22, Tryz.ntmps22
    go_wp2_with fail
    rw [← HW0.out]
    obtain ⟨hq1, hq2, hq3⟩ := HFAR.out W0 (Below.refl _ _)
    have x0 : W0.cell? ⟨w.heap.size + 1 + 1, 0, none⟩ = some (.int .i64 0) := by simp [World.cell?, hq3]
    have x1 : W0.cell? ⟨w.heap.size + 1 + 1, 1, none⟩ = some (.int .i64 0) := by simp [World.cell?, hq3]
    have x2 : W0.cell? ⟨w.heap.size + 1 + 1, 2, none⟩ = some (.string ⟨#[]⟩) := by simp [World.cell?, hq3]
    have x3 : W0.cell? ⟨w.heap.size + 1 + 1, 3, none⟩ = some (.slice none 0 0) := by simp [World.cell?, hq3]
    have x4 : W0.cell? ⟨w.heap.size + 1 + 1, 4, none⟩ = some (.slice none 0 0) := by simp [World.cell?, hq3]
    have x5 : W0.cell? ⟨w.heap.size + 1 + 1, 5, none⟩ = some (.slice none 0 0) := by simp [World.cell?, hq3]
    have xf : ∀ i, W0.frozen? ⟨w.heap.size + 1 + 1, i, none⟩ = false := fun i => by simp [World.frozen?, hq3]
    clear hq1 hq2 hq3
    refine bodyPost_ret (v := .tuple #[.agg #[.int .i64 0, .int .i64 0, .string ⟨#[]⟩, .slice none 0 0, .slice none 0 0, .slice none 0 0], .int .i64 2]) (by simp [results, Tryz.results22, go_sem, x0, x1, x2, x3, x4, x5]) rfl ?_
    exact ⟨zeroV0, 0, 0, ⟨#[]⟩, none, none, none, 0, 0, 0, 0, 0, 0, 2, rfl, vr_plain' 0 0 (by decide) (by decide), .inl rfl, HBW0.out⟩
  · have hb2 := wf_half HK.out
    simp only [V.half] at hb2
    by_cases he : h2.tmod 2 = 0
    · obtain ⟨q, hq⟩ : ∃ q, q = h2.tdiv 2 := ⟨_, rfl⟩
      have hdm := Int.tmod_add_mul_tdiv h2 2
      have hqb : -9007199254740992 ≤ q ∧ q ≤ 9007199254740992 := by rw [hq]; omega
      have hwh := whole_yes (V.mk 3 h2 t2 l2 ks2 vs2) ok _ W0 (HV2.out.keep HBW0.out) rfl he
      simp only [V.half] at hwh
      rw [← hq] at hwh
      have HWH := Lib.hid hwh
      have HE := Lib.hid he
      have HQ := Lib.hid hq
      clear hwh he hq hdm hb2
      go_enter Tryz.func22, Tryz.ntmps22
      go_wp2_with fail
      rw [← HW0.out]
      refine HWH.out.mono ?_
      rintro e' w4 ⟨rfl, hb4⟩
      have HB4 := Lib.hid hb4
      have HB4W := Lib.hid (below_trans HBW0.out hb4)
      clear hb4
      obtain ⟨hq1, hq2, hq3⟩ := HFAR.out w4 HB4.out
      have z0 : w4.cell? ⟨w.heap.size, 0, none⟩ = some (.int .i64 5) := by simp [World.cell?, hq1]
      have z1 : w4.cell? ⟨w.heap.size, 1, none⟩ = some (.int .i64 h1) := by simp [World.cell?, hq1]
      have z2 : w4.cell? ⟨w.heap.size, 2, none⟩ = some (.string t1) := by simp [World.cell?, hq1]
      have z3 : w4.cell? ⟨w.heap.size, 3, none⟩ = some (.slice P1 nl p1) := by simp [World.cell?, hq1]
      have z4 : w4.cell? ⟨w.heap.size, 4, none⟩ = some (.slice Q1 ks1.length q1) := by simp [World.cell?, hq1]
      have z5 : w4.cell? ⟨w.heap.size, 5, none⟩ = some (.slice R1 vs1.length r1) := by simp [World.cell?, hq1]
      have x0 : w4.cell? ⟨w.heap.size + 1 + 1, 0, none⟩ = some (.int .i64 0) := by simp [World.cell?, hq3]
      have x1 : w4.cell? ⟨w.heap.size + 1 + 1, 1, none⟩ = some (.int .i64 0) := by simp [World.cell?, hq3]
      have x2 : w4.cell? ⟨w.heap.size + 1 + 1, 2, none⟩ = some (.string ⟨#[]⟩) := by simp [World.cell?, hq3]
      have x3 : w4.cell? ⟨w.heap.size + 1 + 1, 3, none⟩ = some (.slice none 0 0) := by simp [World.cell?, hq3]
      have x4 : w4.cell? ⟨w.heap.size + 1 + 1, 4, none⟩ = some (.slice none 0 0) := by simp [World.cell?, hq3]
      have x5 : w4.cell? ⟨w.heap.size + 1 + 1, 5, none⟩ = some (.slice none 0 0) := by simp [World.cell?, hq3]
      have xf : ∀ i, w4.frozen? ⟨w.heap.size + 1 + 1, i, none⟩ = false := fun i => by simp [World.frozen?, hq3]
      clear hq1 hq2 hq3
      obtain ⟨g1, g2⟩ := hqb
      by_cases hneg : q < 0
      · by_cases hlo : q + nl < 0
        · have HR := Lib.hid (show elemV l1 q = zeroV0 from by
            unfold elemV fromEnd
            rw [← HNL.out, if_pos hneg, if_neg (by omega)])
          go_wp2_with fail
          refine bodyPost_ret (v := .tuple #[.agg #[.int .i64 0, .int .i64 0, .string ⟨#[]⟩, .slice none 0 0, .slice none 0 0, .slice none 0 0], .int .i64 0]) (by simp [results, Tryz.results22, go_sem, x0, x1, x2, x3, x4, x5]) rfl ?_
          exact ⟨zeroV0, 0, 0, ⟨#[]⟩, none, none, none, 0, 0, 0, 0, 0, 0, 0, rfl, vr_plain' 0 0 (by decide) (by decide), .inr (.inr ⟨rfl, by rw [← HR.out, HQ.out]; exact .elem rfl rfl HE.out⟩), below6v _ _ _ _ _ _ HB4W.out HLE.out⟩
        · obtain ⟨i, hi⟩ : ∃ i : Nat, q + nl = i := ⟨(q + nl).toNat, by omega⟩
          have HR := Lib.hid (show ∀ d, l1[i]? = some d → elemV l1 q = d from fun d hd => by
            unfold elemV fromEnd
            rw [← HNL.out, if_pos hneg, if_pos (by omega), hi]
            simp [List.getD_eq_getElem?_getD, hd])
          have hin : i < nl := by omega
          clear hlo
          obtain ⟨d, hd⟩ := at_lt (l := l1) (p := i) (by rw [← HNL.out]; exact hin)
          obtain ⟨ad, hA, _, hc0⟩ := HROW.out (by omega)
          subst hA
          have hV := (HEL.out i d hd).bound
          have hcc := fun (j : Nat) (u : Value) (hu : (f1 i)[j]? = some u) => cell_kept HB4W.out (hc0 i j u hin hu)
          obtain ⟨a0, a1, s, S3, S4, S5, n3, m3, n4, m4, n5, m5, hfj⟩ : ∃ (a0 a1 : Int) (s : ByteArray) (S3 S4 S5 : Option Addr) (n3 m3 n4 m4 n5 m5 : Nat), f1 i = [.int .i64 a0, .int .i64 a1, .string s, .slice S3 n3 m3, .slice S4 n4 m4, .slice S5 n5 m5] := by
            generalize f1 i = fk at hV
            cases hV
            exact ⟨_, _, _, _, _, _, _, _, _, _, _, _, rfl⟩
          rw [hfj] at hV hcc
          obtain ⟨u0, u1, u2, u3, u4, u5⟩ := cells6 hcc
          have j0 : (0 : Int) ≤ (i : Int) := Int.natCast_nonneg _
          have j1 : (i : Int) < (nl : Int) := by omega
          have HVD := Lib.hid (hV.move fun b hb => HB4W.out.block b hb.2)
          have HD := Lib.hid (HR.out d hd)
          clear hV hcc hc0 hfj hd HR
          go_wp2_with fail
          refine bodyPost_ret (v := .tuple #[.agg #[.int .i64 a0, .int .i64 a1, .string s, .slice S3 n3 m3, .slice S4 n4 m4, .slice S5 n5 m5], .int .i64 0]) (by simp [results, Tryz.results22, go_sem, x0, x1, x2, x3, x4, x5]) rfl ?_
          refine ⟨d, a0, a1, s, S3, S4, S5, n3, m3, n4, m4, n5, m5, 0, rfl, set6v _ _ _ _ _ _ HVD.out (fun b hb => ⟨by omega, hb⟩), .inr (.inr ⟨rfl, ?_⟩), below6v _ _ _ _ _ _ HB4W.out HLE.out⟩
          rw [← HD.out, HQ.out]
          exact .elem rfl rfl HE.out
      · by_cases hhi : q < nl
        · obtain ⟨i, hi⟩ : ∃ i : Nat, q = i := ⟨q.toNat, by omega⟩
          have HR := Lib.hid (show ∀ d, l1[i]? = some d → elemV l1 q = d from fun d hd => by
            unfold elemV fromEnd
            rw [← HNL.out, if_neg hneg, if_pos (by omega), hi]
            simp [List.getD_eq_getElem?_getD, hd])
          have hin : i < nl := by omega
          subst hi
          clear hhi
          obtain ⟨d, hd⟩ := at_lt (l := l1) (p := i) (by rw [← HNL.out]; exact hin)
          obtain ⟨ad, hA, _, hc0⟩ := HROW.out (by omega)
          subst hA
          have hV := (HEL.out i d hd).bound
          have hcc := fun (j : Nat) (u : Value) (hu : (f1 i)[j]? = some u) => cell_kept HB4W.out (hc0 i j u hin hu)
          obtain ⟨a0, a1, s, S3, S4, S5, n3, m3, n4, m4, n5, m5, hfj⟩ : ∃ (a0 a1 : Int) (s : ByteArray) (S3 S4 S5 : Option Addr) (n3 m3 n4 m4 n5 m5 : Nat), f1 i = [.int .i64 a0, .int .i64 a1, .string s, .slice S3 n3 m3, .slice S4 n4 m4, .slice S5 n5 m5] := by
            generalize f1 i = fk at hV
            cases hV
            exact ⟨_, _, _, _, _, _, _, _, _, _, _, _, rfl⟩
          rw [hfj] at hV hcc
          obtain ⟨u0, u1, u2, u3, u4, u5⟩ := cells6 hcc
          have j0 : (0 : Int) ≤ (i : Int) := Int.natCast_nonneg _
          have j1 : (i : Int) < (nl : Int) := by omega
          have HVD := Lib.hid (hV.move fun b hb => HB4W.out.block b hb.2)
          have HD := Lib.hid (HR.out d hd)
          clear hV hcc hc0 hfj hd HR
          go_wp2_with fail
          refine bodyPost_ret (v := .tuple #[.agg #[.int .i64 a0, .int .i64 a1, .string s, .slice S3 n3 m3, .slice S4 n4 m4, .slice S5 n5 m5], .int .i64 0]) (by simp [results, Tryz.results22, go_sem, x0, x1, x2, x3, x4, x5]) rfl ?_
          refine ⟨d, a0, a1, s, S3, S4, S5, n3, m3, n4, m4, n5, m5, 0, rfl, set6v _ _ _ _ _ _ HVD.out (fun b hb => ⟨by omega, hb⟩), .inr (.inr ⟨rfl, ?_⟩), below6v _ _ _ _ _ _ HB4W.out HLE.out⟩
          rw [← HD.out, HQ.out]
          exact .elem rfl rfl HE.out
        · have HR := Lib.hid (show elemV l1 q = zeroV0 from by
            unfold elemV fromEnd
            rw [← HNL.out, if_neg hneg, if_neg (by omega)])
          have hge : (nl : Int) ≤ q := by omega
          clear hhi
          go_wp2_with fail
          refine bodyPost_ret (v := .tuple #[.agg #[.int .i64 0, .int .i64 0, .string ⟨#[]⟩, .slice none 0 0, .slice none 0 0, .slice none 0 0], .int .i64 0]) (by simp [results, Tryz.results22, go_sem, x0, x1, x2, x3, x4, x5]) rfl ?_
          exact ⟨zeroV0, 0, 0, ⟨#[]⟩, none, none, none, 0, 0, 0, 0, 0, 0, 0, rfl, vr_plain' 0 0 (by decide) (by decide), .inr (.inr ⟨rfl, by rw [← HR.out, HQ.out]; exact .elem rfl rfl HE.out⟩), below6v _ _ _ _ _ _ HB4W.out HLE.out⟩
    · have HWH := Lib.hid (whole_no (V.mk 3 h2 t2 l2 ks2 vs2) ok _ W0 (HV2.out.keep HBW0.out) (fun h => he h.2))
      clear he hb2
      go_enter Tryz.func22, Tryz.ntmps22
      go_wp2_with fail
      rw [← HW0.out]
      refine HWH.out.mono ?_
      rintro e' w4 ⟨rfl, hb4⟩
      have HB4 := Lib.hid hb4
      have HB4W := Lib.hid (below_trans HBW0.out hb4)
      clear hb4
      obtain ⟨hq1, hq2, hq3⟩ := HFAR.out w4 HB4.out
      have x0 : w4.cell? ⟨w.heap.size + 1 + 1, 0, none⟩ = some (.int .i64 0) := by simp [World.cell?, hq3]
      have x1 : w4.cell? ⟨w.heap.size + 1 + 1, 1, none⟩ = some (.int .i64 0) := by simp [World.cell?, hq3]
      have x2 : w4.cell? ⟨w.heap.size + 1 + 1, 2, none⟩ = some (.string ⟨#[]⟩) := by simp [World.cell?, hq3]
      have x3 : w4.cell? ⟨w.heap.size + 1 + 1, 3, none⟩ = some (.slice none 0 0) := by simp [World.cell?, hq3]
      have x4 : w4.cell? ⟨w.heap.size + 1 + 1, 4, none⟩ = some (.slice none 0 0) := by simp [World.cell?, hq3]
      have x5 : w4.cell? ⟨w.heap.size + 1 + 1, 5, none⟩ = some (.slice none 0 0) := by simp [World.cell?, hq3]
      have xf : ∀ i, w4.frozen? ⟨w.heap.size + 1 + 1, i, none⟩ = false := fun i => by simp [World.frozen?, hq3]
      clear hq1 hq2 hq3
      go_wp2_with fail
      refine bodyPost_ret (v := .tuple #[.agg #[.int .i64 0, .int .i64 0, .string ⟨#[]⟩, .slice none 0 0, .slice none 0 0, .slice none 0 0], .int .i64 2]) (by simp [results, Tryz.results22, go_sem, x0, x1, x2, x3, x4, x5]) rfl ?_
      exact ⟨zeroV0, 0, 0, ⟨#[]⟩, none, none, none, 0, 0, 0, 0, 0, 0, 2, rfl, vr_plain' 0 0 (by decide) (by decide), .inl rfl, below6v _ _ _ _ _ _ HB4W.out HLE.out⟩
  · go_enter Tryz.func22, Tryz.ntmps22
    go_wp2_with fail
    rw [← HW0.out]
    obtain ⟨hq1, hq2, hq3⟩ := HFAR.out W0 (Below.refl _ _)
    have x0 : W0.cell? ⟨w.heap.size + 1 + 1, 0, none⟩ = some (.int .i64 0) := by simp [World.cell?, hq3]
    have x1 : W0.cell? ⟨w.heap.size + 1 + 1, 1, none⟩ = some (.int .i64 0) := by simp [World.cell?, hq3]
    have x2 : W0.cell? ⟨w.heap.size + 1 + 1, 2, none⟩ = some (.string ⟨#[]⟩) := by simp [World.cell?, hq3]
    have x3 : W0.cell? ⟨w.heap.size + 1 + 1, 3, none⟩ = some (.slice none 0 0) := by simp [World.cell?, hq3]
    have x4 : W0.cell? ⟨w.heap.size + 1 + 1, 4, none⟩ = some (.slice none 0 0) := by simp [World.cell?, hq3]
    have x5 : W0.cell? ⟨w.heap.size + 1 + 1, 5, none⟩ = some (.slice none 0 0) := by simp [World.cell?, hq3]
    have xf : ∀ i, W0.frozen? ⟨w.heap.size + 1 + 1, i, none⟩ = false := fun i => by simp [World.frozen?, hq3]
    clear hq1 hq2 hq3
    refine bodyPost_ret (v := .tuple #[.agg #[.int .i64 0, .int .i64 0, .string ⟨#[]⟩, .slice none 0 0, .slice none 0 0, .slice none 0 0], .int .i64 1]) (by simp [results, Tryz.results22, go_sem, x0, x1, x2, x3, x4, x5]) rfl ?_
    exact ⟨zeroV0, 0, 0, ⟨#[]⟩, none, none, none, 0, 0, 0, 0, 0, 0, 1, rfl, vr_plain' 0 0 (by decide) (by decide), .inr (.inl ⟨rfl, .none (by simp [V.kind]) (by simp [V.kind]) (by simp [V.kind]) (by simp [V.kind]) (by simp [V.kind]) (by simp [V.kind])⟩), HBW0.out⟩
set_option maxHeartbeats 8000000 in
theorem specIndex_k4 (v k : V) (ok : Nat → Prop) (cs1 cs2 : List Value) (w : World) (hv : Vr w ok v cs1) (hk : Vr w ok k cs2) (wv : WF v) (wk : WF k) (hkk : k.kind = 4) (lv : v.list.length ≤ 1000000) (tv : v.text.size ≤ 2000) (vv : Lib.validD v.text.data.toList = true) :
    Calls Tryz.prog 22 #[.agg cs1.toArray, .agg cs2.toArray] w (IdxPost ok (IdxS v k) w) := by
  have HV1 := Lib.hid hv
  have HV2 := Lib.hid hk
  have HWV := Lib.hid wv
  have HK := Lib.hid wk
  have HLV := Lib.hid lv
  have HTV := Lib.hid tv
  have HVV := Lib.hid vv
  have hkv : v.kind = 0 ∨ v.kind = 1 ∨ v.kind = 2 ∨ v.kind = 3 ∨ v.kind = 4 ∨ v.kind = 5 ∨ v.kind = 6 := by
    rcases kinds wv with ⟨h, _⟩ | ⟨h, _⟩ | ⟨h, _⟩ | ⟨h, _⟩ | ⟨h, _⟩ | ⟨h, _⟩ | ⟨h, _⟩ | ⟨h, _⟩ <;> omega
  obtain ⟨k1, h1, t1, l1, ks1, vs1, P1, p1, Q1, q1, R1, r1, f1, g1, i1, i2, i3, i4, i5, i6, i7, i8, i9, i10, ra, ea, i13, i14, i15⟩ := hv
  have hrow : RowAt w ok 6 P1 l1.length f1 := ra
  have hel := ea
  clear i1 i2 i3 i4 i5 i6 i7 i8 i9 i10 i13 i14 i15 ra ea
  obtain ⟨k2, h2, t2, l2, ks2, vs2, P2, p2, Q2, q2, R2, r2, f2, g2, i1, i2, i3, i4, i5, i6, i7, i8, i9, i10, i11, i12, i13, i14, i15⟩ := hk
  clear i1 i2 i3 i4 i5 i6 i7 i8 i9 i10 i11 i12 i13 i14 i15
  simp only [V.kind] at hkk
  subst hkk
  obtain ⟨nl, hnl⟩ : ∃ nl, nl = l1.length := ⟨_, rfl⟩
  rw [← hnl] at HV1 hrow ⊢
  have HNL := Lib.hid hnl
  have HROW := Lib.hid hrow
  have HEL := Lib.hid hel
  have hnl6 : nl ≤ 1000000 := by rw [hnl]; exact lv
  clear hnl hrow hel lv tv vv wv wk
  obtain ⟨W0, hW0⟩ : ∃ W0, W0 = ((w.alloc (.cells #[.int .i64 k1, .int .i64 h1, .string t1, .slice P1 nl p1, .slice Q1 ks1.length q1, .slice R1 vs1.length r1] 26)).alloc (.cells #[.int .i64 4, .int .i64 h2, .string t2, .slice P2 l2.length p2, .slice Q2 ks2.length q2, .slice R2 vs2.length r2] 26)).alloc (.cells #[.int .i64 0, .int .i64 0, .string ⟨#[]⟩, .slice none 0 0, .slice none 0 0, .slice none 0 0] 26) := ⟨_, rfl⟩
  have hBW0 : Below w.heap.size w W0 := by rw [hW0]; exact ((((Below.refl _ _).alloc (Nat.le_refl _) _).alloc (by (try simp); (try omega)) _).alloc (by (try simp); (try omega)) _)
  have hSW0 : W0.heap.size = w.heap.size + 3 := by rw [hW0]; simp
  have hD0 : W0.heap[w.heap.size]? = some (.cells #[.int .i64 k1, .int .i64 h1, .string t1, .slice P1 nl p1, .slice Q1 ks1.length q1, .slice R1 vs1.length r1] 26) := by
    rw [hW0]
    have := heap_alloc_new w (.cells #[.int .i64 k1, .int .i64 h1, .string t1, .slice P1 nl p1, .slice Q1 ks1.length q1, .slice R1 vs1.length r1] 26)
    exact (Below.heap_alloc _ _ _ (by (try simp); (try omega))).trans ((Below.heap_alloc _ _ _ (by (try simp); (try omega))).trans (this))
  have hD1 : W0.heap[w.heap.size + 1]? = some (.cells #[.int .i64 4, .int .i64 h2, .string t2, .slice P2 l2.length p2, .slice Q2 ks2.length q2, .slice R2 vs2.length r2] 26) := by
    rw [hW0]
    have := heap_alloc_new (w.alloc (.cells #[.int .i64 k1, .int .i64 h1, .string t1, .slice P1 nl p1, .slice Q1 ks1.length q1, .slice R1 vs1.length r1] 26)) (.cells #[.int .i64 4, .int .i64 h2, .string t2, .slice P2 l2.length p2, .slice Q2 ks2.length q2, .slice R2 vs2.length r2] 26)
    rw [show (w.alloc (.cells #[.int .i64 k1, .int .i64 h1, .string t1, .slice P1 nl p1, .slice Q1 ks1.length q1, .slice R1 vs1.length r1] 26)).heap.size = w.heap.size + 1 from by simp] at this
    exact (Below.heap_alloc _ _ _ (by (try simp); (try omega))).trans (this)
  have hD2 : W0.heap[w.heap.size + 2]? = some (.cells #[.int .i64 0, .int .i64 0, .string ⟨#[]⟩, .slice none 0 0, .slice none 0 0, .slice none 0 0] 26) := by
    rw [hW0]
    have := heap_alloc_new ((w.alloc (.cells #[.int .i64 k1, .int .i64 h1, .string t1, .slice P1 nl p1, .slice Q1 ks1.length q1, .slice R1 vs1.length r1] 26)).alloc (.cells #[.int .i64 4, .int .i64 h2, .string t2, .slice P2 l2.length p2, .slice Q2 ks2.length q2, .slice R2 vs2.length r2] 26)) (.cells #[.int .i64 0, .int .i64 0, .string ⟨#[]⟩, .slice none 0 0, .slice none 0 0, .slice none 0 0] 26)
    rw [show ((w.alloc (.cells #[.int .i64 k1, .int .i64 h1, .string t1, .slice P1 nl p1, .slice Q1 ks1.length q1, .slice R1 vs1.length r1] 26)).alloc (.cells #[.int .i64 4, .int .i64 h2, .string t2, .slice P2 l2.length p2, .slice Q2 ks2.length q2, .slice R2 vs2.length r2] 26)).heap.size = w.heap.size + 2 from by simp] at this
    exact this
  have hfar : ∀ W, Below W0.heap.size W0 W → W.heap[w.heap.size]? = some (.cells #[.int .i64 k1, .int .i64 h1, .string t1, .slice P1 nl p1, .slice Q1 ks1.length q1, .slice R1 vs1.length r1] 26) ∧ W.heap[w.heap.size + 1]? = some (.cells #[.int .i64 4, .int .i64 h2, .string t2, .slice P2 l2.length p2, .slice Q2 ks2.length q2, .slice R2 vs2.length r2] 26) ∧ W.heap[w.heap.size + 2]? = some (.cells #[.int .i64 0, .int .i64 0, .string ⟨#[]⟩, .slice none 0 0, .slice none 0 0, .slice none 0 0] 26) := fun W hb => ⟨(hb.block _ (by omega)).trans hD0, (hb.block _ (by omega)).trans hD1, (hb.block _ (by omega)).trans hD2⟩
  have HFAR := Lib.hid hfar
  have HW0 := Lib.hid hW0
  have HBW0 := Lib.hid hBW0
  have HSW0 := Lib.hid hSW0
  clear hfar hW0 hBW0 hSW0 hD0 hD1 hD2
  have HLE := Lib.hid (show w.heap.size ≤ w.heap.size + 1 + 1 by omega)
  simp only [V.kind] at hkv
  rcases hkv with rfl | rfl | rfl | rfl | rfl | rfl | rfl
  · go_enter Tryz.func22, Tryz.ntmps22
    go_wp2_with fail
    rw [← HW0.out]
    obtain ⟨hq1, hq2, hq3⟩ := HFAR.out W0 (Below.refl _ _)
    have x0 : W0.cell? ⟨w.heap.size + 1 + 1, 0, none⟩ = some (.int .i64 0) := by simp [World.cell?, hq3]
    have x1 : W0.cell? ⟨w.heap.size + 1 + 1, 1, none⟩ = some (.int .i64 0) := by simp [World.cell?, hq3]
    have x2 : W0.cell? ⟨w.heap.size + 1 + 1, 2, none⟩ = some (.string ⟨#[]⟩) := by simp [World.cell?, hq3]
    have x3 : W0.cell? ⟨w.heap.size + 1 + 1, 3, none⟩ = some (.slice none 0 0) := by simp [World.cell?, hq3]
    have x4 : W0.cell? ⟨w.heap.size + 1 + 1, 4, none⟩ = some (.slice none 0 0) := by simp [World.cell?, hq3]
    have x5 : W0.cell? ⟨w.heap.size + 1 + 1, 5, none⟩ = some (.slice none 0 0) := by simp [World.cell?, hq3]
    have xf : ∀ i, W0.frozen? ⟨w.heap.size + 1 + 1, i, none⟩ = false := fun i => by simp [World.frozen?, hq3]
    clear hq1 hq2 hq3
    refine bodyPost_ret (v := .tuple #[.agg #[.int .i64 0, .int .i64 0, .string ⟨#[]⟩, .slice none 0 0, .slice none 0 0, .slice none 0 0], .int .i64 0]) (by simp [results, Tryz.results22, go_sem, x0, x1, x2, x3, x4, x5]) rfl ?_
    exact ⟨zeroV0, 0, 0, ⟨#[]⟩, none, none, none, 0, 0, 0, 0, 0, 0, 0, rfl, vr_plain' 0 0 (by decide) (by decide), .inr (.inr ⟨rfl, .nil rfl (.inr (.inl rfl))⟩), HBW0.out⟩
  · go_enter Tryz.func22, Tryz.ntmps22
    go_wp2_with fail
    rw [← HW0.out]
    obtain ⟨hq1, hq2, hq3⟩ := HFAR.out W0 (Below.refl _ _)
    have x0 : W0.cell? ⟨w.heap.size + 1 + 1, 0, none⟩ = some (.int .i64 0) := by simp [World.cell?, hq3]
    have x1 : W0.cell? ⟨w.heap.size + 1 + 1, 1, none⟩ = some (.int .i64 0) := by simp [World.cell?, hq3]
    have x2 : W0.cell? ⟨w.heap.size + 1 + 1, 2, none⟩ = some (.string ⟨#[]⟩) := by simp [World.cell?, hq3]
    have x3 : W0.cell? ⟨w.heap.size + 1 + 1, 3, none⟩ = some (.slice none 0 0) := by simp [World.cell?, hq3]
    have x4 : W0.cell? ⟨w.heap.size + 1 + 1, 4, none⟩ = some (.slice none 0 0) := by simp [World.cell?, hq3]
    have x5 : W0.cell? ⟨w.heap.size + 1 + 1, 5, none⟩ = some (.slice none 0 0) := by simp [World.cell?, hq3]
    have xf : ∀ i, W0.frozen? ⟨w.heap.size + 1 + 1, i, none⟩ = false := fun i => by simp [World.frozen?, hq3]
    clear hq1 hq2 hq3
    refine bodyPost_ret (v := .tuple #[.agg #[.int .i64 0, .int .i64 0, .string ⟨#[]⟩, .slice none 0 0, .slice none 0 0, .slice none 0 0], .int .i64 1]) (by simp [results, Tryz.results22, go_sem, x0, x1, x2, x3, x4, x5]) rfl ?_
    exact ⟨zeroV0, 0, 0, ⟨#[]⟩, none, none, none, 0, 0, 0, 0, 0, 0, 1, rfl, vr_plain' 0 0 (by decide) (by decide), .inr (.inl ⟨rfl, .none (by simp [V.kind]) (by simp [V.kind]) (by simp [V.kind]) (by simp [V.kind]) (by simp [V.kind]) (by simp [V.kind])⟩), HBW0.out⟩
  · go_enter Tryz.func22, Tryz.ntmps22
    go_wp2_with fail
    rw [← HW0.out]
    obtain ⟨hq1, hq2, hq3⟩ := HFAR.out W0 (Below.refl _ _)
    have x0 : W0.cell? ⟨w.heap.size + 1 + 1, 0, none⟩ = some (.int .i64 0) := by simp [World.cell?, hq3]
    have x1 : W0.cell? ⟨w.heap.size + 1 + 1, 1, none⟩ = some (.int .i64 0) := by simp [World.cell?, hq3]
    have x2 : W0.cell? ⟨w.heap.size + 1 + 1, 2, none⟩ = some (.string ⟨#[]⟩) := by simp [World.cell?, hq3]
    have x3 : W0.cell? ⟨w.heap.size + 1 + 1, 3, none⟩ = some (.slice none 0 0) := by simp [World.cell?, hq3]
    have x4 : W0.cell? ⟨w.heap.size + 1 + 1, 4, none⟩ = some (.slice none 0 0) := by simp [World.cell?, hq3]
    have x5 : W0.cell? ⟨w.heap.size + 1 + 1, 5, none⟩ = some (.slice none 0 0) := by simp [World.cell?, hq3]
    have xf : ∀ i, W0.frozen? ⟨w.heap.size + 1 + 1, i, none⟩ = false := fun i => by simp [World.frozen?, hq3]
    clear hq1 hq2 hq3
    refine bodyPost_ret (v := .tuple #[.agg #[.int .i64 0, .int .i64 0, .string ⟨#[]⟩, .slice none 0 0, .slice none 0 0, .slice none 0 0], .int .i64 1]) (by simp [results, Tryz.results22, go_sem, x0, x1, x2, x3, x4, x5]) rfl ?_
    exact ⟨zeroV0, 0, 0, ⟨#[]⟩, none, none, none, 0, 0, 0, 0, 0, 0, 1, rfl, vr_plain' 0 0 (by decide) (by decide), .inr (.inl ⟨rfl, .none (by simp [V.kind]) (by simp [V.kind]) (by simp [V.kind]) (by simp [V.kind]) (by simp [V.kind]) (by simp [V.kind])⟩), HBW0.out⟩
  · go_enter Tryz.func22, Tryz.ntmps22
    go_wp2_with fail
    rw [← HW0.out]
    obtain ⟨hq1, hq2, hq3⟩ := HFAR.out W0 (Below.refl _ _)
    have x0 : W0.cell? ⟨w.heap.size + 1 + 1, 0, none⟩ = some (.int .i64 0) := by simp [World.cell?, hq3]
    have x1 : W0.cell? ⟨w.heap.size + 1 + 1, 1, none⟩ = some (.int .i64 0) := by simp [World.cell?, hq3]
    have x2 : W0.cell? ⟨w.heap.size + 1 + 1, 2, none⟩ = some (.string ⟨#[]⟩) := by simp [World.cell?, hq3]
    have x3 : W0.cell? ⟨w.heap.size + 1 + 1, 3, none⟩ = some (.slice none 0 0) := by simp [World.cell?, hq3]
    have x4 : W0.cell? ⟨w.heap.size + 1 + 1, 4, none⟩ = some (.slice none 0 0) := by simp [World.cell?, hq3]
    have x5 : W0.cell? ⟨w.heap.size + 1 + 1, 5, none⟩ = some (.slice none 0 0) := by simp [World.cell?, hq3]
    have xf : ∀ i, W0.frozen? ⟨w.heap.size + 1 + 1, i, none⟩ = false := fun i => by simp [World.frozen?, hq3]
    clear hq1 hq2 hq3
    refine bodyPost_ret (v := .tuple #[.agg #[.int .i64 0, .int .i64 0, .string ⟨#[]⟩, .slice none 0 0, .slice none 0 0, .slice none 0 0], .int .i64 1]) (by simp [results, Tryz.results22, go_sem, x0, x1, x2, x3, x4, x5]) rfl ?_
    exact ⟨zeroV0, 0, 0, ⟨#[]⟩, none, none, none, 0, 0, 0, 0, 0, 0, 1, rfl, vr_plain' 0 0 (by decide) (by decide), .inr (.inl ⟨rfl, .none (by simp [V.kind]) (by simp [V.kind]) (by simp [V.kind]) (by simp [V.kind]) (by simp [V.kind]) (by simp [V.kind])⟩), HBW0.out⟩
  · go_enter Tryz.func22, Tryz.ntmps22
    go_wp2_with fail
    rw [← HW0.out]
    obtain ⟨hq1, hq2, hq3⟩ := HFAR.out W0 (Below.refl _ _)
    have x0 : W0.cell? ⟨w.heap.size + 1 + 1, 0, none⟩ = some (.int .i64 0) := by simp [World.cell?, hq3]
    have x1 : W0.cell? ⟨w.heap.size + 1 + 1, 1, none⟩ = some (.int .i64 0) := by simp [World.cell?, hq3]
    have x2 : W0.cell? ⟨w.heap.size + 1 + 1, 2, none⟩ = some (.string ⟨#[]⟩) := by simp [World.cell?, hq3]
    have x3 : W0.cell? ⟨w.heap.size + 1 + 1, 3, none⟩ = some (.slice none 0 0) := by simp [World.cell?, hq3]
    have x4 : W0.cell? ⟨w.heap.size + 1 + 1, 4, none⟩ = some (.slice none 0 0) := by simp [World.cell?, hq3]
    have x5 : W0.cell? ⟨w.heap.size + 1 + 1, 5, none⟩ = some (.slice none 0 0) := by simp [World.cell?, hq3]
    have xf : ∀ i, W0.frozen? ⟨w.heap.size + 1 + 1, i, none⟩ = false := fun i => by simp [World.frozen?, hq3]
    clear hq1 hq2 hq3
    refine bodyPost_ret (v := .tuple #[.agg #[.int .i64 0, .int .i64 0, .string ⟨#[]⟩, .slice none 0 0, .slice none 0 0, .slice none 0 0], .int .i64 1]) (by simp [results, Tryz.results22, go_sem, x0, x1, x2, x3, x4, x5]) rfl ?_
    exact ⟨zeroV0, 0, 0, ⟨#[]⟩, none, none, none, 0, 0, 0, 0, 0, 0, 1, rfl, vr_plain' 0 0 (by decide) (by decide), .inr (.inl ⟨rfl, .none (by simp [V.kind]) (by simp [V.kind]) (by simp [V.kind]) (by simp [V.kind]) (by simp [V.kind]) (by simp [V.kind])⟩), HBW0.out⟩
  · go_enter Tryz.func22, Tryz.ntmps22
    go_wp2_with fail
    rw [← HW0.out]
    obtain ⟨hq1, hq2, hq3⟩ := HFAR.out W0 (Below.refl _ _)
    have x0 : W0.cell? ⟨w.heap.size + 1 + 1, 0, none⟩ = some (.int .i64 0) := by simp [World.cell?, hq3]
    have x1 : W0.cell? ⟨w.heap.size + 1 + 1, 1, none⟩ = some (.int .i64 0) := by simp [World.cell?, hq3]
    have x2 : W0.cell? ⟨w.heap.size + 1 + 1, 2, none⟩ = some (.string ⟨#[]⟩) := by simp [World.cell?, hq3]
    have x3 : W0.cell? ⟨w.heap.size + 1 + 1, 3, none⟩ = some (.slice none 0 0) := by simp [World.cell?, hq3]
    have x4 : W0.cell? ⟨w.heap.size + 1 + 1, 4, none⟩ = some (.slice none 0 0) := by simp [World.cell?, hq3]
    have x5 : W0.cell? ⟨w.heap.size + 1 + 1, 5, none⟩ = some (.slice none 0 0) := by simp [World.cell?, hq3]
    have xf : ∀ i, W0.frozen? ⟨w.heap.size + 1 + 1, i, none⟩ = false := fun i => by simp [World.frozen?, hq3]
    clear hq1 hq2 hq3
    refine bodyPost_ret (v := .tuple #[.agg #[.int .i64 0, .int .i64 0, .string ⟨#[]⟩, .slice none 0 0, .slice none 0 0, .slice none 0 0], .int .i64 1]) (by simp [results, Tryz.results22, go_sem, x0, x1, x2, x3, x4, x5]) rfl ?_
    exact ⟨zeroV0, 0, 0, ⟨#[]⟩, none, none, none, 0, 0, 0, 0, 0, 0, 1, rfl, vr_plain' 0 0 (by decide) (by decide), .inr (.inl ⟨rfl, .none (by simp [V.kind]) (by simp [V.kind]) (by simp [V.kind]) (by simp [V.kind]) (by simp [V.kind]) (by simp [V.kind])⟩), HBW0.out⟩
  · have HGET := Lib.hid (get_any (V.mk 6 h1 t1 l1 ks1 vs1) t2 (fun b => ok b ∧ b < w.heap.size) _ W0 (HV1.out.bound.move fun b hb => HBW0.out.block b hb.2) HWV.out)
    go_enter Tryz.func22, Tryz.ntmps22
    go_wp2_with fail
    rw [← HW0.out]
    refine HGET.out.mono ?_
    rintro e' w4 ⟨a0, a1, s, S3, S4, S5, n3, m3, n4, m4, n5, m5, rfl, hvd, hb4⟩
    have HB4 := Lib.hid hb4
    have HB4W := Lib.hid (below_trans HBW0.out hb4)
    have HVD := Lib.hid (hvd.mono (ok' := fun b => ok b ∧ b < w.heap.size) fun b hb => hb.1)
    clear hb4 hvd
    obtain ⟨hq1, hq2, hq3⟩ := HFAR.out w4 HB4.out
    have x0 : w4.cell? ⟨w.heap.size + 1 + 1, 0, none⟩ = some (.int .i64 0) := by simp [World.cell?, hq3]
    have x1 : w4.cell? ⟨w.heap.size + 1 + 1, 1, none⟩ = some (.int .i64 0) := by simp [World.cell?, hq3]
    have x2 : w4.cell? ⟨w.heap.size + 1 + 1, 2, none⟩ = some (.string ⟨#[]⟩) := by simp [World.cell?, hq3]
    have x3 : w4.cell? ⟨w.heap.size + 1 + 1, 3, none⟩ = some (.slice none 0 0) := by simp [World.cell?, hq3]
    have x4 : w4.cell? ⟨w.heap.size + 1 + 1, 4, none⟩ = some (.slice none 0 0) := by simp [World.cell?, hq3]
    have x5 : w4.cell? ⟨w.heap.size + 1 + 1, 5, none⟩ = some (.slice none 0 0) := by simp [World.cell?, hq3]
    have xf : ∀ i, w4.frozen? ⟨w.heap.size + 1 + 1, i, none⟩ = false := fun i => by simp [World.frozen?, hq3]
    clear hq1 hq2 hq3
    go_wp2_with fail
    refine bodyPost_ret (v := .tuple #[.agg #[.int .i64 a0, .int .i64 a1, .string s, .slice S3 n3 m3, .slice S4 n4 m4, .slice S5 n5 m5], .int .i64 0]) (by simp [results, Tryz.results22, go_sem, x0, x1, x2, x3, x4, x5]) rfl ?_
    exact ⟨_, a0, a1, s, S3, S4, S5, n3, m3, n4, m4, n5, m5, 0, rfl, set6v _ _ _ _ _ _ HVD.out (fun b hb => ⟨by omega, hb⟩), .inr (.inr ⟨rfl, .key rfl rfl⟩), below6v _ _ _ _ _ _ HB4W.out HLE.out⟩
set_option maxHeartbeats 8000000 in
theorem specIndex_k5 (v k : V) (ok : Nat → Prop) (cs1 cs2 : List Value) (w : World) (hv : Vr w ok v cs1) (hk : Vr w ok k cs2) (wv : WF v) (wk : WF k) (hkk : k.kind = 5) (lv : v.list.length ≤ 1000000) (tv : v.text.size ≤ 2000) (vv : Lib.validD v.text.data.toList = true) :
    Calls Tryz.prog 22 #[.agg cs1.toArray, .agg cs2.toArray] w (IdxPost ok (IdxS v k) w) := by
  have HV1 := Lib.hid hv
  have HV2 := Lib.hid hk
  have HWV := Lib.hid wv
  have HK := Lib.hid wk
  have HLV := Lib.hid lv
  have HTV := Lib.hid tv
  have HVV := Lib.hid vv
  have hkv : v.kind = 0 ∨ v.kind = 1 ∨ v.kind = 2 ∨ v.kind = 3 ∨ v.kind = 4 ∨ v.kind = 5 ∨ v.kind = 6 := by
    rcases kinds wv with ⟨h, _⟩ | ⟨h, _⟩ | ⟨h, _⟩ | ⟨h, _⟩ | ⟨h, _⟩ | ⟨h, _⟩ | ⟨h, _⟩ | ⟨h, _⟩ <;> omega
  obtain ⟨k1, h1, t1, l1, ks1, vs1, P1, p1, Q1, q1, R1, r1, f1, g1, i1, i2, i3, i4, i5, i6, i7, i8, i9, i10, ra, ea, i13, i14, i15⟩ := hv
  have hrow : RowAt w ok 6 P1 l1.length f1 := ra
  have hel := ea
  clear i1 i2 i3 i4 i5 i6 i7 i8 i9 i10 i13 i14 i15 ra ea
  obtain ⟨k2, h2, t2, l2, ks2, vs2, P2, p2, Q2, q2, R2, r2, f2, g2, i1, i2, i3, i4, i5, i6, i7, i8, i9, i10, i11, i12, i13, i14, i15⟩ := hk
  clear i1 i2 i3 i4 i5 i6 i7 i8 i9 i10 i11 i12 i13 i14 i15
  simp only [V.kind] at hkk
  subst hkk
  obtain ⟨nl, hnl⟩ : ∃ nl, nl = l1.length := ⟨_, rfl⟩
  rw [← hnl] at HV1 hrow ⊢
  have HNL := Lib.hid hnl
  have HROW := Lib.hid hrow
  have HEL := Lib.hid hel
  have hnl6 : nl ≤ 1000000 := by rw [hnl]; exact lv
  clear hnl hrow hel lv tv vv wv wk
  obtain ⟨W0, hW0⟩ : ∃ W0, W0 = ((w.alloc (.cells #[.int .i64 k1, .int .i64 h1, .string t1, .slice P1 nl p1, .slice Q1 ks1.length q1, .slice R1 vs1.length r1] 26)).alloc (.cells #[.int .i64 5, .int .i64 h2, .string t2, .slice P2 l2.length p2, .slice Q2 ks2.length q2, .slice R2 vs2.length r2] 26)).alloc (.cells #[.int .i64 0, .int .i64 0, .string ⟨#[]⟩, .slice none 0 0, .slice none 0 0, .slice none 0 0] 26) := ⟨_, rfl⟩
  have hBW0 : Below w.heap.size w W0 := by rw [hW0]; exact ((((Below.refl _ _).alloc (Nat.le_refl _) _).alloc (by (try simp); (try omega)) _).alloc (by (try simp); (try omega)) _)
  have hSW0 : W0.heap.size = w.heap.size + 3 := by rw [hW0]; simp
  have hD0 : W0.heap[w.heap.size]? = some (.cells #[.int .i64 k1, .int .i64 h1, .string t1, .slice P1 nl p1, .slice Q1 ks1.length q1, .slice R1 vs1.length r1] 26) := by
    rw [hW0]
    have := heap_alloc_new w (.cells #[.int .i64 k1, .int .i64 h1, .string t1, .slice P1 nl p1, .slice Q1 ks1.length q1, .slice R1 vs1.length r1] 26)
    exact (Below.heap_alloc _ _ _ (by (try simp); (try omega))).trans ((Below.heap_alloc _ _ _ (by (try simp); (try omega))).trans (this))
  have hD1 : W0.heap[w.heap.size + 1]? = some (.cells #[.int .i64 5, .int .i64 h2, .string t2, .slice P2 l2.length p2, .slice Q2 ks2.length q2, .slice R2 vs2.length r2] 26) := by
    rw [hW0]
    have := heap_alloc_new (w.alloc (.cells #[.int .i64 k1, .int .i64 h1, .string t1, .slice P1 nl p1, .slice Q1 ks1.length q1, .slice R1 vs1.length r1] 26)) (.cells #[.int .i64 5, .int .i64 h2, .string t2, .slice P2 l2.length p2, .slice Q2 ks2.length q2, .slice R2 vs2.length r2] 26)
    rw [show (w.alloc (.cells #[.int .i64 k1, .int .i64 h1, .string t1, .slice P1 nl p1, .slice Q1 ks1.length q1, .slice R1 vs1.length r1] 26)).heap.size = w.heap.size + 1 from by simp] at this
    exact (Below.heap_alloc _ _ _ (by (try simp); (try omega))).trans (this)
  have hD2 : W0.heap[w.heap.size + 2]? = some (.cells #[.int .i64 0, .int .i64 0, .string ⟨#[]⟩, .slice none 0 0, .slice none 0 0, .slice none 0 0] 26) := by
    rw [hW0]
    have := heap_alloc_new ((w.alloc (.cells #[.int .i64 k1, .int .i64 h1, .string t1, .slice P1 nl p1, .slice Q1 ks1.length q1, .slice R1 vs1.length r1] 26)).alloc (.cells #[.int .i64 5, .int .i64 h2, .string t2, .slice P2 l2.length p2, .slice Q2 ks2.length q2, .slice R2 vs2.length r2] 26)) (.cells #[.int .i64 0, .int .i64 0, .string ⟨#[]⟩, .slice none 0 0, .slice none 0 0, .slice none 0 0] 26)
    rw [show ((w.alloc (.cells #[.int .i64 k1, .int .i64 h1, .string t1, .slice P1 nl p1, .slice Q1 ks1.length q1, .slice R1 vs1.length r1] 26)).alloc (.cells #[.int .i64 5, .int .i64 h2, .string t2, .slice P2 l2.length p2, .slice Q2 ks2.length q2, .slice R2 vs2.length r2] 26)).heap.size = w.heap.size + 2 from by simp] at this
    exact this
  have hfar : ∀ W, Below W0.heap.size W0 W → W.heap[w.heap.size]? = some (.cells #[.int .i64 k1, .int .i64 h1, .string t1, .slice P1 nl p1, .slice Q1 ks1.length q1, .slice R1 vs1.length r1] 26) ∧ W.heap[w.heap.size + 1]? = some (.cells #[.int .i64 5, .int .i64 h2, .string t2, .slice P2 l2.length p2, .slice Q2 ks2.length q2, .slice R2 vs2.length r2] 26) ∧ W.heap[w.heap.size + 2]? = some (.cells #[.int .i64 0, .int .i64 0, .string ⟨#[]⟩, .slice none 0 0, .slice none 0 0, .slice none 0 0] 26) := fun W hb => ⟨(hb.block _ (by omega)).trans hD0, (hb.block _ (by omega)).trans hD1, (hb.block _ (by omega)).trans hD2⟩
  have HFAR := Lib.hid hfar
  have HW0 := Lib.hid hW0
  have HBW0 := Lib.hid hBW0
  have HSW0 := Lib.hid hSW0
  clear hfar hW0 hBW0 hSW0 hD0 hD1 hD2
  have HLE := Lib.hid (show w.heap.size ≤ w.heap.size + 1 + 1 by omega)
  simp only [V.kind] at hkv
  rcases hkv with rfl | rfl | rfl | rfl | rfl | rfl | rfl
  · go_enter Tryz.func22, Tryz.ntmps22
    go_wp2_with fail
    rw [← HW0.out]
    obtain ⟨hq1, hq2, hq3⟩ := HFAR.out W0 (Below.refl _ _)
    have x0 : W0.cell? ⟨w.heap.size + 1 + 1, 0, none⟩ = some (.int .i64 0) := by simp [World.cell?, hq3]
    have x1 : W0.cell? ⟨w.heap.size + 1 + 1, 1, none⟩ = some (.int .i64 0) := by simp [World.cell?, hq3]
    have x2 : W0.cell? ⟨w.heap.size + 1 + 1, 2, none⟩ = some (.string ⟨#[]⟩) := by simp [World.cell?, hq3]
    have x3 : W0.cell? ⟨w.heap.size + 1 + 1, 3, none⟩ = some (.slice none 0 0) := by simp [World.cell?, hq3]
    have x4 : W0.cell? ⟨w.heap.size + 1 + 1, 4, none⟩ = some (.slice none 0 0) := by simp [World.cell?, hq3]
    have x5 : W0.cell? ⟨w.heap.size + 1 + 1, 5, none⟩ = some (.slice none 0 0) := by simp [World.cell?, hq3]
    have xf : ∀ i, W0.frozen? ⟨w.heap.size + 1 + 1, i, none⟩ = false := fun i => by simp [World.frozen?, hq3]
    clear hq1 hq2 hq3
    refine bodyPost_ret (v := .tuple #[.agg #[.int .i64 0, .int .i64 0, .string ⟨#[]⟩, .slice none 0 0, .slice none 0 0, .slice none 0 0], .int .i64 2]) (by simp [results, Tryz.results22, go_sem, x0, x1, x2, x3, x4, x5]) rfl ?_
    exact ⟨zeroV0, 0, 0, ⟨#[]⟩, none, none, none, 0, 0, 0, 0, 0, 0, 2, rfl, vr_plain' 0 0 (by decide) (by decide), .inl rfl, HBW0.out⟩
  · go_enter Tryz.func22, Tryz.ntmps22
    go_wp2_with fail
    rw [← HW0.out]
    obtain ⟨hq1, hq2, hq3⟩ := HFAR.out W0 (Below.refl _ _)
    have x0 : W0.cell? ⟨w.heap.size + 1 + 1, 0, none⟩ = some (.int .i64 0) := by simp [World.cell?, hq3]
    have x1 : W0.cell? ⟨w.heap.size + 1 + 1, 1, none⟩ = some (.int .i64 0) := by simp [World.cell?, hq3]
    have x2 : W0.cell? ⟨w.heap.size + 1 + 1, 2, none⟩ = some (.string ⟨#[]⟩) := by simp [World.cell?, hq3]
    have x3 : W0.cell? ⟨w.heap.size + 1 + 1, 3, none⟩ = some (.slice none 0 0) := by simp [World.cell?, hq3]
    have x4 : W0.cell? ⟨w.heap.size + 1 + 1, 4, none⟩ = some (.slice none 0 0) := by simp [World.cell?, hq3]
    have x5 : W0.cell? ⟨w.heap.size + 1 + 1, 5, none⟩ = some (.slice none 0 0) := by simp [World.cell?, hq3]
    have xf : ∀ i, W0.frozen? ⟨w.heap.size + 1 + 1, i, none⟩ = false := fun i => by simp [World.frozen?, hq3]
    clear hq1 hq2 hq3
    refine bodyPost_ret (v := .tuple #[.agg #[.int .i64 0, .int .i64 0, .string ⟨#[]⟩, .slice none 0 0, .slice none 0 0, .slice none 0 0], .int .i64 1]) (by simp [results, Tryz.results22, go_sem, x0, x1, x2, x3, x4, x5]) rfl ?_
    exact ⟨zeroV0, 0, 0, ⟨#[]⟩, none, none, none, 0, 0, 0, 0, 0, 0, 1, rfl, vr_plain' 0 0 (by decide) (by decide), .inr (.inl ⟨rfl, .none (by simp [V.kind]) (by simp [V.kind]) (by simp [V.kind]) (by simp [V.kind]) (by simp [V.kind]) (by simp [V.kind])⟩), HBW0.out⟩
  · go_enter Tryz.func22, Tryz.ntmps22
    go_wp2_with fail
    rw [← HW0.out]
    obtain ⟨hq1, hq2, hq3⟩ := HFAR.out W0 (Below.refl _ _)
    have x0 : W0.cell? ⟨w.heap.size + 1 + 1, 0, none⟩ = some (.int .i64 0) := by simp [World.cell?, hq3]
    have x1 : W0.cell? ⟨w.heap.size + 1 + 1, 1, none⟩ = some (.int .i64 0) := by simp [World.cell?, hq3]
    have x2 : W0.cell? ⟨w.heap.size + 1 + 1, 2, none⟩ = some (.string ⟨#[]⟩) := by simp [World.cell?, hq3]
    have x3 : W0.cell? ⟨w.heap.size + 1 + 1, 3, none⟩ = some (.slice none 0 0) := by simp [World.cell?, hq3]
    have x4 : W0.cell? ⟨w.heap.size + 1 + 1, 4, none⟩ = some (.slice none 0 0) := by simp [World.cell?, hq3]
    have x5 : W0.cell? ⟨w.heap.size + 1 + 1, 5, none⟩ = some (.slice none 0 0) := by simp [World.cell?, hq3]
    have xf : ∀ i, W0.frozen? ⟨w.heap.size + 1 + 1, i, none⟩ = false := fun i => by simp [World.frozen?, hq3]
    clear hq1 hq2 hq3
    refine bodyPost_ret (v := .tuple #[.agg #[.int .i64 0, .int .i64 0, .string ⟨#[]⟩, .slice none 0 0, .slice none 0 0, .slice none 0 0], .int .i64 1]) (by simp [results, Tryz.results22, go_sem, x0, x1, x2, x3, x4, x5]) rfl ?_
    exact ⟨zeroV0, 0, 0, ⟨#[]⟩, none, none, none, 0, 0, 0, 0, 0, 0, 1, rfl, vr_plain' 0 0 (by decide) (by decide), .inr (.inl ⟨rfl, .none (by simp [V.kind]) (by simp [V.kind]) (by simp [V.kind]) (by simp [V.kind]) (by simp [V.kind]) (by simp [V.kind])⟩), HBW0.out⟩
  · go_enter Tryz.func22, Tryz.ntmps22
    go_wp2_with fail
    rw [← HW0.out]
    obtain ⟨hq1, hq2, hq3⟩ := HFAR.out W0 (Below.refl _ _)
    have x0 : W0.cell? ⟨w.heap.size + 1 + 1, 0, none⟩ = some (.int .i64 0) := by simp [World.cell?, hq3]
    have x1 : W0.cell? ⟨w.heap.size + 1 + 1, 1, none⟩ = some (.int .i64 0) := by simp [World.cell?, hq3]
    have x2 : W0.cell? ⟨w.heap.size + 1 + 1, 2, none⟩ = some (.string ⟨#[]⟩) := by simp [World.cell?, hq3]
    have x3 : W0.cell? ⟨w.heap.size + 1 + 1, 3, none⟩ = some (.slice none 0 0) := by simp [World.cell?, hq3]
    have x4 : W0.cell? ⟨w.heap.size + 1 + 1, 4, none⟩ = some (.slice none 0 0) := by simp [World.cell?, hq3]
    have x5 : W0.cell? ⟨w.heap.size + 1 + 1, 5, none⟩ = some (.slice none 0 0) := by simp [World.cell?, hq3]
    have xf : ∀ i, W0.frozen? ⟨w.heap.size + 1 + 1, i, none⟩ = false := fun i => by simp [World.frozen?, hq3]
    clear hq1 hq2 hq3
    refine bodyPost_ret (v := .tuple #[.agg #[.int .i64 0, .int .i64 0, .string ⟨#[]⟩, .slice none 0 0, .slice none 0 0, .slice none 0 0], .int .i64 1]) (by simp [results, Tryz.results22, go_sem, x0, x1, x2, x3, x4, x5]) rfl ?_
    exact ⟨zeroV0, 0, 0, ⟨#[]⟩, none, none, none, 0, 0, 0, 0, 0, 0, 1, rfl, vr_plain' 0 0 (by decide) (by decide), .inr (.inl ⟨rfl, .none (by simp [V.kind]) (by simp [V.kind]) (by simp [V.kind]) (by simp [V.kind]) (by simp [V.kind]) (by simp [V.kind])⟩), HBW0.out⟩
  · go_enter Tryz.func22, Tryz.ntmps22
    go_wp2_with fail
    rw [← HW0.out]
    obtain ⟨hq1, hq2, hq3⟩ := HFAR.out W0 (Below.refl _ _)
    have x0 : W0.cell? ⟨w.heap.size + 1 + 1, 0, none⟩ = some (.int .i64 0) := by simp [World.cell?, hq3]
    have x1 : W0.cell? ⟨w.heap.size + 1 + 1, 1, none⟩ = some (.int .i64 0) := by simp [World.cell?, hq3]
    have x2 : W0.cell? ⟨w.heap.size + 1 + 1, 2, none⟩ = some (.string ⟨#[]⟩) := by simp [World.cell?, hq3]
    have x3 : W0.cell? ⟨w.heap.size + 1 + 1, 3, none⟩ = some (.slice none 0 0) := by simp [World.cell?, hq3]
    have x4 : W0.cell? ⟨w.heap.size + 1 + 1, 4, none⟩ = some (.slice none 0 0) := by simp [World.cell?, hq3]
    have x5 : W0.cell? ⟨w.heap.size + 1 + 1, 5, none⟩ = some (.slice none 0 0) := by simp [World.cell?, hq3]
    have xf : ∀ i, W0.frozen? ⟨w.heap.size + 1 + 1, i, none⟩ = false := fun i => by simp [World.frozen?, hq3]
    clear hq1 hq2 hq3
    refine bodyPost_ret (v := .tuple #[.agg #[.int .i64 0, .int .i64 0, .string ⟨#[]⟩, .slice none 0 0, .slice none 0 0, .slice none 0 0], .int .i64 1]) (by simp [results, Tryz.results22, go_sem, x0, x1, x2, x3, x4, x5]) rfl ?_
    exact ⟨zeroV0, 0, 0, ⟨#[]⟩, none, none, none, 0, 0, 0, 0, 0, 0, 1, rfl, vr_plain' 0 0 (by decide) (by decide), .inr (.inl ⟨rfl, .none (by simp [V.kind]) (by simp [V.kind]) (by simp [V.kind]) (by simp [V.kind]) (by simp [V.kind]) (by simp [V.kind])⟩), HBW0.out⟩
  · go_enter Tryz.func22, Tryz.ntmps22
    go_wp2_with fail
    rw [← HW0.out]
    obtain ⟨hq1, hq2, hq3⟩ := HFAR.out W0 (Below.refl _ _)
    have x0 : W0.cell? ⟨w.heap.size + 1 + 1, 0, none⟩ = some (.int .i64 0) := by simp [World.cell?, hq3]
    have x1 : W0.cell? ⟨w.heap.size + 1 + 1, 1, none⟩ = some (.int .i64 0) := by simp [World.cell?, hq3]
    have x2 : W0.cell? ⟨w.heap.size + 1 + 1, 2, none⟩ = some (.string ⟨#[]⟩) := by simp [World.cell?, hq3]
    have x3 : W0.cell? ⟨w.heap.size + 1 + 1, 3, none⟩ = some (.slice none 0 0) := by simp [World.cell?, hq3]
    have x4 : W0.cell? ⟨w.heap.size + 1 + 1, 4, none⟩ = some (.slice none 0 0) := by simp [World.cell?, hq3]
    have x5 : W0.cell? ⟨w.heap.size + 1 + 1, 5, none⟩ = some (.slice none 0 0) := by simp [World.cell?, hq3]
    have xf : ∀ i, W0.frozen? ⟨w.heap.size + 1 + 1, i, none⟩ = false := fun i => by simp [World.frozen?, hq3]
    clear hq1 hq2 hq3
    refine bodyPost_ret (v := .tuple #[.agg #[.int .i64 0, .int .i64 0, .string ⟨#[]⟩, .slice none 0 0, .slice none 0 0, .slice none 0 0], .int .i64 2]) (by simp [results, Tryz.results22, go_sem, x0, x1, x2, x3, x4, x5]) rfl ?_
    exact ⟨zeroV0, 0, 0, ⟨#[]⟩, none, none, none, 0, 0, 0, 0, 0, 0, 2, rfl, vr_plain' 0 0 (by decide) (by decide), .inl rfl, HBW0.out⟩
  · go_enter Tryz.func22, Tryz.ntmps22
    go_wp2_with fail
    rw [← HW0.out]
    obtain ⟨hq1, hq2, hq3⟩ := HFAR.out W0 (Below.refl _ _)
    have x0 : W0.cell? ⟨w.heap.size + 1 + 1, 0, none⟩ = some (.int .i64 0) := by simp [World.cell?, hq3]
    have x1 : W0.cell? ⟨w.heap.size + 1 + 1, 1, none⟩ = some (.int .i64 0) := by simp [World.cell?, hq3]
    have x2 : W0.cell? ⟨w.heap.size + 1 + 1, 2, none⟩ = some (.string ⟨#[]⟩) := by simp [World.cell?, hq3]
    have x3 : W0.cell? ⟨w.heap.size + 1 + 1, 3, none⟩ = some (.slice none 0 0) := by simp [World.cell?, hq3]
    have x4 : W0.cell? ⟨w.heap.size + 1 + 1, 4, none⟩ = some (.slice none 0 0) := by simp [World.cell?, hq3]
    have x5 : W0.cell? ⟨w.heap.size + 1 + 1, 5, none⟩ = some (.slice none 0 0) := by simp [World.cell?, hq3]
    have xf : ∀ i, W0.frozen? ⟨w.heap.size + 1 + 1, i, none⟩ = false := fun i => by simp [World.frozen?, hq3]
    clear hq1 hq2 hq3
    refine bodyPost_ret (v := .tuple #[.agg #[.int .i64 0, .int .i64 0, .string ⟨#[]⟩, .slice none 0 0, .slice none 0 0, .slice none 0 0], .int .i64 1]) (by simp [results, Tryz.results22, go_sem, x0, x1, x2, x3, x4, x5]) rfl ?_
    exact ⟨zeroV0, 0, 0, ⟨#[]⟩, none, none, none, 0, 0, 0, 0, 0, 0, 1, rfl, vr_plain' 0 0 (by decide) (by decide), .inr (.inl ⟨rfl, .none (by simp [V.kind]) (by simp [V.kind]) (by simp [V.kind]) (by simp [V.kind]) (by simp [V.kind]) (by simp [V.kind])⟩), HBW0.out⟩
set_option maxHeartbeats 8000000 in
theorem specIndex_k6 (v k : V) (ok : Nat → Prop) (cs1 cs2 : List Value) (w : World) (hv : Vr w ok v cs1) (hk : Vr w ok k cs2) (wv : WF v) (wk : WF k) (hkk : k.kind = 6) (lv : v.list.length ≤ 1000000) (tv : v.text.size ≤ 2000) (vv : Lib.validD v.text.data.toList = true) :
    Calls Tryz.prog 22 #[.agg cs1.toArray, .agg cs2.toArray] w (IdxPost ok (IdxS v k) w) := by
  have HV1 := Lib.hid hv
  have HV2 := Lib.hid hk
  have HWV := Lib.hid wv
  have HK := Lib.hid wk
  have HLV := Lib.hid lv
  have HTV := Lib.hid tv
  have HVV := Lib.hid vv
  have hkv : v.kind = 0 ∨ v.kind = 1 ∨ v.kind = 2 ∨ v.kind = 3 ∨ v.kind = 4 ∨ v.kind = 5 ∨ v.kind = 6 := by
    rcases kinds wv with ⟨h, _⟩ | ⟨h, _⟩ | ⟨h, _⟩ | ⟨h, _⟩ | ⟨h, _⟩ | ⟨h, _⟩ | ⟨h, _⟩ | ⟨h, _⟩ <;> omega
  obtain ⟨k1, h1, t1, l1, ks1, vs1, P1, p1, Q1, q1, R1, r1, f1, g1, i1, i2, i3, i4, i5, i6, i7, i8, i9, i10, ra, ea, i13, i14, i15⟩ := hv
  have hrow : RowAt w ok 6 P1 l1.length f1 := ra
  have hel := ea
  clear i1 i2 i3 i4 i5 i6 i7 i8 i9 i10 i13 i14 i15 ra ea
  obtain ⟨k2, h2, t2, l2, ks2, vs2, P2, p2, Q2, q2, R2, r2, f2, g2, i1, i2, i3, i4, i5, i6, i7, i8, i9, i10, i11, i12, i13, i14, i15⟩ := hk
  clear i1 i2 i3 i4 i5 i6 i7 i8 i9 i10 i11 i12 i13 i14 i15
  simp only [V.kind] at hkk
  subst hkk
  obtain ⟨nl, hnl⟩ : ∃ nl, nl = l1.length := ⟨_, rfl⟩
  rw [← hnl] at HV1 hrow ⊢
  have HNL := Lib.hid hnl
  have HROW := Lib.hid hrow
  have HEL := Lib.hid hel
  have hnl6 : nl ≤ 1000000 := by rw [hnl]; exact lv
  clear hnl hrow hel lv tv vv wv wk
  obtain ⟨W0, hW0⟩ : ∃ W0, W0 = ((w.alloc (.cells #[.int .i64 k1, .int .i64 h1, .string t1, .slice P1 nl p1, .slice Q1 ks1.length q1, .slice R1 vs1.length r1] 26)).alloc (.cells #[.int .i64 6, .int .i64 h2, .string t2, .slice P2 l2.length p2, .slice Q2 ks2.length q2, .slice R2 vs2.length r2] 26)).alloc (.cells #[.int .i64 0, .int .i64 0, .string ⟨#[]⟩, .slice none 0 0, .slice none 0 0, .slice none 0 0] 26) := ⟨_, rfl⟩
  have hBW0 : Below w.heap.size w W0 := by rw [hW0]; exact ((((Below.refl _ _).alloc (Nat.le_refl _) _).alloc (by (try simp); (try omega)) _).alloc (by (try simp); (try omega)) _)
  have hSW0 : W0.heap.size = w.heap.size + 3 := by rw [hW0]; simp
  have hD0 : W0.heap[w.heap.size]? = some (.cells #[.int .i64 k1, .int .i64 h1, .string t1, .slice P1 nl p1, .slice Q1 ks1.length q1, .slice R1 vs1.length r1] 26) := by
    rw [hW0]
    have := heap_alloc_new w (.cells #[.int .i64 k1, .int .i64 h1, .string t1, .slice P1 nl p1, .slice Q1 ks1.length q1, .slice R1 vs1.length r1] 26)
    exact (Below.heap_alloc _ _ _ (by (try simp); (try omega))).trans ((Below.heap_alloc _ _ _ (by (try simp); (try omega))).trans (this))
  have hD1 : W0.heap[w.heap.size + 1]? = some (.cells #[.int .i64 6, .int .i64 h2, .string t2, .slice P2 l2.length p2, .slice Q2 ks2.length q2, .slice R2 vs2.length r2] 26) := by
    rw [hW0]
    have := heap_alloc_new (w.alloc (.cells #[.int .i64 k1, .int .i64 h1, .string t1, .slice P1 nl p1, .slice Q1 ks1.length q1, .slice R1 vs1.length r1] 26)) (.cells #[.int .i64 6, .int .i64 h2, .string t2, .slice P2 l2.length p2, .slice Q2 ks2.length q2, .slice R2 vs2.length r2] 26)
    rw [show (w.alloc (.cells #[.int .i64 k1, .int .i64 h1, .string t1, .slice P1 nl p1, .slice Q1 ks1.length q1, .slice R1 vs1.length r1] 26)).heap.size = w.heap.size + 1 from by simp] at this
    exact (Below.heap_alloc _ _ _ (by (try simp); (try omega))).trans (this)
  have hD2 : W0.heap[w.heap.size + 2]? = some (.cells #[.int .i64 0, .int .i64 0, .string ⟨#[]⟩, .slice none 0 0, .slice none 0 0, .slice none 0 0] 26) := by
    rw [hW0]
    have := heap_alloc_new ((w.alloc (.cells #[.int .i64 k1, .int .i64 h1, .string t1, .slice P1 nl p1, .slice Q1 ks1.length q1, .slice R1 vs1.length r1] 26)).alloc (.cells #[.int .i64 6, .int .i64 h2, .string t2, .slice P2 l2.length p2, .slice Q2 ks2.length q2, .slice R2 vs2.length r2] 26)) (.cells #[.int .i64 0, .int .i64 0, .string ⟨#[]⟩, .slice none 0 0, .slice none 0 0, .slice none 0 0] 26)
    rw [show ((w.alloc (.cells #[.int .i64 k1, .int .i64 h1, .string t1, .slice P1 nl p1, .slice Q1 ks1.length q1, .slice R1 vs1.length r1] 26)).alloc (.cells #[.int .i64 6, .int .i64 h2, .string t2, .slice P2 l2.length p2, .slice Q2 ks2.length q2, .slice R2 vs2.length r2] 26)).heap.size = w.heap.size + 2 from by simp] at this
    exact this
  have hfar : ∀ W, Below W0.heap.size W0 W → W.heap[w.heap.size]? = some (.cells #[.int .i64 k1, .int .i64 h1, .string t1, .slice P1 nl p1, .slice Q1 ks1.length q1, .slice R1 vs1.length r1] 26) ∧ W.heap[w.heap.size + 1]? = some (.cells #[.int .i64 6, .int .i64 h2, .string t2, .slice P2 l2.length p2, .slice Q2 ks2.length q2, .slice R2 vs2.length r2] 26) ∧ W.heap[w.heap.size + 2]? = some (.cells #[.int .i64 0, .int .i64 0, .string ⟨#[]⟩, .slice none 0 0, .slice none 0 0, .slice none 0 0] 26) := fun W hb => ⟨(hb.block _ (by omega)).trans hD0, (hb.block _ (by omega)).trans hD1, (hb.block _ (by omega)).trans hD2⟩
  have HFAR := Lib.hid hfar
  have HW0 := Lib.hid hW0
  have HBW0 := Lib.hid hBW0
  have HSW0 := Lib.hid hSW0
  clear hfar hW0 hBW0 hSW0 hD0 hD1 hD2
  have HLE := Lib.hid (show w.heap.size ≤ w.heap.size + 1 + 1 by omega)
  simp only [V.kind] at hkv
  have hv7 : ¬ k1 = 7 := by omega
  have HCUT := Lib.hid (cut_any (V.mk k1 h1 t1 l1 ks1 vs1) (V.mk 6 h2 t2 l2 ks2 vs2) (fun b => ok b ∧ b < w.heap.size) _ _ W0 ((HV1.out.bound.move fun b hb => HBW0.out.block b hb.2)) ((HV2.out.bound.move fun b hb => HBW0.out.block b hb.2)) HWV.out HK.out rfl HLV.out HTV.out HVV.out)
  clear hkv
  go_enter Tryz.func22, Tryz.ntmps22
  go_wp2_with fail
  rw [← HW0.out]
  refine HCUT.out.mono ?_
  rintro e' w4 ⟨d, a0, a1, s, S3, S4, S5, n3, m3, n4, m4, n5, m5, code, rfl, hvd, hTd, hb4⟩
  have HB4 := Lib.hid hb4
  have HB4W := Lib.hid (below_trans HBW0.out hb4)
  have HVD := Lib.hid (hvd.mono (ok' := fun b => ok b ∧ b < w.heap.size) fun b hb => hb.1)
  have HTD := Lib.hid hTd
  clear hb4 hvd hTd
  obtain ⟨hq1, hq2, hq3⟩ := HFAR.out w4 HB4.out
  have x0 : w4.cell? ⟨w.heap.size + 1 + 1, 0, none⟩ = some (.int .i64 0) := by simp [World.cell?, hq3]
  have x1 : w4.cell? ⟨w.heap.size + 1 + 1, 1, none⟩ = some (.int .i64 0) := by simp [World.cell?, hq3]
  have x2 : w4.cell? ⟨w.heap.size + 1 + 1, 2, none⟩ = some (.string ⟨#[]⟩) := by simp [World.cell?, hq3]
  have x3 : w4.cell? ⟨w.heap.size + 1 + 1, 3, none⟩ = some (.slice none 0 0) := by simp [World.cell?, hq3]
  have x4 : w4.cell? ⟨w.heap.size + 1 + 1, 4, none⟩ = some (.slice none 0 0) := by simp [World.cell?, hq3]
  have x5 : w4.cell? ⟨w.heap.size + 1 + 1, 5, none⟩ = some (.slice none 0 0) := by simp [World.cell?, hq3]
  have xf : ∀ i, w4.frozen? ⟨w.heap.size + 1 + 1, i, none⟩ = false := fun i => by simp [World.frozen?, hq3]
  clear hq1 hq2 hq3
  go_wp2_with fail
  refine bodyPost_ret (v := .tuple #[.agg #[.int .i64 a0, .int .i64 a1, .string s, .slice S3 n3 m3, .slice S4 n4 m4, .slice S5 n5 m5], .int .i64 code]) (by simp [results, Tryz.results22, go_sem, x0, x1, x2, x3, x4, x5]) rfl ?_
  exact ⟨d, a0, a1, s, S3, S4, S5, n3, m3, n4, m4, n5, m5, code, rfl, set6v _ _ _ _ _ _ HVD.out (fun b hb => ⟨by omega, hb⟩), HTD.out, below6v _ _ _ _ _ _ HB4W.out HLE.out⟩
theorem specIndex_any (v k : V) (ok : Nat → Prop) (cs1 cs2 : List Value) (w : World) (hv : Vr w ok v cs1) (hk : Vr w ok k cs2) (wv : WF v) (wk : WF k) (lv : v.list.length ≤ 1000000) (tv : v.text.size ≤ 2000) (vv : Lib.validD v.text.data.toList = true) :
    Calls Tryz.prog 22 #[.agg cs1.toArray, .agg cs2.toArray] w (IdxPost ok (IdxS v k) w) := by
  rcases kinds wk with ⟨h, _⟩ | ⟨h, _⟩ | ⟨h, _⟩ | ⟨h, _⟩ | ⟨h, _⟩ | ⟨h, _⟩ | ⟨h, _⟩ | ⟨h, _⟩
  · exact specIndex_k0 v k ok cs1 cs2 w hv hk wv wk h lv tv vv
  · exact specIndex_k1 v k ok cs1 cs2 w hv hk wv wk h lv tv vv
  · exact specIndex_k2 v k ok cs1 cs2 w hv hk wv wk h lv tv vv
  · exact specIndex_k3 v k ok cs1 cs2 w hv hk wv wk h lv tv vv
  · exact specIndex_k3 v k ok cs1 cs2 w hv hk wv wk h lv tv vv
  · exact specIndex_k4 v k ok cs1 cs2 w hv hk wv wk h lv tv vv
  · exact specIndex_k5 v k ok cs1 cs2 w hv hk wv wk h lv tv vv
  · exact specIndex_k6 v k ok cs1 cs2 w hv hk wv wk h lv tv vv
end Go.Proofs.YtpamlgdcnmcedaaGreatDoor
