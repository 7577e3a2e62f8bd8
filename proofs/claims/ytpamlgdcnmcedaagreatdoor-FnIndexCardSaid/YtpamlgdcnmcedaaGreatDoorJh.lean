/- spec.points, spec.Str, spec.cut. -/
import Derived.Test.YtpamlgdcnmcedaaGreatDoorJx
set_option linter.unusedVariables false
set_option linter.unusedSimpArgs false
set_option maxRecDepth 100000
namespace Go.Proofs.YtpamlgdcnmcedaaGreatDoor
open Go Go.RowKit
theorem points_any (s : ByteArray) (hs : s.size ≤ 2000) (w : World) : Calls Tryz.prog 112 #[.string s] w fun e w' => ∃ (b cap : Nat), e = .returned (.slice (some ⟨b, 0, none⟩) (ptsS s).length cap) ∧ (ptsS s).length ≤ cap ∧ w.heap.size ≤ b ∧ Below w.heap.size w w' ∧
    ∀ (j : Nat) (p : Nat × List UInt8), (ptsS s)[j]? = some p → w'.cell? ⟨b, j, none⟩ = some (.int .i32 (Int.ofNat p.1)) := by
  obtain ⟨W1, cap, hconv, hle, hbc, hcell⟩ := conv_runes s hs w
  have HCELL := Lib.hid hcell
  have HBC := Lib.hid hbc
  have HLE := Lib.hid hle
  clear hcell hbc hle
  go_enter Tryz.func112, Tryz.ntmps112
  go_wp2_with fail
  go_ret
  exact ⟨_, cap, rfl, HLE.out, Nat.le_refl _, HBC.out, HCELL.out⟩
theorem strV_any (s : ByteArray) (w : World) : Calls Tryz.prog 39 #[.string s] w fun e w' =>
    e = .returned (.agg #[.int .i64 4, .int .i64 0, .string s, .slice none 0 0, .slice none 0 0, .slice none 0 0]) ∧ Below w.heap.size w w' := by
  go_enter Tryz.func39, Tryz.ntmps39
  go_wp2_with fail
  refine bodyPost_ret (v := .agg #[.int .i64 4, .int .i64 0, .string s, .slice none 0 0, .slice none 0 0, .slice none 0 0]) (by simp [results, Tryz.results39, go_sem]) rfl ?_
  exact ⟨rfl, (Below.refl _ _).alloc (Nat.le_refl _) _⟩
/-- The code points between two places, as a string. -/
theorem runes_part (s : ByteArray) (hv : Lib.validD s.data.toList = true) (f t : Nat) (h : f ≤ t) : runesBytes ((((ptsS s).take t).drop f).map fun p => (p.1 : Int)) = s.extract (offP (ptsS s) f) (offP (ptsS s) t) := by
  have e1 := runes_back s hv (((ptsS s).take t).drop f) fun p hp => List.mem_of_mem_take (List.mem_of_mem_drop hp)
  have e2 := pts_between s f t h
  rw [← e2] at e1
  exact ByteArray.ext (Array.toList_inj.1 e1)
theorem conv_back (s : ByteArray) (hv : Lib.validD s.data.toList = true) (f t : Nat) (h : f ≤ t) (ht : t ≤ (ptsS s).length) (W : World) (b : Nat) (ad : Addr) (cap : Nat) (had : ∀ j, j < t - f → W.cell? (ad.add j) = W.cell? ⟨b, f + j, none⟩)
    (hcell : ∀ (j : Nat) (p : Nat × List UInt8), (ptsS s)[j]? = some p → W.cell? ⟨b, j, none⟩ = some (.int .i32 (Int.ofNat p.1))) :
    (convert 108 9 (.slice (some ad) (t - f) cap)).run Tryz.prog W = .ok (.string (s.extract (offP (ptsS s) f) (offP (ptsS s) t))) W := by
  have hl : ((((ptsS s).take t).drop f).map fun p => (p.1 : Int)).length = t - f := by rw [List.length_map, List.length_drop, List.length_take]; omega
  have key := run_convert_runes (P := Tryz.prog) W 108 9 21 ad (t - f) cap ((((ptsS s).take t).drop f).map fun p => (p.1 : Int)) (by omega) Tryz.underlying108 Tryz.underlying21 Tryz.underlying9 (fun j hj => by
    rw [hl] at hj
    rw [had j hj]
    obtain ⟨p, hp⟩ := at_lt (l := ptsS s) (p := f + j) (by omega)
    rw [hcell (f + j) p hp, List.getD_eq_getElem?_getD, List.getElem?_map, List.getElem?_drop, List.getElem?_take, if_pos (by omega), hp]
    rfl)
  rw [List.take_of_length_le (by omega), runes_part s hv f t h] at key
  exact key
theorem add_at (b m n : Nat) : (⟨b, m, none⟩ : Addr).add n = ⟨b, m + n, none⟩ := by
  unfold Addr.add
  split
  · rename_i h; rw [h, Nat.add_zero]
  · rfl
theorem vr_text {w : World} {ok : Nat → Prop} (s : ByteArray) (hs : s.size ≤ 2000) : Vr w ok (V.mk 4 0 s [] [] []) [.int .i64 4, .int .i64 0, .string s, .slice none 0 0, .slice none 0 0, .slice none 0 0] :=
  .mk 4 0 s [] [] [] none 0 none 0 none 0 (fun _ => []) (fun _ => []) (by omega) (Nat.le_refl _) (Nat.le_refl _) (Nat.le_refl _) (by decide) (by decide) (by decide) (by decide) (by decide) (fun i s h => by simp at h) (fun h => absurd h (by simp)) (fun i v h => by simp at h) (fun h => absurd h (by simp)) (fun h => absurd h (by simp)) (fun i v h => by simp at h)
/-- A part of an array. -/
theorem list_part {w : World} {ok : Nat → Prop} {l : List V} {A B : Option Addr} {f : Nat → List Value} {F T n : Nat} (r : RowAt w ok 6 A l.length f) (e : ∀ (i : Nat) (u : V), l[i]? = some u → Vr w ok u (f i)) (hT : T ≤ l.length) (hl : l.length ≤ 1000000) (hn : n = T - F)
    (hB : F < T → ∃ ad, A = some ad ∧ B = some (ad.add (F * 6))) : Vr w ok (V.mk 5 0 ⟨#[]⟩ ((l.take T).drop F) [] []) [.int .i64 5, .int .i64 0, .string ⟨#[]⟩, .slice B n n, .slice none 0 0, .slice none 0 0] := by
  have hlen : ((l.take T).drop F).length = n := by rw [List.length_drop, List.length_take]; omega
  have hgoal : Vr w ok (V.mk 5 0 ⟨#[]⟩ ((l.take T).drop F) [] []) [.int .i64 5, .int .i64 0, .string ⟨#[]⟩, .slice B ((l.take T).drop F).length n, .slice none 0 0, .slice none 0 0] := by
    refine .mk 5 0 ⟨#[]⟩ _ [] [] B n none 0 none 0 (fun i => f (F + i)) (fun _ => []) (by decide) (by omega) (Nat.le_refl _) (Nat.le_refl _) (by omega) (by decide) (by decide) (by decide) (by decide) (fun i s h => by simp at h) ?_ ?_ (fun h => absurd h (by simp)) (fun h => absurd h (by simp)) (fun i v h => by simp at h)
    · intro h0
      rw [hlen] at h0
      obtain ⟨ad, hA, hBe⟩ := hB (by omega)
      obtain ⟨ad', hA', ho, hcell⟩ := r (by omega)
      rw [hA] at hA'
      cases hA'
      refine ⟨ad.add (F * 6), hBe, by rw [block_add]; exact ho, fun i j u hi hu => ?_⟩
      rw [hlen] at hi
      have := hcell (F + i) j u (by omega) hu
      rw [Addr.add_add, show F * 6 + (i * 6 + j) = (F + i) * 6 + j by omega]
      exact this
    · intro i u hu
      rw [List.getElem?_drop, List.getElem?_take] at hu
      split at hu
      · exact e _ _ hu
      · cases hu
  rw [hlen] at hgoal
  exact hgoal
/-- A value of the reference's, and how it ended: of blocks that were there. -/
def IdxPost (ok : Nat → Prop) (T : V → Int → Prop) (w : World) (e : Ending) (w' : World) : Prop :=
  ∃ (d : V) (a0 a1 : Int) (s : ByteArray) (S3 S4 S5 : Option Addr) (n3 m3 n4 m4 n5 m5 : Nat) (code : Int), e = .returned (.tuple #[.agg #[.int .i64 a0, .int .i64 a1, .string s, .slice S3 n3 m3, .slice S4 n4 m4, .slice S5 n5 m5], .int .i64 code]) ∧
    Vr w' (fun b => ok b ∧ b < w.heap.size) d [.int .i64 a0, .int .i64 a1, .string s, .slice S3 n3 m3, .slice S4 n4 m4, .slice S5 n5 m5] ∧ T d code ∧ Below w.heap.size w w'

set_option maxHeartbeats 8000000 in
theorem cut_k0 (v k : V) (ok : Nat → Prop) (cs1 cs2 : List Value) (w : World) (hv : Vr w ok v cs1) (hk : Vr w ok k cs2) (hkv : v.kind = 0) (wk : WF k) (k6 : k.kind = 6) (lv : v.list.length ≤ 1000000) (tv : v.text.size ≤ 2000) (vv : Lib.validD v.text.data.toList = true) :
    Calls Tryz.prog 60 #[.agg cs1.toArray, .agg cs2.toArray] w (IdxPost ok (IdxS v k) w) := by
  have HV1 := Lib.hid hv
  have HV2 := Lib.hid hk
  have HK := Lib.hid wk
  have HK6 := Lib.hid k6
  have HLV := Lib.hid lv
  have HTV := Lib.hid tv
  have HVV := Lib.hid vv
  obtain ⟨k1, h1, t1, l1, ks1, vs1, P1, p1, Q1, q1, R1, r1, f1, g1, i1, i2, i3, i4, i5, i6, i7, i8, i9, i10, ra, ea, i13, i14, i15⟩ := hv
  have hnp : l1.length ≤ p1 := i2
  have hrow : RowAt w ok 6 P1 l1.length f1 := ra
  have hel := ea
  clear i1 i2 i3 i4 i5 i6 i7 i8 i9 i10 i13 i14 i15 ra ea
  obtain ⟨k2, h2, t2, l2, ks2, vs2, P2, p2, Q2, q2, R2, r2, f2, g2, i1, i2, i3, i4, i5, i6, i7, i8, i9, i10, i11, i12, i13, i14, i15⟩ := hk
  clear i1 i2 i3 i4 i5 i6 i7 i8 i9 i10 i11 i12 i13 i14 i15
  simp only [V.kind] at hkv
  subst hkv
  obtain ⟨nl, hnl⟩ : ∃ nl, nl = l1.length := ⟨_, rfl⟩
  rw [← hnl] at HV1 hnp hrow ⊢
  have HNL := Lib.hid hnl
  have HROW := Lib.hid hrow
  have HEL := Lib.hid hel
  have hnl6 : nl ≤ 1000000 := by rw [hnl]; exact lv
  clear hnl hrow hel lv tv vv wk k6
  obtain ⟨W0, hW0⟩ : ∃ W0, W0 = ((w.alloc (.cells #[.int .i64 0, .int .i64 h1, .string t1, .slice P1 nl p1, .slice Q1 ks1.length q1, .slice R1 vs1.length r1] 26)).alloc (.cells #[.int .i64 k2, .int .i64 h2, .string t2, .slice P2 l2.length p2, .slice Q2 ks2.length q2, .slice R2 vs2.length r2] 26)).alloc (.cells #[.int .i64 0, .int .i64 0, .string ⟨#[]⟩, .slice none 0 0, .slice none 0 0, .slice none 0 0] 26) := ⟨_, rfl⟩
  have hBW0 : Below w.heap.size w W0 := by rw [hW0]; exact ((((Below.refl _ _).alloc (Nat.le_refl _) _).alloc (by (try simp); (try omega)) _).alloc (by (try simp); (try omega)) _)
  have hSW0 : W0.heap.size = w.heap.size + 3 := by rw [hW0]; simp
  have hD0 : W0.heap[w.heap.size]? = some (.cells #[.int .i64 0, .int .i64 h1, .string t1, .slice P1 nl p1, .slice Q1 ks1.length q1, .slice R1 vs1.length r1] 26) := by
    rw [hW0]
    have := heap_alloc_new w (.cells #[.int .i64 0, .int .i64 h1, .string t1, .slice P1 nl p1, .slice Q1 ks1.length q1, .slice R1 vs1.length r1] 26)
    exact (Below.heap_alloc _ _ _ (by (try simp); (try omega))).trans ((Below.heap_alloc _ _ _ (by (try simp); (try omega))).trans (this))
  have hD1 : W0.heap[w.heap.size + 1]? = some (.cells #[.int .i64 k2, .int .i64 h2, .string t2, .slice P2 l2.length p2, .slice Q2 ks2.length q2, .slice R2 vs2.length r2] 26) := by
    rw [hW0]
    have := heap_alloc_new (w.alloc (.cells #[.int .i64 0, .int .i64 h1, .string t1, .slice P1 nl p1, .slice Q1 ks1.length q1, .slice R1 vs1.length r1] 26)) (.cells #[.int .i64 k2, .int .i64 h2, .string t2, .slice P2 l2.length p2, .slice Q2 ks2.length q2, .slice R2 vs2.length r2] 26)
    rw [show (w.alloc (.cells #[.int .i64 0, .int .i64 h1, .string t1, .slice P1 nl p1, .slice Q1 ks1.length q1, .slice R1 vs1.length r1] 26)).heap.size = w.heap.size + 1 from by simp] at this
    exact (Below.heap_alloc _ _ _ (by (try simp); (try omega))).trans (this)
  have hD2 : W0.heap[w.heap.size + 2]? = some (.cells #[.int .i64 0, .int .i64 0, .string ⟨#[]⟩, .slice none 0 0, .slice none 0 0, .slice none 0 0] 26) := by
    rw [hW0]
    have := heap_alloc_new ((w.alloc (.cells #[.int .i64 0, .int .i64 h1, .string t1, .slice P1 nl p1, .slice Q1 ks1.length q1, .slice R1 vs1.length r1] 26)).alloc (.cells #[.int .i64 k2, .int .i64 h2, .string t2, .slice P2 l2.length p2, .slice Q2 ks2.length q2, .slice R2 vs2.length r2] 26)) (.cells #[.int .i64 0, .int .i64 0, .string ⟨#[]⟩, .slice none 0 0, .slice none 0 0, .slice none 0 0] 26)
    rw [show ((w.alloc (.cells #[.int .i64 0, .int .i64 h1, .string t1, .slice P1 nl p1, .slice Q1 ks1.length q1, .slice R1 vs1.length r1] 26)).alloc (.cells #[.int .i64 k2, .int .i64 h2, .string t2, .slice P2 l2.length p2, .slice Q2 ks2.length q2, .slice R2 vs2.length r2] 26)).heap.size = w.heap.size + 2 from by simp] at this
    exact this
  have hfar : ∀ W, Below W0.heap.size W0 W → W.heap[w.heap.size]? = some (.cells #[.int .i64 0, .int .i64 h1, .string t1, .slice P1 nl p1, .slice Q1 ks1.length q1, .slice R1 vs1.length r1] 26) ∧ W.heap[w.heap.size + 1]? = some (.cells #[.int .i64 k2, .int .i64 h2, .string t2, .slice P2 l2.length p2, .slice Q2 ks2.length q2, .slice R2 vs2.length r2] 26) ∧ W.heap[w.heap.size + 2]? = some (.cells #[.int .i64 0, .int .i64 0, .string ⟨#[]⟩, .slice none 0 0, .slice none 0 0, .slice none 0 0] 26) := fun W hb => ⟨(hb.block _ (by omega)).trans hD0, (hb.block _ (by omega)).trans hD1, (hb.block _ (by omega)).trans hD2⟩
  have HFAR := Lib.hid hfar
  have HW0 := Lib.hid hW0
  have HBW0 := Lib.hid hBW0
  have HSW0 := Lib.hid hSW0
  clear hfar hW0 hBW0 hSW0 hD0 hD1 hD2
  have HLE := Lib.hid (show w.heap.size ≤ w.heap.size + 1 + 1 by omega)
  have HBND := Lib.hid (fun (W : World) (hb : Below W0.heap.size W0 W) (n : Nat) (hn : n ≤ 1000000) => bounds_any (V.mk k2 h2 t2 l2 ks2 vs2) n ok _ W (HV2.out.keep (below_trans HBW0.out hb)) HK.out hn)
  · go_enter Tryz.func60, Tryz.ntmps60
    go_wp2_with fail
    rw [← HW0.out]
    refine (HBND.out W0 (Below.refl _ _) 0 (by decide)).mono ?_
    rintro e' w4 ⟨⟨f, t, code, rfl, hrel⟩, hb4⟩
    have HB4 := Lib.hid (below_trans HBW0.out hb4)
    obtain ⟨hq1, hq2, hq3⟩ := HFAR.out w4 hb4
    have x0 : w4.cell? ⟨w.heap.size + 1 + 1, 0, none⟩ = some (.int .i64 0) := by simp [World.cell?, hq3]
    have x1 : w4.cell? ⟨w.heap.size + 1 + 1, 1, none⟩ = some (.int .i64 0) := by simp [World.cell?, hq3]
    have x2 : w4.cell? ⟨w.heap.size + 1 + 1, 2, none⟩ = some (.string ⟨#[]⟩) := by simp [World.cell?, hq3]
    have x3 : w4.cell? ⟨w.heap.size + 1 + 1, 3, none⟩ = some (.slice none 0 0) := by simp [World.cell?, hq3]
    have x4 : w4.cell? ⟨w.heap.size + 1 + 1, 4, none⟩ = some (.slice none 0 0) := by simp [World.cell?, hq3]
    have x5 : w4.cell? ⟨w.heap.size + 1 + 1, 5, none⟩ = some (.slice none 0 0) := by simp [World.cell?, hq3]
    have xf : ∀ i, w4.frozen? ⟨w.heap.size + 1 + 1, i, none⟩ = false := fun i => by simp [World.frozen?, hq3]
    clear hq1 hq2 hq3
    clear hb4
    rcases hrel with rfl | ⟨rfl, hrel⟩ | ⟨rfl, hrel⟩
    · go_wp2_with fail
      refine bodyPost_ret (v := .tuple #[.agg #[.int .i64 0, .int .i64 0, .string ⟨#[]⟩, .slice none 0 0, .slice none 0 0, .slice none 0 0], .int .i64 2]) (by simp [results, Tryz.results60, go_sem, x0, x1, x2, x3, x4, x5]) rfl ?_
      exact ⟨zeroV0, 0, 0, ⟨#[]⟩, none, none, none, 0, 0, 0, 0, 0, 0, 2, rfl, vr_plain' 0 0 (by decide) (by decide), .inl rfl, below6v _ _ _ _ _ _ HB4.out HLE.out⟩
    · clear hrel
      go_wp2_with fail
      refine bodyPost_ret (v := .tuple #[.agg #[.int .i64 0, .int .i64 0, .string ⟨#[]⟩, .slice none 0 0, .slice none 0 0, .slice none 0 0], .int .i64 2]) (by simp [results, Tryz.results60, go_sem, x0, x1, x2, x3, x4, x5]) rfl ?_
      exact ⟨zeroV0, 0, 0, ⟨#[]⟩, none, none, none, 0, 0, 0, 0, 0, 0, 2, rfl, vr_plain' 0 0 (by decide) (by decide), .inl rfl, below6v _ _ _ _ _ _ HB4.out HLE.out⟩
    · clear hrel
      go_wp2_with fail
      refine bodyPost_ret (v := .tuple #[.agg #[.int .i64 0, .int .i64 0, .string ⟨#[]⟩, .slice none 0 0, .slice none 0 0, .slice none 0 0], .int .i64 0]) (by simp [results, Tryz.results60, go_sem, x0, x1, x2, x3, x4, x5]) rfl ?_
      exact ⟨zeroV0, 0, 0, ⟨#[]⟩, none, none, none, 0, 0, 0, 0, 0, 0, 0, rfl, vr_plain' 0 0 (by decide) (by decide), .inr (.inr ⟨rfl, .nil rfl (.inr (.inr HK6.out))⟩), below6v _ _ _ _ _ _ HB4.out HLE.out⟩
set_option maxHeartbeats 8000000 in
theorem cut_k1 (v k : V) (ok : Nat → Prop) (cs1 cs2 : List Value) (w : World) (hv : Vr w ok v cs1) (hk : Vr w ok k cs2) (hkv : v.kind = 1) (wk : WF k) (k6 : k.kind = 6) (lv : v.list.length ≤ 1000000) (tv : v.text.size ≤ 2000) (vv : Lib.validD v.text.data.toList = true) :
    Calls Tryz.prog 60 #[.agg cs1.toArray, .agg cs2.toArray] w (IdxPost ok (IdxS v k) w) := by
  have HV1 := Lib.hid hv
  have HV2 := Lib.hid hk
  have HK := Lib.hid wk
  have HK6 := Lib.hid k6
  have HLV := Lib.hid lv
  have HTV := Lib.hid tv
  have HVV := Lib.hid vv
  obtain ⟨k1, h1, t1, l1, ks1, vs1, P1, p1, Q1, q1, R1, r1, f1, g1, i1, i2, i3, i4, i5, i6, i7, i8, i9, i10, ra, ea, i13, i14, i15⟩ := hv
  have hnp : l1.length ≤ p1 := i2
  have hrow : RowAt w ok 6 P1 l1.length f1 := ra
  have hel := ea
  clear i1 i2 i3 i4 i5 i6 i7 i8 i9 i10 i13 i14 i15 ra ea
  obtain ⟨k2, h2, t2, l2, ks2, vs2, P2, p2, Q2, q2, R2, r2, f2, g2, i1, i2, i3, i4, i5, i6, i7, i8, i9, i10, i11, i12, i13, i14, i15⟩ := hk
  clear i1 i2 i3 i4 i5 i6 i7 i8 i9 i10 i11 i12 i13 i14 i15
  simp only [V.kind] at hkv
  subst hkv
  obtain ⟨nl, hnl⟩ : ∃ nl, nl = l1.length := ⟨_, rfl⟩
  rw [← hnl] at HV1 hnp hrow ⊢
  have HNL := Lib.hid hnl
  have HROW := Lib.hid hrow
  have HEL := Lib.hid hel
  have hnl6 : nl ≤ 1000000 := by rw [hnl]; exact lv
  clear hnl hrow hel lv tv vv wk k6
  obtain ⟨W0, hW0⟩ : ∃ W0, W0 = ((w.alloc (.cells #[.int .i64 1, .int .i64 h1, .string t1, .slice P1 nl p1, .slice Q1 ks1.length q1, .slice R1 vs1.length r1] 26)).alloc (.cells #[.int .i64 k2, .int .i64 h2, .string t2, .slice P2 l2.length p2, .slice Q2 ks2.length q2, .slice R2 vs2.length r2] 26)).alloc (.cells #[.int .i64 0, .int .i64 0, .string ⟨#[]⟩, .slice none 0 0, .slice none 0 0, .slice none 0 0] 26) := ⟨_, rfl⟩
  have hBW0 : Below w.heap.size w W0 := by rw [hW0]; exact ((((Below.refl _ _).alloc (Nat.le_refl _) _).alloc (by (try simp); (try omega)) _).alloc (by (try simp); (try omega)) _)
  have hSW0 : W0.heap.size = w.heap.size + 3 := by rw [hW0]; simp
  have hD0 : W0.heap[w.heap.size]? = some (.cells #[.int .i64 1, .int .i64 h1, .string t1, .slice P1 nl p1, .slice Q1 ks1.length q1, .slice R1 vs1.length r1] 26) := by
    rw [hW0]
    have := heap_alloc_new w (.cells #[.int .i64 1, .int .i64 h1, .string t1, .slice P1 nl p1, .slice Q1 ks1.length q1, .slice R1 vs1.length r1] 26)
    exact (Below.heap_alloc _ _ _ (by (try simp); (try omega))).trans ((Below.heap_alloc _ _ _ (by (try simp); (try omega))).trans (this))
  have hD1 : W0.heap[w.heap.size + 1]? = some (.cells #[.int .i64 k2, .int .i64 h2, .string t2, .slice P2 l2.length p2, .slice Q2 ks2.length q2, .slice R2 vs2.length r2] 26) := by
    rw [hW0]
    have := heap_alloc_new (w.alloc (.cells #[.int .i64 1, .int .i64 h1, .string t1, .slice P1 nl p1, .slice Q1 ks1.length q1, .slice R1 vs1.length r1] 26)) (.cells #[.int .i64 k2, .int .i64 h2, .string t2, .slice P2 l2.length p2, .slice Q2 ks2.length q2, .slice R2 vs2.length r2] 26)
    rw [show (w.alloc (.cells #[.int .i64 1, .int .i64 h1, .string t1, .slice P1 nl p1, .slice Q1 ks1.length q1, .slice R1 vs1.length r1] 26)).heap.size = w.heap.size + 1 from by simp] at this
    exact (Below.heap_alloc _ _ _ (by (try simp); (try omega))).trans (this)
  have hD2 : W0.heap[w.heap.size + 2]? = some (.cells #[.int .i64 0, .int .i64 0, .string ⟨#[]⟩, .slice none 0 0, .slice none 0 0, .slice none 0 0] 26) := by
    rw [hW0]
    have := heap_alloc_new ((w.alloc (.cells #[.int .i64 1, .int .i64 h1, .string t1, .slice P1 nl p1, .slice Q1 ks1.length q1, .slice R1 vs1.length r1] 26)).alloc (.cells #[.int .i64 k2, .int .i64 h2, .string t2, .slice P2 l2.length p2, .slice Q2 ks2.length q2, .slice R2 vs2.length r2] 26)) (.cells #[.int .i64 0, .int .i64 0, .string ⟨#[]⟩, .slice none 0 0, .slice none 0 0, .slice none 0 0] 26)
    rw [show ((w.alloc (.cells #[.int .i64 1, .int .i64 h1, .string t1, .slice P1 nl p1, .slice Q1 ks1.length q1, .slice R1 vs1.length r1] 26)).alloc (.cells #[.int .i64 k2, .int .i64 h2, .string t2, .slice P2 l2.length p2, .slice Q2 ks2.length q2, .slice R2 vs2.length r2] 26)).heap.size = w.heap.size + 2 from by simp] at this
    exact this
  have hfar : ∀ W, Below W0.heap.size W0 W → W.heap[w.heap.size]? = some (.cells #[.int .i64 1, .int .i64 h1, .string t1, .slice P1 nl p1, .slice Q1 ks1.length q1, .slice R1 vs1.length r1] 26) ∧ W.heap[w.heap.size + 1]? = some (.cells #[.int .i64 k2, .int .i64 h2, .string t2, .slice P2 l2.length p2, .slice Q2 ks2.length q2, .slice R2 vs2.length r2] 26) ∧ W.heap[w.heap.size + 2]? = some (.cells #[.int .i64 0, .int .i64 0, .string ⟨#[]⟩, .slice none 0 0, .slice none 0 0, .slice none 0 0] 26) := fun W hb => ⟨(hb.block _ (by omega)).trans hD0, (hb.block _ (by omega)).trans hD1, (hb.block _ (by omega)).trans hD2⟩
  have HFAR := Lib.hid hfar
  have HW0 := Lib.hid hW0
  have HBW0 := Lib.hid hBW0
  have HSW0 := Lib.hid hSW0
  clear hfar hW0 hBW0 hSW0 hD0 hD1 hD2
  have HLE := Lib.hid (show w.heap.size ≤ w.heap.size + 1 + 1 by omega)
  have HBND := Lib.hid (fun (W : World) (hb : Below W0.heap.size W0 W) (n : Nat) (hn : n ≤ 1000000) => bounds_any (V.mk k2 h2 t2 l2 ks2 vs2) n ok _ W (HV2.out.keep (below_trans HBW0.out hb)) HK.out hn)
  · go_enter Tryz.func60, Tryz.ntmps60
    go_wp2_with fail
    rw [← HW0.out]
    obtain ⟨hq1, hq2, hq3⟩ := HFAR.out W0 (Below.refl _ _)
    have x0 : W0.cell? ⟨w.heap.size + 1 + 1, 0, none⟩ = some (.int .i64 0) := by simp [World.cell?, hq3]
    have x1 : W0.cell? ⟨w.heap.size + 1 + 1, 1, none⟩ = some (.int .i64 0) := by simp [World.cell?, hq3]
    have x2 : W0.cell? ⟨w.heap.size + 1 + 1, 2, none⟩ = some (.string ⟨#[]⟩) := by simp [World.cell?, hq3]
    have x3 : W0.cell? ⟨w.heap.size + 1 + 1, 3, none⟩ = some (.slice none 0 0) := by simp [World.cell?, hq3]
    have x4 : W0.cell? ⟨w.heap.size + 1 + 1, 4, none⟩ = some (.slice none 0 0) := by simp [World.cell?, hq3]
    have x5 : W0.cell? ⟨w.heap.size + 1 + 1, 5, none⟩ = some (.slice none 0 0) := by simp [World.cell?, hq3]
    have xf : ∀ i, W0.frozen? ⟨w.heap.size + 1 + 1, i, none⟩ = false := fun i => by simp [World.frozen?, hq3]
    clear hq1 hq2 hq3
    refine bodyPost_ret (v := .tuple #[.agg #[.int .i64 0, .int .i64 0, .string ⟨#[]⟩, .slice none 0 0, .slice none 0 0, .slice none 0 0], .int .i64 1]) (by simp [results, Tryz.results60, go_sem, x0, x1, x2, x3, x4, x5]) rfl ?_
    exact ⟨zeroV0, 0, 0, ⟨#[]⟩, none, none, none, 0, 0, 0, 0, 0, 0, 1, rfl, vr_plain' 0 0 (by decide) (by decide), .inr (.inl ⟨rfl, .cut HK6.out (.inl rfl)⟩), HBW0.out⟩
set_option maxHeartbeats 8000000 in
theorem cut_k2 (v k : V) (ok : Nat → Prop) (cs1 cs2 : List Value) (w : World) (hv : Vr w ok v cs1) (hk : Vr w ok k cs2) (hkv : v.kind = 2) (wk : WF k) (k6 : k.kind = 6) (lv : v.list.length ≤ 1000000) (tv : v.text.size ≤ 2000) (vv : Lib.validD v.text.data.toList = true) :
    Calls Tryz.prog 60 #[.agg cs1.toArray, .agg cs2.toArray] w (IdxPost ok (IdxS v k) w) := by
  have HV1 := Lib.hid hv
  have HV2 := Lib.hid hk
  have HK := Lib.hid wk
  have HK6 := Lib.hid k6
  have HLV := Lib.hid lv
  have HTV := Lib.hid tv
  have HVV := Lib.hid vv
  obtain ⟨k1, h1, t1, l1, ks1, vs1, P1, p1, Q1, q1, R1, r1, f1, g1, i1, i2, i3, i4, i5, i6, i7, i8, i9, i10, ra, ea, i13, i14, i15⟩ := hv
  have hnp : l1.length ≤ p1 := i2
  have hrow : RowAt w ok 6 P1 l1.length f1 := ra
  have hel := ea
  clear i1 i2 i3 i4 i5 i6 i7 i8 i9 i10 i13 i14 i15 ra ea
  obtain ⟨k2, h2, t2, l2, ks2, vs2, P2, p2, Q2, q2, R2, r2, f2, g2, i1, i2, i3, i4, i5, i6, i7, i8, i9, i10, i11, i12, i13, i14, i15⟩ := hk
  clear i1 i2 i3 i4 i5 i6 i7 i8 i9 i10 i11 i12 i13 i14 i15
  simp only [V.kind] at hkv
  subst hkv
  obtain ⟨nl, hnl⟩ : ∃ nl, nl = l1.length := ⟨_, rfl⟩
  rw [← hnl] at HV1 hnp hrow ⊢
  have HNL := Lib.hid hnl
  have HROW := Lib.hid hrow
  have HEL := Lib.hid hel
  have hnl6 : nl ≤ 1000000 := by rw [hnl]; exact lv
  clear hnl hrow hel lv tv vv wk k6
  obtain ⟨W0, hW0⟩ : ∃ W0, W0 = ((w.alloc (.cells #[.int .i64 2, .int .i64 h1, .string t1, .slice P1 nl p1, .slice Q1 ks1.length q1, .slice R1 vs1.length r1] 26)).alloc (.cells #[.int .i64 k2, .int .i64 h2, .string t2, .slice P2 l2.length p2, .slice Q2 ks2.length q2, .slice R2 vs2.length r2] 26)).alloc (.cells #[.int .i64 0, .int .i64 0, .string ⟨#[]⟩, .slice none 0 0, .slice none 0 0, .slice none 0 0] 26) := ⟨_, rfl⟩
  have hBW0 : Below w.heap.size w W0 := by rw [hW0]; exact ((((Below.refl _ _).alloc (Nat.le_refl _) _).alloc (by (try simp); (try omega)) _).alloc (by (try simp); (try omega)) _)
  have hSW0 : W0.heap.size = w.heap.size + 3 := by rw [hW0]; simp
  have hD0 : W0.heap[w.heap.size]? = some (.cells #[.int .i64 2, .int .i64 h1, .string t1, .slice P1 nl p1, .slice Q1 ks1.length q1, .slice R1 vs1.length r1] 26) := by
    rw [hW0]
    have := heap_alloc_new w (.cells #[.int .i64 2, .int .i64 h1, .string t1, .slice P1 nl p1, .slice Q1 ks1.length q1, .slice R1 vs1.length r1] 26)
    exact (Below.heap_alloc _ _ _ (by (try simp); (try omega))).trans ((Below.heap_alloc _ _ _ (by (try simp); (try omega))).trans (this))
  have hD1 : W0.heap[w.heap.size + 1]? = some (.cells #[.int .i64 k2, .int .i64 h2, .string t2, .slice P2 l2.length p2, .slice Q2 ks2.length q2, .slice R2 vs2.length r2] 26) := by
    rw [hW0]
    have := heap_alloc_new (w.alloc (.cells #[.int .i64 2, .int .i64 h1, .string t1, .slice P1 nl p1, .slice Q1 ks1.length q1, .slice R1 vs1.length r1] 26)) (.cells #[.int .i64 k2, .int .i64 h2, .string t2, .slice P2 l2.length p2, .slice Q2 ks2.length q2, .slice R2 vs2.length r2] 26)
    rw [show (w.alloc (.cells #[.int .i64 2, .int .i64 h1, .string t1, .slice P1 nl p1, .slice Q1 ks1.length q1, .slice R1 vs1.length r1] 26)).heap.size = w.heap.size + 1 from by simp] at this
    exact (Below.heap_alloc _ _ _ (by (try simp); (try omega))).trans (this)
  have hD2 : W0.heap[w.heap.size + 2]? = some (.cells #[.int .i64 0, .int .i64 0, .string ⟨#[]⟩, .slice none 0 0, .slice none 0 0, .slice none 0 0] 26) := by
    rw [hW0]
    have := heap_alloc_new ((w.alloc (.cells #[.int .i64 2, .int .i64 h1, .string t1, .slice P1 nl p1, .slice Q1 ks1.length q1, .slice R1 vs1.length r1] 26)).alloc (.cells #[.int .i64 k2, .int .i64 h2, .string t2, .slice P2 l2.length p2, .slice Q2 ks2.length q2, .slice R2 vs2.length r2] 26)) (.cells #[.int .i64 0, .int .i64 0, .string ⟨#[]⟩, .slice none 0 0, .slice none 0 0, .slice none 0 0] 26)
    rw [show ((w.alloc (.cells #[.int .i64 2, .int .i64 h1, .string t1, .slice P1 nl p1, .slice Q1 ks1.length q1, .slice R1 vs1.length r1] 26)).alloc (.cells #[.int .i64 k2, .int .i64 h2, .string t2, .slice P2 l2.length p2, .slice Q2 ks2.length q2, .slice R2 vs2.length r2] 26)).heap.size = w.heap.size + 2 from by simp] at this
    exact this
  have hfar : ∀ W, Below W0.heap.size W0 W → W.heap[w.heap.size]? = some (.cells #[.int .i64 2, .int .i64 h1, .string t1, .slice P1 nl p1, .slice Q1 ks1.length q1, .slice R1 vs1.length r1] 26) ∧ W.heap[w.heap.size + 1]? = some (.cells #[.int .i64 k2, .int .i64 h2, .string t2, .slice P2 l2.length p2, .slice Q2 ks2.length q2, .slice R2 vs2.length r2] 26) ∧ W.heap[w.heap.size + 2]? = some (.cells #[.int .i64 0, .int .i64 0, .string ⟨#[]⟩, .slice none 0 0, .slice none 0 0, .slice none 0 0] 26) := fun W hb => ⟨(hb.block _ (by omega)).trans hD0, (hb.block _ (by omega)).trans hD1, (hb.block _ (by omega)).trans hD2⟩
  have HFAR := Lib.hid hfar
  have HW0 := Lib.hid hW0
  have HBW0 := Lib.hid hBW0
  have HSW0 := Lib.hid hSW0
  clear hfar hW0 hBW0 hSW0 hD0 hD1 hD2
  have HLE := Lib.hid (show w.heap.size ≤ w.heap.size + 1 + 1 by omega)
  have HBND := Lib.hid (fun (W : World) (hb : Below W0.heap.size W0 W) (n : Nat) (hn : n ≤ 1000000) => bounds_any (V.mk k2 h2 t2 l2 ks2 vs2) n ok _ W (HV2.out.keep (below_trans HBW0.out hb)) HK.out hn)
  · go_enter Tryz.func60, Tryz.ntmps60
    go_wp2_with fail
    rw [← HW0.out]
    obtain ⟨hq1, hq2, hq3⟩ := HFAR.out W0 (Below.refl _ _)
    have x0 : W0.cell? ⟨w.heap.size + 1 + 1, 0, none⟩ = some (.int .i64 0) := by simp [World.cell?, hq3]
    have x1 : W0.cell? ⟨w.heap.size + 1 + 1, 1, none⟩ = some (.int .i64 0) := by simp [World.cell?, hq3]
    have x2 : W0.cell? ⟨w.heap.size + 1 + 1, 2, none⟩ = some (.string ⟨#[]⟩) := by simp [World.cell?, hq3]
    have x3 : W0.cell? ⟨w.heap.size + 1 + 1, 3, none⟩ = some (.slice none 0 0) := by simp [World.cell?, hq3]
    have x4 : W0.cell? ⟨w.heap.size + 1 + 1, 4, none⟩ = some (.slice none 0 0) := by simp [World.cell?, hq3]
    have x5 : W0.cell? ⟨w.heap.size + 1 + 1, 5, none⟩ = some (.slice none 0 0) := by simp [World.cell?, hq3]
    have xf : ∀ i, W0.frozen? ⟨w.heap.size + 1 + 1, i, none⟩ = false := fun i => by simp [World.frozen?, hq3]
    clear hq1 hq2 hq3
    refine bodyPost_ret (v := .tuple #[.agg #[.int .i64 0, .int .i64 0, .string ⟨#[]⟩, .slice none 0 0, .slice none 0 0, .slice none 0 0], .int .i64 1]) (by simp [results, Tryz.results60, go_sem, x0, x1, x2, x3, x4, x5]) rfl ?_
    exact ⟨zeroV0, 0, 0, ⟨#[]⟩, none, none, none, 0, 0, 0, 0, 0, 0, 1, rfl, vr_plain' 0 0 (by decide) (by decide), .inr (.inl ⟨rfl, .cut HK6.out (.inr (.inl rfl))⟩), HBW0.out⟩
set_option maxHeartbeats 8000000 in
theorem cut_k3 (v k : V) (ok : Nat → Prop) (cs1 cs2 : List Value) (w : World) (hv : Vr w ok v cs1) (hk : Vr w ok k cs2) (hkv : v.kind = 3) (wk : WF k) (k6 : k.kind = 6) (lv : v.list.length ≤ 1000000) (tv : v.text.size ≤ 2000) (vv : Lib.validD v.text.data.toList = true) :
    Calls Tryz.prog 60 #[.agg cs1.toArray, .agg cs2.toArray] w (IdxPost ok (IdxS v k) w) := by
  have HV1 := Lib.hid hv
  have HV2 := Lib.hid hk
  have HK := Lib.hid wk
  have HK6 := Lib.hid k6
  have HLV := Lib.hid lv
  have HTV := Lib.hid tv
  have HVV := Lib.hid vv
  obtain ⟨k1, h1, t1, l1, ks1, vs1, P1, p1, Q1, q1, R1, r1, f1, g1, i1, i2, i3, i4, i5, i6, i7, i8, i9, i10, ra, ea, i13, i14, i15⟩ := hv
  have hnp : l1.length ≤ p1 := i2
  have hrow : RowAt w ok 6 P1 l1.length f1 := ra
  have hel := ea
  clear i1 i2 i3 i4 i5 i6 i7 i8 i9 i10 i13 i14 i15 ra ea
  obtain ⟨k2, h2, t2, l2, ks2, vs2, P2, p2, Q2, q2, R2, r2, f2, g2, i1, i2, i3, i4, i5, i6, i7, i8, i9, i10, i11, i12, i13, i14, i15⟩ := hk
  clear i1 i2 i3 i4 i5 i6 i7 i8 i9 i10 i11 i12 i13 i14 i15
  simp only [V.kind] at hkv
  subst hkv
  obtain ⟨nl, hnl⟩ : ∃ nl, nl = l1.length := ⟨_, rfl⟩
  rw [← hnl] at HV1 hnp hrow ⊢
  have HNL := Lib.hid hnl
  have HROW := Lib.hid hrow
  have HEL := Lib.hid hel
  have hnl6 : nl ≤ 1000000 := by rw [hnl]; exact lv
  clear hnl hrow hel lv tv vv wk k6
  obtain ⟨W0, hW0⟩ : ∃ W0, W0 = ((w.alloc (.cells #[.int .i64 3, .int .i64 h1, .string t1, .slice P1 nl p1, .slice Q1 ks1.length q1, .slice R1 vs1.length r1] 26)).alloc (.cells #[.int .i64 k2, .int .i64 h2, .string t2, .slice P2 l2.length p2, .slice Q2 ks2.length q2, .slice R2 vs2.length r2] 26)).alloc (.cells #[.int .i64 0, .int .i64 0, .string ⟨#[]⟩, .slice none 0 0, .slice none 0 0, .slice none 0 0] 26) := ⟨_, rfl⟩
  have hBW0 : Below w.heap.size w W0 := by rw [hW0]; exact ((((Below.refl _ _).alloc (Nat.le_refl _) _).alloc (by (try simp); (try omega)) _).alloc (by (try simp); (try omega)) _)
  have hSW0 : W0.heap.size = w.heap.size + 3 := by rw [hW0]; simp
  have hD0 : W0.heap[w.heap.size]? = some (.cells #[.int .i64 3, .int .i64 h1, .string t1, .slice P1 nl p1, .slice Q1 ks1.length q1, .slice R1 vs1.length r1] 26) := by
    rw [hW0]
    have := heap_alloc_new w (.cells #[.int .i64 3, .int .i64 h1, .string t1, .slice P1 nl p1, .slice Q1 ks1.length q1, .slice R1 vs1.length r1] 26)
    exact (Below.heap_alloc _ _ _ (by (try simp); (try omega))).trans ((Below.heap_alloc _ _ _ (by (try simp); (try omega))).trans (this))
  have hD1 : W0.heap[w.heap.size + 1]? = some (.cells #[.int .i64 k2, .int .i64 h2, .string t2, .slice P2 l2.length p2, .slice Q2 ks2.length q2, .slice R2 vs2.length r2] 26) := by
    rw [hW0]
    have := heap_alloc_new (w.alloc (.cells #[.int .i64 3, .int .i64 h1, .string t1, .slice P1 nl p1, .slice Q1 ks1.length q1, .slice R1 vs1.length r1] 26)) (.cells #[.int .i64 k2, .int .i64 h2, .string t2, .slice P2 l2.length p2, .slice Q2 ks2.length q2, .slice R2 vs2.length r2] 26)
    rw [show (w.alloc (.cells #[.int .i64 3, .int .i64 h1, .string t1, .slice P1 nl p1, .slice Q1 ks1.length q1, .slice R1 vs1.length r1] 26)).heap.size = w.heap.size + 1 from by simp] at this
    exact (Below.heap_alloc _ _ _ (by (try simp); (try omega))).trans (this)
  have hD2 : W0.heap[w.heap.size + 2]? = some (.cells #[.int .i64 0, .int .i64 0, .string ⟨#[]⟩, .slice none 0 0, .slice none 0 0, .slice none 0 0] 26) := by
    rw [hW0]
    have := heap_alloc_new ((w.alloc (.cells #[.int .i64 3, .int .i64 h1, .string t1, .slice P1 nl p1, .slice Q1 ks1.length q1, .slice R1 vs1.length r1] 26)).alloc (.cells #[.int .i64 k2, .int .i64 h2, .string t2, .slice P2 l2.length p2, .slice Q2 ks2.length q2, .slice R2 vs2.length r2] 26)) (.cells #[.int .i64 0, .int .i64 0, .string ⟨#[]⟩, .slice none 0 0, .slice none 0 0, .slice none 0 0] 26)
    rw [show ((w.alloc (.cells #[.int .i64 3, .int .i64 h1, .string t1, .slice P1 nl p1, .slice Q1 ks1.length q1, .slice R1 vs1.length r1] 26)).alloc (.cells #[.int .i64 k2, .int .i64 h2, .string t2, .slice P2 l2.length p2, .slice Q2 ks2.length q2, .slice R2 vs2.length r2] 26)).heap.size = w.heap.size + 2 from by simp] at this
    exact this
  have hfar : ∀ W, Below W0.heap.size W0 W → W.heap[w.heap.size]? = some (.cells #[.int .i64 3, .int .i64 h1, .string t1, .slice P1 nl p1, .slice Q1 ks1.length q1, .slice R1 vs1.length r1] 26) ∧ W.heap[w.heap.size + 1]? = some (.cells #[.int .i64 k2, .int .i64 h2, .string t2, .slice P2 l2.length p2, .slice Q2 ks2.length q2, .slice R2 vs2.length r2] 26) ∧ W.heap[w.heap.size + 2]? = some (.cells #[.int .i64 0, .int .i64 0, .string ⟨#[]⟩, .slice none 0 0, .slice none 0 0, .slice none 0 0] 26) := fun W hb => ⟨(hb.block _ (by omega)).trans hD0, (hb.block _ (by omega)).trans hD1, (hb.block _ (by omega)).trans hD2⟩
  have HFAR := Lib.hid hfar
  have HW0 := Lib.hid hW0
  have HBW0 := Lib.hid hBW0
  have HSW0 := Lib.hid hSW0
  clear hfar hW0 hBW0 hSW0 hD0 hD1 hD2
  have HLE := Lib.hid (show w.heap.size ≤ w.heap.size + 1 + 1 by omega)
  have HBND := Lib.hid (fun (W : World) (hb : Below W0.heap.size W0 W) (n : Nat) (hn : n ≤ 1000000) => bounds_any (V.mk k2 h2 t2 l2 ks2 vs2) n ok _ W (HV2.out.keep (below_trans HBW0.out hb)) HK.out hn)
  · go_enter Tryz.func60, Tryz.ntmps60
    go_wp2_with fail
    rw [← HW0.out]
    obtain ⟨hq1, hq2, hq3⟩ := HFAR.out W0 (Below.refl _ _)
    have x0 : W0.cell? ⟨w.heap.size + 1 + 1, 0, none⟩ = some (.int .i64 0) := by simp [World.cell?, hq3]
    have x1 : W0.cell? ⟨w.heap.size + 1 + 1, 1, none⟩ = some (.int .i64 0) := by simp [World.cell?, hq3]
    have x2 : W0.cell? ⟨w.heap.size + 1 + 1, 2, none⟩ = some (.string ⟨#[]⟩) := by simp [World.cell?, hq3]
    have x3 : W0.cell? ⟨w.heap.size + 1 + 1, 3, none⟩ = some (.slice none 0 0) := by simp [World.cell?, hq3]
    have x4 : W0.cell? ⟨w.heap.size + 1 + 1, 4, none⟩ = some (.slice none 0 0) := by simp [World.cell?, hq3]
    have x5 : W0.cell? ⟨w.heap.size + 1 + 1, 5, none⟩ = some (.slice none 0 0) := by simp [World.cell?, hq3]
    have xf : ∀ i, W0.frozen? ⟨w.heap.size + 1 + 1, i, none⟩ = false := fun i => by simp [World.frozen?, hq3]
    clear hq1 hq2 hq3
    refine bodyPost_ret (v := .tuple #[.agg #[.int .i64 0, .int .i64 0, .string ⟨#[]⟩, .slice none 0 0, .slice none 0 0, .slice none 0 0], .int .i64 1]) (by simp [results, Tryz.results60, go_sem, x0, x1, x2, x3, x4, x5]) rfl ?_
    exact ⟨zeroV0, 0, 0, ⟨#[]⟩, none, none, none, 0, 0, 0, 0, 0, 0, 1, rfl, vr_plain' 0 0 (by decide) (by decide), .inr (.inl ⟨rfl, .cut HK6.out (.inr (.inr rfl))⟩), HBW0.out⟩
set_option maxHeartbeats 8000000 in
theorem cut_k4 (v k : V) (ok : Nat → Prop) (cs1 cs2 : List Value) (w : World) (hv : Vr w ok v cs1) (hk : Vr w ok k cs2) (hkv : v.kind = 4) (wk : WF k) (k6 : k.kind = 6) (lv : v.list.length ≤ 1000000) (tv : v.text.size ≤ 2000) (vv : Lib.validD v.text.data.toList = true) :
    Calls Tryz.prog 60 #[.agg cs1.toArray, .agg cs2.toArray] w (IdxPost ok (IdxS v k) w) := by
  have HV1 := Lib.hid hv
  have HV2 := Lib.hid hk
  have HK := Lib.hid wk
  have HK6 := Lib.hid k6
  have HLV := Lib.hid lv
  have HTV := Lib.hid tv
  have HVV := Lib.hid vv
  obtain ⟨k1, h1, t1, l1, ks1, vs1, P1, p1, Q1, q1, R1, r1, f1, g1, i1, i2, i3, i4, i5, i6, i7, i8, i9, i10, ra, ea, i13, i14, i15⟩ := hv
  have hnp : l1.length ≤ p1 := i2
  have hrow : RowAt w ok 6 P1 l1.length f1 := ra
  have hel := ea
  clear i1 i2 i3 i4 i5 i6 i7 i8 i9 i10 i13 i14 i15 ra ea
  obtain ⟨k2, h2, t2, l2, ks2, vs2, P2, p2, Q2, q2, R2, r2, f2, g2, i1, i2, i3, i4, i5, i6, i7, i8, i9, i10, i11, i12, i13, i14, i15⟩ := hk
  clear i1 i2 i3 i4 i5 i6 i7 i8 i9 i10 i11 i12 i13 i14 i15
  simp only [V.kind] at hkv
  subst hkv
  obtain ⟨nl, hnl⟩ : ∃ nl, nl = l1.length := ⟨_, rfl⟩
  rw [← hnl] at HV1 hnp hrow ⊢
  have HNL := Lib.hid hnl
  have HROW := Lib.hid hrow
  have HEL := Lib.hid hel
  have hnl6 : nl ≤ 1000000 := by rw [hnl]; exact lv
  clear hnl hrow hel lv tv vv wk k6
  obtain ⟨W0, hW0⟩ : ∃ W0, W0 = ((w.alloc (.cells #[.int .i64 4, .int .i64 h1, .string t1, .slice P1 nl p1, .slice Q1 ks1.length q1, .slice R1 vs1.length r1] 26)).alloc (.cells #[.int .i64 k2, .int .i64 h2, .string t2, .slice P2 l2.length p2, .slice Q2 ks2.length q2, .slice R2 vs2.length r2] 26)).alloc (.cells #[.int .i64 0, .int .i64 0, .string ⟨#[]⟩, .slice none 0 0, .slice none 0 0, .slice none 0 0] 26) := ⟨_, rfl⟩
  have hBW0 : Below w.heap.size w W0 := by rw [hW0]; exact ((((Below.refl _ _).alloc (Nat.le_refl _) _).alloc (by (try simp); (try omega)) _).alloc (by (try simp); (try omega)) _)
  have hSW0 : W0.heap.size = w.heap.size + 3 := by rw [hW0]; simp
  have hD0 : W0.heap[w.heap.size]? = some (.cells #[.int .i64 4, .int .i64 h1, .string t1, .slice P1 nl p1, .slice Q1 ks1.length q1, .slice R1 vs1.length r1] 26) := by
    rw [hW0]
    have := heap_alloc_new w (.cells #[.int .i64 4, .int .i64 h1, .string t1, .slice P1 nl p1, .slice Q1 ks1.length q1, .slice R1 vs1.length r1] 26)
    exact (Below.heap_alloc _ _ _ (by (try simp); (try omega))).trans ((Below.heap_alloc _ _ _ (by (try simp); (try omega))).trans (this))
  have hD1 : W0.heap[w.heap.size + 1]? = some (.cells #[.int .i64 k2, .int .i64 h2, .string t2, .slice P2 l2.length p2, .slice Q2 ks2.length q2, .slice R2 vs2.length r2] 26) := by
    rw [hW0]
    have := heap_alloc_new (w.alloc (.cells #[.int .i64 4, .int .i64 h1, .string t1, .slice P1 nl p1, .slice Q1 ks1.length q1, .slice R1 vs1.length r1] 26)) (.cells #[.int .i64 k2, .int .i64 h2, .string t2, .slice P2 l2.length p2, .slice Q2 ks2.length q2, .slice R2 vs2.length r2] 26)
    rw [show (w.alloc (.cells #[.int .i64 4, .int .i64 h1, .string t1, .slice P1 nl p1, .slice Q1 ks1.length q1, .slice R1 vs1.length r1] 26)).heap.size = w.heap.size + 1 from by simp] at this
    exact (Below.heap_alloc _ _ _ (by (try simp); (try omega))).trans (this)
  have hD2 : W0.heap[w.heap.size + 2]? = some (.cells #[.int .i64 0, .int .i64 0, .string ⟨#[]⟩, .slice none 0 0, .slice none 0 0, .slice none 0 0] 26) := by
    rw [hW0]
    have := heap_alloc_new ((w.alloc (.cells #[.int .i64 4, .int .i64 h1, .string t1, .slice P1 nl p1, .slice Q1 ks1.length q1, .slice R1 vs1.length r1] 26)).alloc (.cells #[.int .i64 k2, .int .i64 h2, .string t2, .slice P2 l2.length p2, .slice Q2 ks2.length q2, .slice R2 vs2.length r2] 26)) (.cells #[.int .i64 0, .int .i64 0, .string ⟨#[]⟩, .slice none 0 0, .slice none 0 0, .slice none 0 0] 26)
    rw [show ((w.alloc (.cells #[.int .i64 4, .int .i64 h1, .string t1, .slice P1 nl p1, .slice Q1 ks1.length q1, .slice R1 vs1.length r1] 26)).alloc (.cells #[.int .i64 k2, .int .i64 h2, .string t2, .slice P2 l2.length p2, .slice Q2 ks2.length q2, .slice R2 vs2.length r2] 26)).heap.size = w.heap.size + 2 from by simp] at this
    exact this
  have hfar : ∀ W, Below W0.heap.size W0 W → W.heap[w.heap.size]? = some (.cells #[.int .i64 4, .int .i64 h1, .string t1, .slice P1 nl p1, .slice Q1 ks1.length q1, .slice R1 vs1.length r1] 26) ∧ W.heap[w.heap.size + 1]? = some (.cells #[.int .i64 k2, .int .i64 h2, .string t2, .slice P2 l2.length p2, .slice Q2 ks2.length q2, .slice R2 vs2.length r2] 26) ∧ W.heap[w.heap.size + 2]? = some (.cells #[.int .i64 0, .int .i64 0, .string ⟨#[]⟩, .slice none 0 0, .slice none 0 0, .slice none 0 0] 26) := fun W hb => ⟨(hb.block _ (by omega)).trans hD0, (hb.block _ (by omega)).trans hD1, (hb.block _ (by omega)).trans hD2⟩
  have HFAR := Lib.hid hfar
  have HW0 := Lib.hid hW0
  have HBW0 := Lib.hid hBW0
  have HSW0 := Lib.hid hSW0
  clear hfar hW0 hBW0 hSW0 hD0 hD1 hD2
  have HLE := Lib.hid (show w.heap.size ≤ w.heap.size + 1 + 1 by omega)
  have HBND := Lib.hid (fun (W : World) (hb : Below W0.heap.size W0 W) (n : Nat) (hn : n ≤ 1000000) => bounds_any (V.mk k2 h2 t2 l2 ks2 vs2) n ok _ W (HV2.out.keep (below_trans HBW0.out hb)) HK.out hn)
  · obtain ⟨n, hn⟩ : ∃ n, n = (ptsS t1).length := ⟨_, rfl⟩
    have hn2 : n ≤ 2000 := by
      have := pts_len t1
      have := HTV.out
      have e : (V.mk 4 h1 t1 l1 ks1 vs1).text = t1 := rfl
      rw [e] at this
      omega
    have hpts := fun (W : World) => points_any t1 HTV.out W
    have hcb := fun (f t : Nat) (h : f ≤ t) (ht : t ≤ n) => conv_back t1 HVV.out f t h (by rw [← hn]; exact ht)
    rw [← hn] at hpts
    have HPTS := Lib.hid hpts
    have HCB := Lib.hid hcb
    have HN := Lib.hid hn
    clear hn hpts hcb
    go_enter Tryz.func60, Tryz.ntmps60
    go_wp2_with fail
    rw [← HW0.out]
    refine (HPTS.out W0).mono ?_
    rintro e' w3 ⟨b3, cap3, rfl, hle3, hbb3, hb3, hc3⟩
    have HB3 := Lib.hid hb3
    obtain ⟨hq1, hq2, hq3⟩ := HFAR.out w3 hb3
    have z0 : w3.cell? ⟨w.heap.size, 0, none⟩ = some (.int .i64 4) := by simp [World.cell?, hq1]
    have z1 : w3.cell? ⟨w.heap.size, 1, none⟩ = some (.int .i64 h1) := by simp [World.cell?, hq1]
    have z2 : w3.cell? ⟨w.heap.size, 2, none⟩ = some (.string t1) := by simp [World.cell?, hq1]
    have z3 : w3.cell? ⟨w.heap.size, 3, none⟩ = some (.slice P1 nl p1) := by simp [World.cell?, hq1]
    have z4 : w3.cell? ⟨w.heap.size, 4, none⟩ = some (.slice Q1 ks1.length q1) := by simp [World.cell?, hq1]
    have z5 : w3.cell? ⟨w.heap.size, 5, none⟩ = some (.slice R1 vs1.length r1) := by simp [World.cell?, hq1]
    have y0 : w3.cell? ⟨w.heap.size + 1, 0, none⟩ = some (.int .i64 k2) := by simp [World.cell?, hq2]
    have y1 : w3.cell? ⟨w.heap.size + 1, 1, none⟩ = some (.int .i64 h2) := by simp [World.cell?, hq2]
    have y2 : w3.cell? ⟨w.heap.size + 1, 2, none⟩ = some (.string t2) := by simp [World.cell?, hq2]
    have y3 : w3.cell? ⟨w.heap.size + 1, 3, none⟩ = some (.slice P2 l2.length p2) := by simp [World.cell?, hq2]
    have y4 : w3.cell? ⟨w.heap.size + 1, 4, none⟩ = some (.slice Q2 ks2.length q2) := by simp [World.cell?, hq2]
    have y5 : w3.cell? ⟨w.heap.size + 1, 5, none⟩ = some (.slice R2 vs2.length r2) := by simp [World.cell?, hq2]
    clear hq1 hq2 hq3
    clear hc3 hb3 hbb3
    go_wp2_with fail
    refine (HBND.out w3 HB3.out n (by omega)).mono ?_
    rintro e' w4 ⟨⟨f, t, code, rfl, hrel⟩, hb4⟩
    have HB4 := Lib.hid (below_trans HB3.out hb4)
    have HB4W := Lib.hid (below_trans HBW0.out HB4.out)
    clear z0 z1 z2 z3 z4 z5 y0 y1 y2 y3 y4 y5 hb4
    obtain ⟨hq1, hq2, hq3⟩ := HFAR.out w4 HB4.out
    have z0 : w4.cell? ⟨w.heap.size, 0, none⟩ = some (.int .i64 4) := by simp [World.cell?, hq1]
    have z1 : w4.cell? ⟨w.heap.size, 1, none⟩ = some (.int .i64 h1) := by simp [World.cell?, hq1]
    have z2 : w4.cell? ⟨w.heap.size, 2, none⟩ = some (.string t1) := by simp [World.cell?, hq1]
    have z3 : w4.cell? ⟨w.heap.size, 3, none⟩ = some (.slice P1 nl p1) := by simp [World.cell?, hq1]
    have z4 : w4.cell? ⟨w.heap.size, 4, none⟩ = some (.slice Q1 ks1.length q1) := by simp [World.cell?, hq1]
    have z5 : w4.cell? ⟨w.heap.size, 5, none⟩ = some (.slice R1 vs1.length r1) := by simp [World.cell?, hq1]
    have x0 : w4.cell? ⟨w.heap.size + 1 + 1, 0, none⟩ = some (.int .i64 0) := by simp [World.cell?, hq3]
    have x1 : w4.cell? ⟨w.heap.size + 1 + 1, 1, none⟩ = some (.int .i64 0) := by simp [World.cell?, hq3]
    have x2 : w4.cell? ⟨w.heap.size + 1 + 1, 2, none⟩ = some (.string ⟨#[]⟩) := by simp [World.cell?, hq3]
    have x3 : w4.cell? ⟨w.heap.size + 1 + 1, 3, none⟩ = some (.slice none 0 0) := by simp [World.cell?, hq3]
    have x4 : w4.cell? ⟨w.heap.size + 1 + 1, 4, none⟩ = some (.slice none 0 0) := by simp [World.cell?, hq3]
    have x5 : w4.cell? ⟨w.heap.size + 1 + 1, 5, none⟩ = some (.slice none 0 0) := by simp [World.cell?, hq3]
    have xf : ∀ i, w4.frozen? ⟨w.heap.size + 1 + 1, i, none⟩ = false := fun i => by simp [World.frozen?, hq3]
    clear hq1 hq2 hq3
    rcases hrel with rfl | ⟨rfl, hrel⟩ | ⟨rfl, hrel⟩
    · go_wp2_with fail
      refine bodyPost_ret (v := .tuple #[.agg #[.int .i64 0, .int .i64 0, .string ⟨#[]⟩, .slice none 0 0, .slice none 0 0, .slice none 0 0], .int .i64 2]) (by simp [results, Tryz.results60, go_sem, x0, x1, x2, x3, x4, x5]) rfl ?_
      exact ⟨zeroV0, 0, 0, ⟨#[]⟩, none, none, none, 0, 0, 0, 0, 0, 0, 2, rfl, vr_plain' 0 0 (by decide) (by decide), .inl rfl, below6v _ _ _ _ _ _ HB4W.out HLE.out⟩
    · have HREL := Lib.hid hrel
      clear hrel
      go_wp2_with fail
      refine bodyPost_ret (v := .tuple #[.agg #[.int .i64 0, .int .i64 0, .string ⟨#[]⟩, .slice none 0 0, .slice none 0 0, .slice none 0 0], .int .i64 1]) (by simp [results, Tryz.results60, go_sem, x0, x1, x2, x3, x4, x5]) rfl ?_
      exact ⟨zeroV0, 0, 0, ⟨#[]⟩, none, none, none, 0, 0, 0, 0, 0, 0, 1, rfl, vr_plain' 0 0 (by decide) (by decide), .inr (.inl ⟨rfl, .bad HK6.out (.inl rfl) n f t (.inr (.inl ⟨rfl, HREL.out⟩))⟩), below6v _ _ _ _ _ _ HB4W.out HLE.out⟩
    · have hr := hrel
      obtain ⟨d1, d2, o1, o2, el1, el2, ok1, ok2, hf, ht⟩ := hr
      have g1 := frB_in o1 n (by omega)
      have g2 := toB_in o2 f n (by omega)
      obtain ⟨F, rfl⟩ : ∃ F : Nat, f = F := ⟨f.toNat, by omega⟩
      obtain ⟨T, rfl⟩ : ∃ T : Nat, t = T := ⟨t.toNat, by omega⟩
      have b1 : (0 : Int) ≤ (F : Int) := Int.natCast_nonneg _
      have b2 : (F : Int) ≤ (T : Int) := by omega
      have b3' : (T : Int) ≤ (n : Int) := by omega
      have HREL := Lib.hid hrel
      clear hrel hf ht el1 el2 ok1 ok2 g1 g2
      go_wp2_with fail
      refine (HPTS.out w4).mono ?_
      rintro e' w5 ⟨b5, cap5, rfl, hle5, hbb5, hb5, hc5⟩
      have HB5 := Lib.hid (below_trans HB4.out hb5)
      have HB5W := Lib.hid (below_trans HBW0.out HB5.out)
      have HC5 := Lib.hid hc5
      clear x0 x1 x2 x3 x4 x5 xf z0 z1 z2 z3 z4 z5
      obtain ⟨hq1, hq2, hq3⟩ := HFAR.out w5 HB5.out
      have x0 : w5.cell? ⟨w.heap.size + 1 + 1, 0, none⟩ = some (.int .i64 0) := by simp [World.cell?, hq3]
      have x1 : w5.cell? ⟨w.heap.size + 1 + 1, 1, none⟩ = some (.int .i64 0) := by simp [World.cell?, hq3]
      have x2 : w5.cell? ⟨w.heap.size + 1 + 1, 2, none⟩ = some (.string ⟨#[]⟩) := by simp [World.cell?, hq3]
      have x3 : w5.cell? ⟨w.heap.size + 1 + 1, 3, none⟩ = some (.slice none 0 0) := by simp [World.cell?, hq3]
      have x4 : w5.cell? ⟨w.heap.size + 1 + 1, 4, none⟩ = some (.slice none 0 0) := by simp [World.cell?, hq3]
      have x5 : w5.cell? ⟨w.heap.size + 1 + 1, 5, none⟩ = some (.slice none 0 0) := by simp [World.cell?, hq3]
      have xf : ∀ i, w5.frozen? ⟨w.heap.size + 1 + 1, i, none⟩ = false := fun i => by simp [World.frozen?, hq3]
      clear hq1 hq2 hq3
      have b4 : (T : Int) ≤ (cap5 : Int) := by omega
      clear hc5 hb5 hbb5
      obtain ⟨S, hS⟩ : ∃ S, S = t1.extract (offP (ptsS t1) F) (offP (ptsS t1) T) := ⟨_, rfl⟩
      have hcv := HCB.out F T (by omega) (by omega) w5 b5
      rw [← hS] at hcv
      have HCV := Lib.hid hcv
      have HSS := Lib.hid hS
      have HSV := Lib.hid (show S.size ≤ 2000 from by rw [hS, ByteArray.size_extract]; have := HTV.out; have e : (V.mk 4 h1 t1 l1 ks1 vs1).text = t1 := rfl; rw [e] at this; omega)
      clear hcv hS
      by_cases hFc : F = cap5
      · have hc1 : T - F = 0 := by omega
        have hcv := HCV.out ⟨b5, 0, none⟩ 0 (fun j hj => by omega) HC5.out
        rw [hc1] at hcv
        subst hFc
        go_wp2_with fail
        refine (strV_any S _).mono ?_
        rintro e' w6 ⟨rfl, hb6⟩
        have HB6 := Lib.hid (below_trans HB5W.out hb6)
        have HB6F := Lib.hid (below_trans HB5.out hb6)
        clear hb6 x0 x1 x2 x3 x4 x5 xf
        obtain ⟨hq1, hq2, hq3⟩ := HFAR.out w6 HB6F.out
        have x0 : w6.cell? ⟨w.heap.size + 1 + 1, 0, none⟩ = some (.int .i64 0) := by simp [World.cell?, hq3]
        have x1 : w6.cell? ⟨w.heap.size + 1 + 1, 1, none⟩ = some (.int .i64 0) := by simp [World.cell?, hq3]
        have x2 : w6.cell? ⟨w.heap.size + 1 + 1, 2, none⟩ = some (.string ⟨#[]⟩) := by simp [World.cell?, hq3]
        have x3 : w6.cell? ⟨w.heap.size + 1 + 1, 3, none⟩ = some (.slice none 0 0) := by simp [World.cell?, hq3]
        have x4 : w6.cell? ⟨w.heap.size + 1 + 1, 4, none⟩ = some (.slice none 0 0) := by simp [World.cell?, hq3]
        have x5 : w6.cell? ⟨w.heap.size + 1 + 1, 5, none⟩ = some (.slice none 0 0) := by simp [World.cell?, hq3]
        have xf : ∀ i, w6.frozen? ⟨w.heap.size + 1 + 1, i, none⟩ = false := fun i => by simp [World.frozen?, hq3]
        clear hq1 hq2 hq3
        go_wp2_with fail
        refine bodyPost_ret (v := .tuple #[.agg #[.int .i64 4, .int .i64 0, .string S, .slice none 0 0, .slice none 0 0, .slice none 0 0], .int .i64 0]) (by simp [results, Tryz.results60, go_sem, x0, x1, x2, x3, x4, x5]) rfl ?_
        refine ⟨V.mk 4 0 S [] [] [], 4, 0, S, none, none, none, 0, 0, 0, 0, 0, 0, 0, rfl, vr_text S HSV.out, .inr (.inr ⟨rfl, ?_⟩), below6v _ _ _ _ _ _ HB6.out HLE.out⟩
        rw [HSS.out]
        exact .text HK6.out rfl F T (by rw [show (V.mk 4 h1 t1 l1 ks1 vs1).text = t1 from rfl, ← HN.out]; exact .inr (.inr ⟨rfl, HREL.out⟩))
      · have hFc1 : ¬ cap5 = F := by omega
        have hcv := HCV.out ⟨b5, F, none⟩ (cap5 - F) (fun j hj => by rw [add_at]) HC5.out
        go_wp2_with fail
        refine (strV_any S _).mono ?_
        rintro e' w6 ⟨rfl, hb6⟩
        have HB6 := Lib.hid (below_trans HB5W.out hb6)
        have HB6F := Lib.hid (below_trans HB5.out hb6)
        clear hb6 x0 x1 x2 x3 x4 x5 xf
        obtain ⟨hq1, hq2, hq3⟩ := HFAR.out w6 HB6F.out
        have x0 : w6.cell? ⟨w.heap.size + 1 + 1, 0, none⟩ = some (.int .i64 0) := by simp [World.cell?, hq3]
        have x1 : w6.cell? ⟨w.heap.size + 1 + 1, 1, none⟩ = some (.int .i64 0) := by simp [World.cell?, hq3]
        have x2 : w6.cell? ⟨w.heap.size + 1 + 1, 2, none⟩ = some (.string ⟨#[]⟩) := by simp [World.cell?, hq3]
        have x3 : w6.cell? ⟨w.heap.size + 1 + 1, 3, none⟩ = some (.slice none 0 0) := by simp [World.cell?, hq3]
        have x4 : w6.cell? ⟨w.heap.size + 1 + 1, 4, none⟩ = some (.slice none 0 0) := by simp [World.cell?, hq3]
        have x5 : w6.cell? ⟨w.heap.size + 1 + 1, 5, none⟩ = some (.slice none 0 0) := by simp [World.cell?, hq3]
        have xf : ∀ i, w6.frozen? ⟨w.heap.size + 1 + 1, i, none⟩ = false := fun i => by simp [World.frozen?, hq3]
        clear hq1 hq2 hq3
        go_wp2_with fail
        refine bodyPost_ret (v := .tuple #[.agg #[.int .i64 4, .int .i64 0, .string S, .slice none 0 0, .slice none 0 0, .slice none 0 0], .int .i64 0]) (by simp [results, Tryz.results60, go_sem, x0, x1, x2, x3, x4, x5]) rfl ?_
        refine ⟨V.mk 4 0 S [] [] [], 4, 0, S, none, none, none, 0, 0, 0, 0, 0, 0, 0, rfl, vr_text S HSV.out, .inr (.inr ⟨rfl, ?_⟩), below6v _ _ _ _ _ _ HB6.out HLE.out⟩
        rw [HSS.out]
        exact .text HK6.out rfl F T (by rw [show (V.mk 4 h1 t1 l1 ks1 vs1).text = t1 from rfl, ← HN.out]; exact .inr (.inr ⟨rfl, HREL.out⟩))
set_option maxHeartbeats 8000000 in
theorem cut_k5 (v k : V) (ok : Nat → Prop) (cs1 cs2 : List Value) (w : World) (hv : Vr w ok v cs1) (hk : Vr w ok k cs2) (hkv : v.kind = 5) (wk : WF k) (k6 : k.kind = 6) (lv : v.list.length ≤ 1000000) (tv : v.text.size ≤ 2000) (vv : Lib.validD v.text.data.toList = true) :
    Calls Tryz.prog 60 #[.agg cs1.toArray, .agg cs2.toArray] w (IdxPost ok (IdxS v k) w) := by
  have HV1 := Lib.hid hv
  have HV2 := Lib.hid hk
  have HK := Lib.hid wk
  have HK6 := Lib.hid k6
  have HLV := Lib.hid lv
  have HTV := Lib.hid tv
  have HVV := Lib.hid vv
  obtain ⟨k1, h1, t1, l1, ks1, vs1, P1, p1, Q1, q1, R1, r1, f1, g1, i1, i2, i3, i4, i5, i6, i7, i8, i9, i10, ra, ea, i13, i14, i15⟩ := hv
  have hnp : l1.length ≤ p1 := i2
  have hrow : RowAt w ok 6 P1 l1.length f1 := ra
  have hel := ea
  clear i1 i2 i3 i4 i5 i6 i7 i8 i9 i10 i13 i14 i15 ra ea
  obtain ⟨k2, h2, t2, l2, ks2, vs2, P2, p2, Q2, q2, R2, r2, f2, g2, i1, i2, i3, i4, i5, i6, i7, i8, i9, i10, i11, i12, i13, i14, i15⟩ := hk
  clear i1 i2 i3 i4 i5 i6 i7 i8 i9 i10 i11 i12 i13 i14 i15
  simp only [V.kind] at hkv
  subst hkv
  obtain ⟨nl, hnl⟩ : ∃ nl, nl = l1.length := ⟨_, rfl⟩
  rw [← hnl] at HV1 hnp hrow ⊢
  have HNL := Lib.hid hnl
  have HROW := Lib.hid hrow
  have HEL := Lib.hid hel
  have hnl6 : nl ≤ 1000000 := by rw [hnl]; exact lv
  clear hnl hrow hel lv tv vv wk k6
  obtain ⟨W0, hW0⟩ : ∃ W0, W0 = ((w.alloc (.cells #[.int .i64 5, .int .i64 h1, .string t1, .slice P1 nl p1, .slice Q1 ks1.length q1, .slice R1 vs1.length r1] 26)).alloc (.cells #[.int .i64 k2, .int .i64 h2, .string t2, .slice P2 l2.length p2, .slice Q2 ks2.length q2, .slice R2 vs2.length r2] 26)).alloc (.cells #[.int .i64 0, .int .i64 0, .string ⟨#[]⟩, .slice none 0 0, .slice none 0 0, .slice none 0 0] 26) := ⟨_, rfl⟩
  have hBW0 : Below w.heap.size w W0 := by rw [hW0]; exact ((((Below.refl _ _).alloc (Nat.le_refl _) _).alloc (by (try simp); (try omega)) _).alloc (by (try simp); (try omega)) _)
  have hSW0 : W0.heap.size = w.heap.size + 3 := by rw [hW0]; simp
  have hD0 : W0.heap[w.heap.size]? = some (.cells #[.int .i64 5, .int .i64 h1, .string t1, .slice P1 nl p1, .slice Q1 ks1.length q1, .slice R1 vs1.length r1] 26) := by
    rw [hW0]
    have := heap_alloc_new w (.cells #[.int .i64 5, .int .i64 h1, .string t1, .slice P1 nl p1, .slice Q1 ks1.length q1, .slice R1 vs1.length r1] 26)
    exact (Below.heap_alloc _ _ _ (by (try simp); (try omega))).trans ((Below.heap_alloc _ _ _ (by (try simp); (try omega))).trans (this))
  have hD1 : W0.heap[w.heap.size + 1]? = some (.cells #[.int .i64 k2, .int .i64 h2, .string t2, .slice P2 l2.length p2, .slice Q2 ks2.length q2, .slice R2 vs2.length r2] 26) := by
    rw [hW0]
    have := heap_alloc_new (w.alloc (.cells #[.int .i64 5, .int .i64 h1, .string t1, .slice P1 nl p1, .slice Q1 ks1.length q1, .slice R1 vs1.length r1] 26)) (.cells #[.int .i64 k2, .int .i64 h2, .string t2, .slice P2 l2.length p2, .slice Q2 ks2.length q2, .slice R2 vs2.length r2] 26)
    rw [show (w.alloc (.cells #[.int .i64 5, .int .i64 h1, .string t1, .slice P1 nl p1, .slice Q1 ks1.length q1, .slice R1 vs1.length r1] 26)).heap.size = w.heap.size + 1 from by simp] at this
    exact (Below.heap_alloc _ _ _ (by (try simp); (try omega))).trans (this)
  have hD2 : W0.heap[w.heap.size + 2]? = some (.cells #[.int .i64 0, .int .i64 0, .string ⟨#[]⟩, .slice none 0 0, .slice none 0 0, .slice none 0 0] 26) := by
    rw [hW0]
    have := heap_alloc_new ((w.alloc (.cells #[.int .i64 5, .int .i64 h1, .string t1, .slice P1 nl p1, .slice Q1 ks1.length q1, .slice R1 vs1.length r1] 26)).alloc (.cells #[.int .i64 k2, .int .i64 h2, .string t2, .slice P2 l2.length p2, .slice Q2 ks2.length q2, .slice R2 vs2.length r2] 26)) (.cells #[.int .i64 0, .int .i64 0, .string ⟨#[]⟩, .slice none 0 0, .slice none 0 0, .slice none 0 0] 26)
    rw [show ((w.alloc (.cells #[.int .i64 5, .int .i64 h1, .string t1, .slice P1 nl p1, .slice Q1 ks1.length q1, .slice R1 vs1.length r1] 26)).alloc (.cells #[.int .i64 k2, .int .i64 h2, .string t2, .slice P2 l2.length p2, .slice Q2 ks2.length q2, .slice R2 vs2.length r2] 26)).heap.size = w.heap.size + 2 from by simp] at this
    exact this
  have hfar : ∀ W, Below W0.heap.size W0 W → W.heap[w.heap.size]? = some (.cells #[.int .i64 5, .int .i64 h1, .string t1, .slice P1 nl p1, .slice Q1 ks1.length q1, .slice R1 vs1.length r1] 26) ∧ W.heap[w.heap.size + 1]? = some (.cells #[.int .i64 k2, .int .i64 h2, .string t2, .slice P2 l2.length p2, .slice Q2 ks2.length q2, .slice R2 vs2.length r2] 26) ∧ W.heap[w.heap.size + 2]? = some (.cells #[.int .i64 0, .int .i64 0, .string ⟨#[]⟩, .slice none 0 0, .slice none 0 0, .slice none 0 0] 26) := fun W hb => ⟨(hb.block _ (by omega)).trans hD0, (hb.block _ (by omega)).trans hD1, (hb.block _ (by omega)).trans hD2⟩
  have HFAR := Lib.hid hfar
  have HW0 := Lib.hid hW0
  have HBW0 := Lib.hid hBW0
  have HSW0 := Lib.hid hSW0
  clear hfar hW0 hBW0 hSW0 hD0 hD1 hD2
  have HLE := Lib.hid (show w.heap.size ≤ w.heap.size + 1 + 1 by omega)
  have HBND := Lib.hid (fun (W : World) (hb : Below W0.heap.size W0 W) (n : Nat) (hn : n ≤ 1000000) => bounds_any (V.mk k2 h2 t2 l2 ks2 vs2) n ok _ W (HV2.out.keep (below_trans HBW0.out hb)) HK.out hn)
  · go_enter Tryz.func60, Tryz.ntmps60
    go_wp2_with fail
    rw [← HW0.out]
    refine (HBND.out W0 (Below.refl _ _) nl hnl6).mono ?_
    rintro e' w4 ⟨⟨f, t, code, rfl, hrel⟩, hb4⟩
    have HB4 := Lib.hid hb4
    have HB4W := Lib.hid (below_trans HBW0.out hb4)
    clear hb4
    obtain ⟨hq1, hq2, hq3⟩ := HFAR.out w4 HB4.out
    have z0 : w4.cell? ⟨w.heap.size, 0, none⟩ = some (.int .i64 5) := by simp [World.cell?, hq1]
    have z1 : w4.cell? ⟨w.heap.size, 1, none⟩ = some (.int .i64 h1) := by simp [World.cell?, hq1]
    have z2 : w4.cell? ⟨w.heap.size, 2, none⟩ = some (.string t1) := by simp [World.cell?, hq1]
    have z3 : w4.cell? ⟨w.heap.size, 3, none⟩ = some (.slice P1 nl p1) := by simp [World.cell?, hq1]
    have z4 : w4.cell? ⟨w.heap.size, 4, none⟩ = some (.slice Q1 ks1.length q1) := by simp [World.cell?, hq1]
    have z5 : w4.cell? ⟨w.heap.size, 5, none⟩ = some (.slice R1 vs1.length r1) := by simp [World.cell?, hq1]
    have x0 : w4.cell? ⟨w.heap.size + 1 + 1, 0, none⟩ = some (.int .i64 0) := by simp [World.cell?, hq3]
    have x1 : w4.cell? ⟨w.heap.size + 1 + 1, 1, none⟩ = some (.int .i64 0) := by simp [World.cell?, hq3]
    have x2 : w4.cell? ⟨w.heap.size + 1 + 1, 2, none⟩ = some (.string ⟨#[]⟩) := by simp [World.cell?, hq3]
    have x3 : w4.cell? ⟨w.heap.size + 1 + 1, 3, none⟩ = some (.slice none 0 0) := by simp [World.cell?, hq3]
    have x4 : w4.cell? ⟨w.heap.size + 1 + 1, 4, none⟩ = some (.slice none 0 0) := by simp [World.cell?, hq3]
    have x5 : w4.cell? ⟨w.heap.size + 1 + 1, 5, none⟩ = some (.slice none 0 0) := by simp [World.cell?, hq3]
    have xf : ∀ i, w4.frozen? ⟨w.heap.size + 1 + 1, i, none⟩ = false := fun i => by simp [World.frozen?, hq3]
    clear hq1 hq2 hq3
    rcases hrel with rfl | ⟨rfl, hrel⟩ | ⟨rfl, hrel⟩
    · go_wp2_with fail
      refine bodyPost_ret (v := .tuple #[.agg #[.int .i64 0, .int .i64 0, .string ⟨#[]⟩, .slice none 0 0, .slice none 0 0, .slice none 0 0], .int .i64 2]) (by simp [results, Tryz.results60, go_sem, x0, x1, x2, x3, x4, x5]) rfl ?_
      exact ⟨zeroV0, 0, 0, ⟨#[]⟩, none, none, none, 0, 0, 0, 0, 0, 0, 2, rfl, vr_plain' 0 0 (by decide) (by decide), .inl rfl, below6v _ _ _ _ _ _ HB4W.out HLE.out⟩
    · have HREL := Lib.hid hrel
      clear hrel
      go_wp2_with fail
      refine bodyPost_ret (v := .tuple #[.agg #[.int .i64 0, .int .i64 0, .string ⟨#[]⟩, .slice none 0 0, .slice none 0 0, .slice none 0 0], .int .i64 1]) (by simp [results, Tryz.results60, go_sem, x0, x1, x2, x3, x4, x5]) rfl ?_
      exact ⟨zeroV0, 0, 0, ⟨#[]⟩, none, none, none, 0, 0, 0, 0, 0, 0, 1, rfl, vr_plain' 0 0 (by decide) (by decide), .inr (.inl ⟨rfl, .bad HK6.out (.inr rfl) nl f t (.inr (.inl ⟨rfl, HREL.out⟩))⟩), below6v _ _ _ _ _ _ HB4W.out HLE.out⟩
    · have hr := hrel
      obtain ⟨d1, d2, o1, o2, el1, el2, ok1, ok2, hf, ht⟩ := hr
      have g1 := frB_in o1 nl (by omega)
      have g2 := toB_in o2 f nl (by omega)
      obtain ⟨F, rfl⟩ : ∃ F : Nat, f = F := ⟨f.toNat, by omega⟩
      obtain ⟨T, rfl⟩ : ∃ T : Nat, t = T := ⟨t.toNat, by omega⟩
      have b1 : (0 : Int) ≤ (F : Int) := Int.natCast_nonneg _
      have b2 : (F : Int) ≤ (T : Int) := by omega
      have b3' : (T : Int) ≤ (nl : Int) := by omega
      have b4 : (T : Int) ≤ (p1 : Int) := by omega
      have HREL := Lib.hid hrel
      have HB := Lib.hid (show T ≤ nl ∧ F ≤ T from by omega)
      clear hrel hf ht el1 el2 ok1 ok2 g1 g2
      by_cases hFT : T = F
      · subst hFT
        go_wp2_with fail
        refine (array_any P1 0 0 _).mono ?_
        rintro e' w6 ⟨rfl, hb6⟩
        have HB6 := Lib.hid (below_trans HB4W.out hb6)
        have HB6F := Lib.hid (below_trans HB4.out hb6)
        clear hb6 x0 x1 x2 x3 x4 x5 xf z0 z1 z2 z3 z4 z5
        obtain ⟨hq1, hq2, hq3⟩ := HFAR.out w6 HB6F.out
        have x0 : w6.cell? ⟨w.heap.size + 1 + 1, 0, none⟩ = some (.int .i64 0) := by simp [World.cell?, hq3]
        have x1 : w6.cell? ⟨w.heap.size + 1 + 1, 1, none⟩ = some (.int .i64 0) := by simp [World.cell?, hq3]
        have x2 : w6.cell? ⟨w.heap.size + 1 + 1, 2, none⟩ = some (.string ⟨#[]⟩) := by simp [World.cell?, hq3]
        have x3 : w6.cell? ⟨w.heap.size + 1 + 1, 3, none⟩ = some (.slice none 0 0) := by simp [World.cell?, hq3]
        have x4 : w6.cell? ⟨w.heap.size + 1 + 1, 4, none⟩ = some (.slice none 0 0) := by simp [World.cell?, hq3]
        have x5 : w6.cell? ⟨w.heap.size + 1 + 1, 5, none⟩ = some (.slice none 0 0) := by simp [World.cell?, hq3]
        have xf : ∀ i, w6.frozen? ⟨w.heap.size + 1 + 1, i, none⟩ = false := fun i => by simp [World.frozen?, hq3]
        clear hq1 hq2 hq3
        go_wp2_with fail
        refine bodyPost_ret (v := .tuple #[.agg #[.int .i64 5, .int .i64 0, .string ⟨#[]⟩, .slice P1 0 0, .slice none 0 0, .slice none 0 0], .int .i64 0]) (by simp [results, Tryz.results60, go_sem, x0, x1, x2, x3, x4, x5]) rfl ?_
        refine ⟨V.mk 5 0 ⟨#[]⟩ ((l1.take T).drop T) [] [], 5, 0, ⟨#[]⟩, P1, none, none, 0, 0, 0, 0, 0, 0, 0, rfl, ?_, .inr (.inr ⟨rfl, .list HK6.out rfl T T (by rw [show (V.mk 5 h1 t1 l1 ks1 vs1).list = l1 from rfl, ← HNL.out]; exact .inr (.inr ⟨rfl, HREL.out⟩))⟩), below6v _ _ _ _ _ _ HB6.out HLE.out⟩
        refine set6v _ _ _ _ _ _ (ok := fun b => ok b ∧ b < w.heap.size) ?_ (fun b hb => ⟨by omega, hb⟩)
        exact list_part (by rw [← HNL.out]; exact ((HROW.out.bound fun i hi => by have := (HEL.out i _ (List.getElem?_eq_getElem (by rw [← HNL.out]; exact hi))).len; omega).move fun b hb => HB6.out.block b hb.2)) (fun i u hu => (HEL.out i u hu).bound.move fun b hb => HB6.out.block b hb.2) (by rw [← HNL.out]; exact HB.out.1) (by rw [← HNL.out]; omega) (by have := HB.out.2; omega) (fun h => absurd h (by omega))
      · have hFT1 : ¬ (T : Int) = (F : Int) := by omega
        cases P1 with
        | none =>
          exact absurd (HROW.out (by have := HB.out; omega)) (by rintro ⟨_, h, _⟩; cases h)
        | some ad =>
          go_wp2_with fail
          refine (array_any (some (ad.add (F * 6))) (T - F) (T - F) _).mono ?_
          rintro e' w6 ⟨rfl, hb6⟩
          have HB6 := Lib.hid (below_trans HB4W.out hb6)
          have HB6F := Lib.hid (below_trans HB4.out hb6)
          clear hb6 x0 x1 x2 x3 x4 x5 xf z0 z1 z2 z3 z4 z5
          obtain ⟨hq1, hq2, hq3⟩ := HFAR.out w6 HB6F.out
          have x0 : w6.cell? ⟨w.heap.size + 1 + 1, 0, none⟩ = some (.int .i64 0) := by simp [World.cell?, hq3]
          have x1 : w6.cell? ⟨w.heap.size + 1 + 1, 1, none⟩ = some (.int .i64 0) := by simp [World.cell?, hq3]
          have x2 : w6.cell? ⟨w.heap.size + 1 + 1, 2, none⟩ = some (.string ⟨#[]⟩) := by simp [World.cell?, hq3]
          have x3 : w6.cell? ⟨w.heap.size + 1 + 1, 3, none⟩ = some (.slice none 0 0) := by simp [World.cell?, hq3]
          have x4 : w6.cell? ⟨w.heap.size + 1 + 1, 4, none⟩ = some (.slice none 0 0) := by simp [World.cell?, hq3]
          have x5 : w6.cell? ⟨w.heap.size + 1 + 1, 5, none⟩ = some (.slice none 0 0) := by simp [World.cell?, hq3]
          have xf : ∀ i, w6.frozen? ⟨w.heap.size + 1 + 1, i, none⟩ = false := fun i => by simp [World.frozen?, hq3]
          clear hq1 hq2 hq3
          go_wp2_with fail
          refine bodyPost_ret (v := .tuple #[.agg #[.int .i64 5, .int .i64 0, .string ⟨#[]⟩, .slice (some (ad.add (F * 6))) (T - F) (T - F), .slice none 0 0, .slice none 0 0], .int .i64 0]) (by simp [results, Tryz.results60, go_sem, x0, x1, x2, x3, x4, x5]) rfl ?_
          refine ⟨V.mk 5 0 ⟨#[]⟩ ((l1.take T).drop F) [] [], 5, 0, ⟨#[]⟩, (some (ad.add (F * 6))), none, none, (T - F), (T - F), 0, 0, 0, 0, 0, rfl, ?_, .inr (.inr ⟨rfl, .list HK6.out rfl F T (by rw [show (V.mk 5 h1 t1 l1 ks1 vs1).list = l1 from rfl, ← HNL.out]; exact .inr (.inr ⟨rfl, HREL.out⟩))⟩), below6v _ _ _ _ _ _ HB6.out HLE.out⟩
          refine set6v _ _ _ _ _ _ (ok := fun b => ok b ∧ b < w.heap.size) ?_ (fun b hb => ⟨by omega, hb⟩)
          exact list_part (by rw [← HNL.out]; exact ((HROW.out.bound fun i hi => by have := (HEL.out i _ (List.getElem?_eq_getElem (by rw [← HNL.out]; exact hi))).len; omega).move fun b hb => HB6.out.block b hb.2)) (fun i u hu => (HEL.out i u hu).bound.move fun b hb => HB6.out.block b hb.2) (by rw [← HNL.out]; exact HB.out.1) (by rw [← HNL.out]; omega) (by have := HB.out.2; omega) (fun _ => ⟨ad, rfl, rfl⟩)
set_option maxHeartbeats 8000000 in
theorem cut_k6 (v k : V) (ok : Nat → Prop) (cs1 cs2 : List Value) (w : World) (hv : Vr w ok v cs1) (hk : Vr w ok k cs2) (hkv : v.kind = 6) (wk : WF k) (k6 : k.kind = 6) (lv : v.list.length ≤ 1000000) (tv : v.text.size ≤ 2000) (vv : Lib.validD v.text.data.toList = true) :
    Calls Tryz.prog 60 #[.agg cs1.toArray, .agg cs2.toArray] w (IdxPost ok (IdxS v k) w) := by
  have HV1 := Lib.hid hv
  have HV2 := Lib.hid hk
  have HK := Lib.hid wk
  have HK6 := Lib.hid k6
  have HLV := Lib.hid lv
  have HTV := Lib.hid tv
  have HVV := Lib.hid vv
  obtain ⟨k1, h1, t1, l1, ks1, vs1, P1, p1, Q1, q1, R1, r1, f1, g1, i1, i2, i3, i4, i5, i6, i7, i8, i9, i10, ra, ea, i13, i14, i15⟩ := hv
  have hnp : l1.length ≤ p1 := i2
  have hrow : RowAt w ok 6 P1 l1.length f1 := ra
  have hel := ea
  clear i1 i2 i3 i4 i5 i6 i7 i8 i9 i10 i13 i14 i15 ra ea
  obtain ⟨k2, h2, t2, l2, ks2, vs2, P2, p2, Q2, q2, R2, r2, f2, g2, i1, i2, i3, i4, i5, i6, i7, i8, i9, i10, i11, i12, i13, i14, i15⟩ := hk
  clear i1 i2 i3 i4 i5 i6 i7 i8 i9 i10 i11 i12 i13 i14 i15
  simp only [V.kind] at hkv
  subst hkv
  obtain ⟨nl, hnl⟩ : ∃ nl, nl = l1.length := ⟨_, rfl⟩
  rw [← hnl] at HV1 hnp hrow ⊢
  have HNL := Lib.hid hnl
  have HROW := Lib.hid hrow
  have HEL := Lib.hid hel
  have hnl6 : nl ≤ 1000000 := by rw [hnl]; exact lv
  clear hnl hrow hel lv tv vv wk k6
  obtain ⟨W0, hW0⟩ : ∃ W0, W0 = ((w.alloc (.cells #[.int .i64 6, .int .i64 h1, .string t1, .slice P1 nl p1, .slice Q1 ks1.length q1, .slice R1 vs1.length r1] 26)).alloc (.cells #[.int .i64 k2, .int .i64 h2, .string t2, .slice P2 l2.length p2, .slice Q2 ks2.length q2, .slice R2 vs2.length r2] 26)).alloc (.cells #[.int .i64 0, .int .i64 0, .string ⟨#[]⟩, .slice none 0 0, .slice none 0 0, .slice none 0 0] 26) := ⟨_, rfl⟩
  have hBW0 : Below w.heap.size w W0 := by rw [hW0]; exact ((((Below.refl _ _).alloc (Nat.le_refl _) _).alloc (by (try simp); (try omega)) _).alloc (by (try simp); (try omega)) _)
  have hSW0 : W0.heap.size = w.heap.size + 3 := by rw [hW0]; simp
  have hD0 : W0.heap[w.heap.size]? = some (.cells #[.int .i64 6, .int .i64 h1, .string t1, .slice P1 nl p1, .slice Q1 ks1.length q1, .slice R1 vs1.length r1] 26) := by
    rw [hW0]
    have := heap_alloc_new w (.cells #[.int .i64 6, .int .i64 h1, .string t1, .slice P1 nl p1, .slice Q1 ks1.length q1, .slice R1 vs1.length r1] 26)
    exact (Below.heap_alloc _ _ _ (by (try simp); (try omega))).trans ((Below.heap_alloc _ _ _ (by (try simp); (try omega))).trans (this))
  have hD1 : W0.heap[w.heap.size + 1]? = some (.cells #[.int .i64 k2, .int .i64 h2, .string t2, .slice P2 l2.length p2, .slice Q2 ks2.length q2, .slice R2 vs2.length r2] 26) := by
    rw [hW0]
    have := heap_alloc_new (w.alloc (.cells #[.int .i64 6, .int .i64 h1, .string t1, .slice P1 nl p1, .slice Q1 ks1.length q1, .slice R1 vs1.length r1] 26)) (.cells #[.int .i64 k2, .int .i64 h2, .string t2, .slice P2 l2.length p2, .slice Q2 ks2.length q2, .slice R2 vs2.length r2] 26)
    rw [show (w.alloc (.cells #[.int .i64 6, .int .i64 h1, .string t1, .slice P1 nl p1, .slice Q1 ks1.length q1, .slice R1 vs1.length r1] 26)).heap.size = w.heap.size + 1 from by simp] at this
    exact (Below.heap_alloc _ _ _ (by (try simp); (try omega))).trans (this)
  have hD2 : W0.heap[w.heap.size + 2]? = some (.cells #[.int .i64 0, .int .i64 0, .string ⟨#[]⟩, .slice none 0 0, .slice none 0 0, .slice none 0 0] 26) := by
    rw [hW0]
    have := heap_alloc_new ((w.alloc (.cells #[.int .i64 6, .int .i64 h1, .string t1, .slice P1 nl p1, .slice Q1 ks1.length q1, .slice R1 vs1.length r1] 26)).alloc (.cells #[.int .i64 k2, .int .i64 h2, .string t2, .slice P2 l2.length p2, .slice Q2 ks2.length q2, .slice R2 vs2.length r2] 26)) (.cells #[.int .i64 0, .int .i64 0, .string ⟨#[]⟩, .slice none 0 0, .slice none 0 0, .slice none 0 0] 26)
    rw [show ((w.alloc (.cells #[.int .i64 6, .int .i64 h1, .string t1, .slice P1 nl p1, .slice Q1 ks1.length q1, .slice R1 vs1.length r1] 26)).alloc (.cells #[.int .i64 k2, .int .i64 h2, .string t2, .slice P2 l2.length p2, .slice Q2 ks2.length q2, .slice R2 vs2.length r2] 26)).heap.size = w.heap.size + 2 from by simp] at this
    exact this
  have hfar : ∀ W, Below W0.heap.size W0 W → W.heap[w.heap.size]? = some (.cells #[.int .i64 6, .int .i64 h1, .string t1, .slice P1 nl p1, .slice Q1 ks1.length q1, .slice R1 vs1.length r1] 26) ∧ W.heap[w.heap.size + 1]? = some (.cells #[.int .i64 k2, .int .i64 h2, .string t2, .slice P2 l2.length p2, .slice Q2 ks2.length q2, .slice R2 vs2.length r2] 26) ∧ W.heap[w.heap.size + 2]? = some (.cells #[.int .i64 0, .int .i64 0, .string ⟨#[]⟩, .slice none 0 0, .slice none 0 0, .slice none 0 0] 26) := fun W hb => ⟨(hb.block _ (by omega)).trans hD0, (hb.block _ (by omega)).trans hD1, (hb.block _ (by omega)).trans hD2⟩
  have HFAR := Lib.hid hfar
  have HW0 := Lib.hid hW0
  have HBW0 := Lib.hid hBW0
  have HSW0 := Lib.hid hSW0
  clear hfar hW0 hBW0 hSW0 hD0 hD1 hD2
  have HLE := Lib.hid (show w.heap.size ≤ w.heap.size + 1 + 1 by omega)
  have HBND := Lib.hid (fun (W : World) (hb : Below W0.heap.size W0 W) (n : Nat) (hn : n ≤ 1000000) => bounds_any (V.mk k2 h2 t2 l2 ks2 vs2) n ok _ W (HV2.out.keep (below_trans HBW0.out hb)) HK.out hn)
  · go_enter Tryz.func60, Tryz.ntmps60
    go_wp2_with fail
    rw [← HW0.out]
    obtain ⟨hq1, hq2, hq3⟩ := HFAR.out W0 (Below.refl _ _)
    have x0 : W0.cell? ⟨w.heap.size + 1 + 1, 0, none⟩ = some (.int .i64 0) := by simp [World.cell?, hq3]
    have x1 : W0.cell? ⟨w.heap.size + 1 + 1, 1, none⟩ = some (.int .i64 0) := by simp [World.cell?, hq3]
    have x2 : W0.cell? ⟨w.heap.size + 1 + 1, 2, none⟩ = some (.string ⟨#[]⟩) := by simp [World.cell?, hq3]
    have x3 : W0.cell? ⟨w.heap.size + 1 + 1, 3, none⟩ = some (.slice none 0 0) := by simp [World.cell?, hq3]
    have x4 : W0.cell? ⟨w.heap.size + 1 + 1, 4, none⟩ = some (.slice none 0 0) := by simp [World.cell?, hq3]
    have x5 : W0.cell? ⟨w.heap.size + 1 + 1, 5, none⟩ = some (.slice none 0 0) := by simp [World.cell?, hq3]
    have xf : ∀ i, W0.frozen? ⟨w.heap.size + 1 + 1, i, none⟩ = false := fun i => by simp [World.frozen?, hq3]
    clear hq1 hq2 hq3
    refine bodyPost_ret (v := .tuple #[.agg #[.int .i64 0, .int .i64 0, .string ⟨#[]⟩, .slice none 0 0, .slice none 0 0, .slice none 0 0], .int .i64 2]) (by simp [results, Tryz.results60, go_sem, x0, x1, x2, x3, x4, x5]) rfl ?_
    exact ⟨zeroV0, 0, 0, ⟨#[]⟩, none, none, none, 0, 0, 0, 0, 0, 0, 2, rfl, vr_plain' 0 0 (by decide) (by decide), .inl rfl, HBW0.out⟩
theorem cut_any (v k : V) (ok : Nat → Prop) (cs1 cs2 : List Value) (w : World) (hv : Vr w ok v cs1) (hk : Vr w ok k cs2) (wv : WF v) (wk : WF k) (k6 : k.kind = 6) (lv : v.list.length ≤ 1000000) (tv : v.text.size ≤ 2000) (vv : Lib.validD v.text.data.toList = true) :
    Calls Tryz.prog 60 #[.agg cs1.toArray, .agg cs2.toArray] w (IdxPost ok (IdxS v k) w) := by
  rcases kinds wv with ⟨h, _⟩ | ⟨h, _⟩ | ⟨h, _⟩ | ⟨h, _⟩ | ⟨h, _⟩ | ⟨h, _⟩ | ⟨h, _⟩ | ⟨h, _⟩
  · exact cut_k0 v k ok cs1 cs2 w hv hk h wk k6 lv tv vv
  · exact cut_k1 v k ok cs1 cs2 w hv hk h wk k6 lv tv vv
  · exact cut_k2 v k ok cs1 cs2 w hv hk h wk k6 lv tv vv
  · exact cut_k3 v k ok cs1 cs2 w hv hk h wk k6 lv tv vv
  · exact cut_k3 v k ok cs1 cs2 w hv hk h wk k6 lv tv vv
  · exact cut_k4 v k ok cs1 cs2 w hv hk h wk k6 lv tv vv
  · exact cut_k5 v k ok cs1 cs2 w hv hk h wk k6 lv tv vv
  · exact cut_k6 v k ok cs1 cs2 w hv hk h wk k6 lv tv vv
end Go.Proofs.YtpamlgdcnmcedaaGreatDoor
