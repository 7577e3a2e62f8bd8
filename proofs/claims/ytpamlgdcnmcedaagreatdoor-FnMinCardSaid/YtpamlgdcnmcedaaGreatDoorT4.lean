/- laws.FnTransposeAt: the walk. -/
import Derived.Test.YtpamlgdcnmcedaaGreatDoorT3
import Derived.Test.YtpamlgdcnmcedaaGreatDoorI2
import Derived.Test.YtpamlgdcnmcedaaGreatDoorRA
import Derived.Test.YtpamlgdcnmcedaaGreatDoorS4
import Derived.Deep.DeepCutAuto
import Derived.Deep.RegionHeld3
import Derived.Deep.QuietTactic
import Derived.BigQuiet
set_option linter.unusedVariables false
set_option linter.unusedSimpArgs false
set_option maxRecDepth 100000
namespace Go.Proofs.YtpamlgdcnmcedaaGreatDoor
open Go Go.RowKit
/-- A [][]impl.Value, read. -/
def RowsR (w : World) (ok : Nat → Prop) (A : Option Addr) (m : Nat) (rows : List (List V)) : Prop :=
  ∃ (B : Nat → Option Addr) (d : Nat → Nat) (F : Nat → Nat → List Value), RowAt w ok 1 A m (fun i => [.slice (B i) ((rows.getD i []).length) (d i)]) ∧
    ∀ (i : Nat) (r : List V), rows[i]? = some r → r.length ≤ d i ∧ r.length ≤ 140737488351232 ∧ RowAt w ok 6 (B i) r.length (F i) ∧ ∀ (j : Nat) (v : V), r[j]? = some v → Vr w ok v (F i j)
def mkL (r : List V) : V := V.mk 5 0 ⟨#[]⟩ r [] []
theorem vr_mkL {w : World} {ok : Nat → Prop} {B : Option Addr} {d : Nat} {F : Nat → List Value} {r : List V} (h1 : r.length ≤ d) (h2 : r.length ≤ 140737488351232) (h3 : RowAt w ok 6 B r.length F) (h4 : ∀ (j : Nat) (v : V), r[j]? = some v → Vr w ok v (F j)) :
    Vr w ok (mkL r) [.int .i64 5, .int .i64 0, .string ⟨#[]⟩, .slice B r.length d, .slice none 0 0, .slice none 0 0] :=
  .mk 5 0 ⟨#[]⟩ r [] [] B d none 0 none 0 F (fun _ => []) (by decide) h1 (Nat.le_refl _) (Nat.le_refl _) h2 (by decide) (by decide) (by decide) (by decide) (fun i s h => by simp at h) h3 h4 (fun h => absurd h (by simp)) (fun h => absurd h (by simp)) (fun i v h => by simp at h)
theorem js_mkL (rows : List (List V)) : (V.mk 5 0 ⟨#[]⟩ (rows.map mkL) [] []).j = .arr ((rows.map V.js).map J.arr) := by
  rw [V.j]
  simp only [V.js_map, List.map_map]
  refine congrArg J.arr (List.map_congr_left fun r _ => ?_)
  simp [mkL, V.j, V.js_map]
theorem wideL_js : ∀ rows : List (List V), wideL (rows.map V.js) = wideL rows
  | [] => rfl
  | r :: rows => by rw [List.map_cons, wideL, wideL, js_len, wideL_js rows]
theorem row_one {w : World} {g : Nat} {c0 c1 c2 c3 c4 c5 : Value} {t : TypeId} {fz : Nat × Nat} (h : w.heap[g]? = some (.cells #[c0, c1, c2, c3, c4, c5] t fz)) :
    RowAt w (fun _ => True) 6 (some ⟨g, 0, none⟩) 1 (fun _ => [c0, c1, c2, c3, c4, c5]) := fun _ => ⟨_, rfl, trivial, fun i j u hi hu => by
  have : i = 0 := by omega
  subst this
  rw [Nat.zero_mul, Nat.zero_add]
  exact cells_six h j u hu⟩
theorem idxJ_nat (l : List J) (n : Nat) : idxJ l n = l.getD n .null := by
  have e : fromEnd (n : Int) l.length = n := if_neg (by omega)
  unfold idxJ
  rw [e]
  by_cases h : n < l.length
  · rw [if_pos (by omega)]; simp
  · rw [if_neg (by omega), List.getD_eq_getElem?_getD, List.getElem?_eq_none (by omega)]; rfl
theorem implIndex_arr (v k : V) (l : List J) (n : Int) (hj : v.j = .arr l) (hN : JN (.arr l)) (hk : k.j = .int n) (hn : -4611686018427387904 ≤ n ∧ n ≤ 4611686018427387904) (ok : Nat → Prop) (cs1 cs2 : List Value) (w : World) (hv : Vr w ok v cs1) (hkv : Vr w ok k cs2)
    (wf1 : WF v) (wf2 : WF k) (sm1 : Sm v) (sm2 : Sm k) : Calls Tryz.prog 23 #[.agg cs1.toArray, .agg cs2.toArray] w (ResPost (fun v c => v = (idxJ l n).v ∧ c = 0) w) := by
  refine door_Index v k ok cs1 cs2 w hv hkv wf1 wf2 sm1 sm2 (fun x W => Jr W (fun _ => True) (idxJ l n) x) _ (fun x1 x2 W _ h1 h2 => ?_) (fun x W hx => ?_)
  · rw [hj] at h1
    rw [hk] at h2
    obtain _ | _ | _ := h2
    refine (zzIndex_of (index2_int (.arr l) n hn (fun s h => by cases h) (fun l' h => by cases h; have := jn_len hN; omega) x1 _ W h1)).mono ?_
    rintro e' w' ⟨x, rfl, hb, h⟩
    rcases h with ⟨h, _⟩ | ⟨j, hj', hx⟩
    · cases h
    · cases hj'
      exact ⟨x, rfl, hb, hx.keep hb⟩
  · have hJ : JN (idxJ l n) := by
      unfold idxJ
      split
      · exact jn_getD (jn_arr_elim hN) _
      · exact jn_null
    exact (result_any _ (fun _ => True) _ W hJ.2.2.1 hx).mono fun e w' h => resPost_ok h
set_option maxHeartbeats 8000000 in
theorem transposeAt_law (rows : List (List V)) (ok : Nat → Prop) (A : Option Addr) (m c : Nat) (hm : rows.length = m) (i j : Int) (hi : 0 ≤ i ∧ i < 256) (hj : 0 ≤ j ∧ j < 256) (w : World) (hr : RowsR w ok A m rows) (hmax : m ≤ 140737488351232) (hT : Lib.Utf8Tabs 0 1 w) :
    Calls Tryz.prog 7 #[.slice A m c, .int .u8 i, .int .u8 j] w (LawP w) := by
  by_cases hbig : (m : Int) > 2147483647
  · go_enter Tryz.func7, Tryz.ntmps7
    go_wp2_with fail
    go_ret
    exact ⟨rfl, Below.refl _ _⟩
  obtain ⟨i0, hi0, hzz⟩ := Option.map_eq_some_iff.1 info26
  simp only [Prod.mk.injEq] at hzz
  obtain ⟨hz, hsz, hby⟩ := hzz
  have HI := Lib.hid hi0
  have HZ := Lib.hid hz
  have HS := Lib.hid hsz
  have HB := Lib.hid hby
  have HM := Lib.hid hm
  have HT := Lib.hid hT
  have HR := Lib.hid hr
  have hbig' : (m : Int) ≤ 2147483647 := by omega
  obtain ⟨B, d, F, hrow, hel⟩ := hr
  clear hi0 hz hsz hby hm hT hbig
  go_enter Tryz.func7, Tryz.ntmps7
  go_wp2_with fail
  go_loopw [7, 8, 21] (fun v wd i wr => ∃ k : Nat, k ≤ m ∧ i = .int .i64 k ∧ wd = .int .i64 (wideL (rows.take k) : Nat) ∧ Own kV 26 wr w.heap.size (fun b => ok b ∧ b < w.heap.size) v ((rows.take k).map mkL) ∧ Below w.heap.size w wr) (fun _ _ i _ => m - (intOf i).toNat)
  case atStart => exact ⟨0, Nat.zero_le _, rfl, by rw [List.take_zero]; rfl, by rw [List.take_zero]; exact Own.nil _ _ _ _ _, Below.refl _ _⟩
  case round =>
    obtain ⟨k, hk, rfl, rfl, ho, hb⟩ := hrel
    by_cases hlt : k < m
    · obtain ⟨r, hr⟩ := at_lt (l := rows) (p := k) (by rw [HM.out]; exact hlt)
      obtain ⟨h1, h2, h3, h4⟩ := hel k r hr
      obtain ⟨ad, hA, _, hc0⟩ := hrow (by omega)
      subst hA
      have hx := cell_kept hb (hc0 k 0 _ hlt rfl)
      simp only [Nat.mul_one, Nat.add_zero] at hx
      rw [show (rows.getD k []).length = r.length from by simp [List.getD_eq_getElem?_getD, hr]] at hx
      have hV := (vr_mkL h1 h2 h3 h4).bound.keep hb
      have hnext := wideL_take hr
      obtain ⟨A1, c1, hu, hle⟩ := ho.form
      have hp : ((rows.take k).map mkL).length = k := by rw [List.length_map, List.length_take, HM.out]; omega
      rw [hp] at hu hle
      subst hu
      obtain ⟨q, hq⟩ : ∃ q, q = r.length := ⟨_, rfl⟩
      obtain ⟨l, hl⟩ : ∃ l, l = wideL (rows.take k) := ⟨_, rfl⟩
      rw [← hq] at hx hV h2 hnext
      rw [← hl] at hnext ⊢
      have hown0 := ho.lt
      have HOB := Lib.hid (show ∀ b, (ok b ∧ b < w.heap.size) → (ok b ∧ b < w.heap.size) ∧ some b ≠ (Value.slice A1 k c1).ownBlock from fun b hb => ⟨hb, fun he => by have := (hown0 b he.symm).1; omega⟩)
      have HNEXT := Lib.hid (show (rows.take (k + 1)).map mkL = (rows.take k).map mkL ++ [mkL r] from by rw [List.take_add_one, hr, List.map_append]; rfl)
      have HNX := Lib.hid hnext
      have HV := Lib.hid hV
      have HO := Lib.hid ho
      have HP := Lib.hid hp
      have hbz := hb.size
      generalize B k = bk at hx hV HV
      generalize d k = dk at hx hV HV
      clear hc0 h1 h3 h4 hr hnext hV ho hp hq hl hown0
      go_wp2_with fail
      refine (lawArray_any _ _ _ _).mono ?_
      rintro e' w2 ⟨rfl, hb2⟩
      obtain ⟨w3, hw3⟩ : ∃ w3, w3 = w2.alloc (.cells #[.int .i64 5, .int .i64 0, .string ⟨#[]⟩, .slice bk q dk, .slice none 0 0, .slice none 0 0] 26) := ⟨_, rfl⟩
      have hb3 : Below w2.heap.size w2 w3 := by rw [hw3]; exact (Below.refl _ _).alloc (Nat.le_refl _) _
      have hc3 : w3.heap[w2.heap.size]? = some (.cells #[.int .i64 5, .int .i64 0, .string ⟨#[]⟩, .slice bk q dk, .slice none 0 0, .slice none 0 0] 26) := by rw [hw3]; exact heap_alloc_new w2 _
      have HC3 := Lib.hid hc3
      have HO3 := Lib.hid ((HO.out.keep hb2).keep hb3)
      have HBX := Lib.hid (below_trans (below_trans hb hb2) hb3)
      have HW3 := Lib.hid hw3
      have HV3 := Lib.hid ((HV.out.keep hb2).keep hb3)
      have HP1 := Lib.hid (show ((rows.take k).map mkL).length + 1 ≤ 2147483648 by rw [HP.out]; omega)
      clear hw3 hb3 hc3 hb2
      go_wp2_with (at_builtin; refine Stop.out ?_)
      refine Stop.mk ?_
      rw [← HW3.out]
      refine wpList_append_Own (ok := fun b => ok b ∧ b < w.heap.size) kV 26 w.heap.size rfl (.tmp 25) (.tmp 28) 23 rfl i0 (.agg #[.int .i64 0, .int .i64 0, .string ⟨#[]⟩, .slice none 0 0, .slice none 0 0, .slice none 0 0]) 104 Tryz.underlying23 HI.out HZ.out HS.out HB.out rfl (by decide) (.slice A1 k c1) _ rfl HO3.out ⟨w2.heap.size, 0, none⟩ 1 [.int .i64 5, .int .i64 0, .string ⟨#[]⟩, .slice bk q dk, .slice none 0 0, .slice none 0 0] (mkL r) rfl (cells_six HC3.out) ?c2 ?c3 ?c4 HBX.out.size ?_
      case c2 => exact HV3.out.mono HOB.out
      case c3 => have := HP1.out; simp only [maxLen]; omega
      case c4 => have := HP1.out; omega
      intro v4 w4 hown4 hgr4 _
      have hb4 := grown_below hgr4 HBX.out.size (fun b h => (HO3.out.lt b h).1)
      rw [← HNEXT.out] at hown4
      have HO4 := Lib.hid hown4
      have HB4 := Lib.hid (HBX.out.trans hb4)
      obtain ⟨A3, c3, hv3, hle3⟩ := hown4.form
      obtain ⟨p', hp'⟩ : ∃ p', p' = ((rows.take (k + 1)).map mkL).length := ⟨_, rfl⟩
      rw [← hp'] at hv3
      subst hv3
      clear hown4 hgr4 hb4 hle3 hp'
      go_wp2_with fail
      go_roundw
      case rel => exact ⟨k + 1, by omega, by go_num, by rw [HNX.out]; congr 1; omega, HO4.out, HB4.out⟩
      case measure => simp [intOf]; omega
    · have hkm : k = m := by omega
      subst hkm
      rw [List.take_of_length_le (by rw [HM.out]; exact Nat.le_refl _)] at ho ⊢
      obtain ⟨A1, c1, hu, hle⟩ := ho.form
      rw [List.length_map, HM.out] at hu hle
      subst hu
      obtain ⟨L, hL⟩ : ∃ L, L = wideL rows := ⟨_, rfl⟩
      rw [← hL]
      have HO := Lib.hid ho
      have HL := Lib.hid hL
      have HB1 := Lib.hid hb
      clear ho hb hL hlt hk hrow hel
      have HVA := Lib.hid (show ∀ W, Below wr.heap.size wr W → Vr W (fun _ => True) (V.mk 5 0 ⟨#[]⟩ (rows.map mkL) [] []) [.int .i64 5, .int .i64 0, .string ⟨#[]⟩, .slice A1 k c1, .slice none 0 0, .slice none 0 0] from fun W hW => (vr_own_list (ok := fun _ => True) HO.out (fun _ _ => trivial) (fun _ _ _ => trivial) (by rw [List.length_map]; exact HM.out) hle (by omega)).keep hW)
      go_wp2_with fail
      refine (lawArray_any _ _ _ _).mono ?_
      rintro e' w2 ⟨rfl, hb2⟩
      obtain ⟨W3, hW3⟩ : ∃ W3, W3 = w2.alloc (.cells #[.int .i64 5, .int .i64 0, .string ⟨#[]⟩, .slice A1 k c1, .slice none 0 0, .slice none 0 0] 26) := ⟨_, rfl⟩
      have hb3 : Below w2.heap.size w2 W3 := by rw [hW3]; exact (Below.refl _ _).alloc (Nat.le_refl _) _
      have hc3 : W3.heap[w2.heap.size]? = some (.cells #[.int .i64 5, .int .i64 0, .string ⟨#[]⟩, .slice A1 k c1, .slice none 0 0, .slice none 0 0] 26) := by rw [hW3]; exact heap_alloc_new w2 _
      have HW3 := Lib.hid hW3
      have HB3 := Lib.hid (below_trans hb2 hb3)
      have HFIT := Lib.hid (fits_any [V.mk 5 0 ⟨#[]⟩ (rows.map mkL) [] []] 1 rfl (fun _ => True) _ 1 _ W3 (row_one hc3) (fun i v hv => by
        match i, hv with
        | 0, hv => simp at hv; subst hv; exact HVA.out W3 HB3.out
        | i + 1, hv => simp at hv) (by decide) (Utf8Tabs_below HT.out (below_trans HB1.out HB3.out)))
      clear hW3 hb2 hb3 hc3
      go_wp2_with fail
      rw [← HW3.out]
      refine HFIT.out.mono ?_
      rintro e' w4 ⟨hb4, r, rfl, hfit⟩
      have HB4 := Lib.hid (below_trans HB3.out hb4)
      have HF := Lib.hid hfit
      clear hb4 hfit
      cases r
      · go_wp2_with fail
        go_ret
        exact ⟨rfl, below_trans HB1.out HB4.out⟩
      have WV := Lib.hid (HF.out rfl (V.mk 5 0 ⟨#[]⟩ (rows.map mkL) [] []) (by simp))
      have HJN0 := jn_of (HVA.out wr (Below.refl _ _)) WV.out.1 (by have := WV.out.2; omega)
      rw [js_mkL] at HJN0
      have HJN := Lib.hid HJN0
      have hL1 : L ≤ 1000000 := by
        rw [HL.out, ← wideL_js]
        exact wideL_of _ _ fun r hr => jn_len (jn_arr_elim HJN0 _ (List.mem_map.2 ⟨r, hr, rfl⟩))
      clear HJN0
      go_wp2_with fail
      refine (lawArray_any _ _ _ _).mono ?_
      rintro e' w5 ⟨rfl, hb5⟩
      have HB5 := Lib.hid (below_trans HB4.out hb5)
      clear hb5
      go_wp2_with fail
      refine (implTranspose_rows (V.mk 5 0 ⟨#[]⟩ (rows.map mkL) [] []) (rows.map V.js) (js_mkL rows) HJN.out (by rw [wideL_js, ← HL.out]; exact hL1) (fun _ => True) _ w5 (HVA.out w5 HB5.out) WV.out.1 (sm_of (by have := WV.out.2; omega))).mono ?_
      rintro e' w6 h6
      obtain ⟨v6, a0, a1, s, S3, S4, S5, n3, m3, n4, m4, n5, m5, cc, rfl, hv6, ⟨rfl, rfl⟩, hb6⟩ := resPost_shape h6
      rw [wideL_js, ← HL.out] at hv6
      have HV6 := Lib.hid (hv6.mono (ok' := fun _ => True) fun _ _ => trivial)
      obtain ⟨tl, htl⟩ : ∃ tl, tl = J.vs (transJ (rows.map V.js) L) := ⟨_, rfl⟩
      have htlen : tl.length = L := by rw [htl, vs_len]; simp [transJ]
      rw [J.v, ← htl] at hv6 HV6
      have hshape : a0 = 5 ∧ n3 = L := by
        cases hv6
        exact ⟨rfl, htlen⟩
      obtain ⟨rfl, rfl⟩ := hshape
      have HB6 := Lib.hid (below_trans HB5.out hb6)
      have HTL := Lib.hid htl
      clear h6 hv6 hb6 htl htlen
      by_cases hn0 : n3 = 0
      · subst hn0
        go_wp2_with fail
        go_ret
        exact ⟨rfl, below_trans HB1.out (below_trans HB6.out ((Below.refl _ _).alloc (Nat.le_refl _) _))⟩
      have hnI : ¬ (n3 : Int) = 0 := by omega
      have hk0 : 0 < k := by
        rcases Nat.eq_zero_or_pos k with h0 | h0
        · have h1 : rows = [] := List.eq_nil_of_length_eq_zero (HM.out.trans h0)
          have h2 := HL.out
          rw [h1] at h2
          exact absurd h2 hn0
        · exact h0
      have hkI : ¬ (k : Int) = 0 := by omega
      obtain ⟨xn, hx1, hxk⟩ : ∃ xn : Nat, i.tmod (k : Int) = xn ∧ xn < k := by
        have h1 := Int.tmod_nonneg (k : Int) hi.1
        have h2 := Int.tmod_lt_of_pos i (show (0 : Int) < k by omega)
        exact ⟨(i.tmod k).toNat, by omega, by omega⟩
      obtain ⟨yn, hy1, hyn⟩ : ∃ yn : Nat, j.tmod (n3 : Int) = yn ∧ yn < n3 := by
        have h1 := Int.tmod_nonneg (n3 : Int) hj.1
        have h2 := Int.tmod_lt_of_pos j (show (0 : Int) < n3 by omega)
        exact ⟨(j.tmod n3).toNat, by omega, by omega⟩
      have hx2 : i % (k : Int) = xn := by rw [← Int.tmod_eq_emod_of_nonneg hi.1]; exact hx1
      have hy2 : j % (n3 : Int) = yn := by rw [← Int.tmod_eq_emod_of_nonneg hj.1]; exact hy1
      obtain ⟨W7, hW7⟩ : ∃ W7, W7 = w6.alloc (.cells #[.int .i64 5, .int .i64 a1, .string s, .slice S3 n3 m3, .slice S4 n4 m4, .slice S5 n5 m5, .int .i64 0] 34) := ⟨_, rfl⟩
      have hb7 : Below w6.heap.size w6 W7 := by rw [hW7]; exact (Below.refl _ _).alloc (Nat.le_refl _) _
      have hc7 : W7.heap[w6.heap.size]? = some (.cells #[.int .i64 5, .int .i64 a1, .string s, .slice S3 n3 m3, .slice S4 n4 m4, .slice S5 n5 m5, .int .i64 0] 34) := by rw [hW7]; exact heap_alloc_new w6 _
      have HW7 := Lib.hid hW7
      have HB67 := Lib.hid hb7
      have HB7 := Lib.hid (below_trans HB6.out hb7)
      have HC7 := Lib.hid hc7
      clear hW7 hb7 hc7
      obtain ⟨hi1, hi2⟩ := hi
      obtain ⟨hj1, hj2⟩ := hj
      go_upto_region 17 with fail
      rw [← HW7.out]
      go_cut [12, 13] (fun xv yv wx => xv = .int .i64 xn ∧ yv = .int .i64 yn ∧ wx = W7.drew)
      case first =>
        go_region
        all_goals (go_wp2_with fail; go_meet; exact ⟨rfl, rfl, rfl⟩)
      case rest =>
        obtain ⟨rfl, rfl, rfl⟩ := hcut
        obtain ⟨rx, hrx⟩ := at_lt (l := rows) (p := xn) (by rw [HM.out]; exact hxk)
        obtain ⟨colL, hcolL⟩ : ∃ colL, colL = (rows.map V.js).map fun r => r.getD yn .null := ⟨_, rfl⟩
        have hJT : JN (.arr (transJ (rows.map V.js) n3)) := by
          have := trans_jn (rows.map V.js) (by have := jn_len HJN.out; rwa [List.length_map] at this) (fun r hr => jn_arr_elim HJN.out _ (List.mem_map.2 ⟨r, hr, rfl⟩)) (by rw [wideL_js, ← HL.out]; exact hL1)
          rw [wideL_js, ← HL.out] at this
          exact this
        have hcol : idxJ (transJ (rows.map V.js) n3) (yn : Int) = J.arr colL := by
          rw [idxJ_nat, hcolL, transJ, List.getD_eq_getElem?_getD, List.getElem?_map, List.getElem?_range hyn]
          rfl
        have hJC : JN (.arr colL) := by
          have := jn_getD (jn_arr_elim hJT) yn
          rw [← idxJ_nat, hcol] at this
          exact this
        have hJR : JN (.arr (V.js rx)) := jn_arr_elim HJN.out _ (List.mem_map.2 ⟨V.js rx, List.mem_map.2 ⟨rx, List.mem_of_getElem? hrx, rfl⟩, rfl⟩)
        have htv : (J.arr (transJ (rows.map V.js) n3)).v = V.mk 5 0 ⟨#[]⟩ tl [] [] := by rw [J.v, ← HTL.out]
        have HK := Lib.hid (show ∀ W : World, Below W7.heap.size W7 W → W.cell? ⟨w6.heap.size, 0, none⟩ = some (.int .i64 5) ∧ W.cell? ⟨w6.heap.size, 1, none⟩ = some (.int .i64 a1) ∧ W.cell? ⟨w6.heap.size, 2, none⟩ = some (.string s) ∧ W.cell? ⟨w6.heap.size, 3, none⟩ = some (.slice S3 n3 m3) ∧ W.cell? ⟨w6.heap.size, 4, none⟩ = some (.slice S4 n4 m4) ∧ W.cell? ⟨w6.heap.size, 5, none⟩ = some (.slice S5 n5 m5) from fun W hb => by
          have q := (hb.block _ (heap_lt HC7.out)).trans HC7.out
          refine ⟨?_, ?_, ?_, ?_, ?_, ?_⟩ <;> simp [World.cell?, q])
        have hyr : -9007199254740992 ≤ (yn : Int) ∧ (yn : Int) ≤ 9007199254740992 := by omega
        have hJY := jn_int yn hyr
        have HIX := Lib.hid (fun (W : World) (hb : Below W7.heap.size W7 W) => implIndex_arr (V.mk 5 0 ⟨#[]⟩ tl [] []) (V.mk 3 (2 * yn) ⟨#[]⟩ [] [] []) (transJ (rows.map V.js) n3) yn (by rw [← htv]; exact hJT.2.2.2) hJT hJY.2.2.2 (by omega) (fun _ => True) [.int .i64 5, .int .i64 a1, .string s, .slice S3 n3 m3, .slice S4 n4 m4, .slice S5 n5 m5] [.int .i64 3, .int .i64 (2 * yn), .string ⟨#[]⟩, .slice none 0 0, .slice none 0 0, .slice none 0 0] W (HV6.out.keep (below_trans HB67.out hb)) (vr_plain' 3 (2 * yn) (by decide) (by omega)) (by rw [← htv]; exact hJT.1) hJY.1 (by rw [← htv]; exact hJT.2.1) hJY.2.1)
        have HCOL := Lib.hid hcol
        have HCOLL := Lib.hid hcolL
        have HJC := Lib.hid hJC
        have HJR := Lib.hid hJR
        have HJY := Lib.hid hJY
        have HRX := Lib.hid hrx
        have HYR := Lib.hid hyr
        clear hcol hcolL hJC hJR hJY hrx hyr hJT htv
        go_upto_region 18 with fail
        go_cut [14] (fun pv wx => ResAt W7 (J.arr colL).v 0 pv wx)
        case first =>
          obtain ⟨x0, x1, x2, x3, x4, x5⟩ := HK.out W7 (Below.refl _ _)
          go_region_held3 (fun W : World => W.cell? ⟨w6.heap.size, 0, none⟩ = some (.int .i64 5) ∧ W.cell? ⟨w6.heap.size, 1, none⟩ = some (.int .i64 a1) ∧ W.cell? ⟨w6.heap.size, 2, none⟩ = some (.string s) ∧ W.cell? ⟨w6.heap.size, 3, none⟩ = some (.slice S3 n3 m3) ∧ W.cell? ⟨w6.heap.size, 4, none⟩ = some (.slice S4 n4 m4) ∧ W.cell? ⟨w6.heap.size, 5, none⟩ = some (.slice S5 n5 m5))
            (first | with_reducible exact HK.out _ hbd | with_reducible exact HK.out _ (hbd.alloc hbd.size _) | with_reducible exact HK.out _ hbc | with_reducible exact HK.out _ (hbc.alloc hbc.size _) | with_reducible exact HK.out _ (resAt_below HFIN.out) | exact HK.out _ (by repeat (first | with_reducible exact Below.refl _ _ | with_reducible apply Below.drew | (with_reducible refine Below.alloc ?_ (Nat.le_refl _) _))) | go_keep)
            ((first | (go_at_call 26; refine (lawNumber_any yn HYR.out _).mono ?_; rintro e' w' ⟨rfl, hb'⟩; have hbc : Below W7.heap.size W7 w' := below_trans (by repeat (first | with_reducible exact Below.refl _ _ | with_reducible apply Below.drew | (with_reducible refine Below.alloc ?_ (Nat.le_refl _) _))) hb'; (try with_reducible have hg1 := alloc_then2 hb'); (try with_reducible have hg1 := alloc_then1 hb')) | (go_at_call 23; refine (HIX.out _ ?hbw).mono ?_; (case hbw => with_reducible first | exact hbc | exact hbc.alloc hbc.size _); rintro e' w'' h''; obtain ⟨v7, b0, b1, sb, T3, T4, T5, u3, v3, u4, v4, u5, v5, cc, rfl, hv7, ⟨rfl, rfl⟩, hb''⟩ := resPost_shape h''; rw [HCOL.out] at hv7; have hbd : Below W7.heap.size W7 w'' := (by with_reducible first | exact below_trans hbc hb'' | exact below_trans (hbc.alloc hbc.size _) hb''); (first | (have hg2 := (hb''.block _ (heap_lt hg1)).trans hg1; have HFIN := Lib.hid (resAt_set (W := W7) (c := 0) hbd (Nat.le_refl _) (heap_lt hg1) hg2 hv7); obtain ⟨y0, y1, y2, y3, y4, y5, y6, yf⟩ := cells7 hg2) | (with_reducible have hg2 := alloc_then hb''; with_reducible have hlt := alloc_lt hb''; with_reducible have HFIN := Lib.hid (resAt_set (W := W7) (c := 0) hbd hbc.size hlt hg2 hv7); obtain ⟨y0, y1, y2, y3, y4, y5, y6, yf⟩ := cells7 hg2) | (have HFIX := Lib.hid (And.intro hbd hv7))); clear hv7)))
          all_goals
            go_wp2_with fail
            go_meet
            first | exact HFIN.out | exact resAt_alloc HFIX.out.1 HFIX.out.2
        case rest =>
          obtain ⟨g, b0, b1, sb, T3, T4, T5, u3, v3, u4, v4, u5, v5, rfl, hb8, hg8, hc8, hv8⟩ := hcut
          have HB8 := Lib.hid (below_trans HB7.out hb8)
          have HC8 := Lib.hid hc8
          have HV8 := Lib.hid hv8
          have hmx : mkL rx ∈ rows.map mkL := List.mem_map.2 ⟨rx, List.mem_of_getElem? HRX.out, rfl⟩
          have hwx : WF (mkL rx) := wf_list WV.out.1 _ hmx
          have hsx : Sm (mkL rx) := by
            obtain ⟨_, _, _, _, _, _, _, _, el, _⟩ := sm_of (v := V.mk 5 0 ⟨#[]⟩ (rows.map mkL) [] []) (by have := WV.out.2; omega)
            exact el _ hmx
          have hVA := HVA.out wc HB8.out
          have hgx : (rows.map mkL)[xn]? = some (mkL rx) := by rw [List.getElem?_map, HRX.out]; rfl
          have hnl : (rows.map mkL).length = k := by rw [List.length_map]; exact HM.out
          obtain ⟨ad1, fx, hA1, hcx, hVx⟩ : ∃ (ad1 : Addr) (fx : List Value), A1 = some ad1 ∧ (∀ j u, fx[j]? = some u → wc.cell? (ad1.add (xn * 6 + j)) = some u) ∧ Vr wc (fun _ => True) (mkL rx) fx := by
            generalize rows.map mkL = lm at hVA hgx hnl
            obtain ⟨_, _, _, _, _, _, _, _, _, _, _, _, fe, _, _, _, _, _, _, _, _, _, _, _, r1, e1, _, _, _⟩ := hVA
            obtain ⟨ad1, hA, _, hcc⟩ := r1 (by omega)
            exact ⟨ad1, fe xn, hA, fun j u hu => hcc xn j u (by omega) hu, e1 xn _ hgx⟩
          subst hA1
          obtain ⟨qx, Bx, dx, Y4, y4, Y5, y5, hfx⟩ : ∃ (qx : Nat) (Bx : Option Addr) (dx : Nat) (Y4 : Option Addr) (y4 : Nat) (Y5 : Option Addr) (y5 : Nat), fx = [.int .i64 5, .int .i64 0, .string ⟨#[]⟩, .slice Bx qx dx, .slice Y4 0 y4, .slice Y5 0 y5] := by
            cases hVx
            exact ⟨_, _, _, _, _, _, _, rfl⟩
          subst hfx
          have HVX := Lib.hid hVx
          obtain ⟨s0, s1, s2, s3, s4, s5⟩ := cells6 hcx
          have HK2 := Lib.hid (show ∀ W : World, Below wc.heap.size wc W → W.cell? (ad1.add (xn * 6)) = some (.int .i64 5) ∧ W.cell? ⟨(ad1.add (xn * 6)).block, (ad1.add (xn * 6)).off + 1, none⟩ = some (.int .i64 0) ∧ W.cell? ⟨(ad1.add (xn * 6)).block, (ad1.add (xn * 6)).off + 2, none⟩ = some (.string ⟨#[]⟩) ∧ W.cell? ⟨(ad1.add (xn * 6)).block, (ad1.add (xn * 6)).off + 3, none⟩ = some (.slice Bx qx dx) ∧ W.cell? ⟨(ad1.add (xn * 6)).block, (ad1.add (xn * 6)).off + 4, none⟩ = some (.slice Y4 0 y4) ∧ W.cell? ⟨(ad1.add (xn * 6)).block, (ad1.add (xn * 6)).off + 5, none⟩ = some (.slice Y5 0 y5) from fun W hb =>
            ⟨cell_kept hb s0, cell_kept hb s1, cell_kept hb s2, cell_kept hb s3, cell_kept hb s4, cell_kept hb s5⟩)
          have hjx : (mkL rx).j = .arr (V.js rx) := by simp [mkL, V.j]
          have HIX2 := Lib.hid (fun (W : World) (hb : Below wc.heap.size wc W) => implIndex_arr (mkL rx) (V.mk 3 (2 * yn) ⟨#[]⟩ [] [] []) (V.js rx) yn hjx HJR.out HJY.out.2.2.2 (by omega) (fun _ => True) [.int .i64 5, .int .i64 0, .string ⟨#[]⟩, .slice Bx qx dx, .slice Y4 0 y4, .slice Y5 0 y5] [.int .i64 3, .int .i64 (2 * yn), .string ⟨#[]⟩, .slice none 0 0, .slice none 0 0, .slice none 0 0] W (HVX.out.keep hb) (vr_plain' 3 (2 * yn) (by decide) (by omega)) hwx HJY.out.1 hsx HJY.out.2.1)
          have i0 : (0 : Int) ≤ (xn : Int) := Int.natCast_nonneg _
          have i1 : (xn : Int) < (k : Int) := by omega
          clear hb8 hc8 hv8 hmx hwx hsx hVA hgx hnl hcx hVx hjx s0 s1 s2 s3 s4 s5
          go_upto_region 19 with fail
          go_cut [15] (fun pv wx => ResAt wc (idxJ (V.js rx) yn).v 0 pv wx)
          case first =>
            obtain ⟨x0, x1, x2, x3, x4, x5⟩ := HK2.out wc (Below.refl _ _)
            go_region_held3 (fun W : World => W.cell? (ad1.add (xn * 6)) = some (.int .i64 5) ∧ W.cell? ⟨(ad1.add (xn * 6)).block, (ad1.add (xn * 6)).off + 1, none⟩ = some (.int .i64 0) ∧ W.cell? ⟨(ad1.add (xn * 6)).block, (ad1.add (xn * 6)).off + 2, none⟩ = some (.string ⟨#[]⟩) ∧ W.cell? ⟨(ad1.add (xn * 6)).block, (ad1.add (xn * 6)).off + 3, none⟩ = some (.slice Bx qx dx) ∧ W.cell? ⟨(ad1.add (xn * 6)).block, (ad1.add (xn * 6)).off + 4, none⟩ = some (.slice Y4 0 y4) ∧ W.cell? ⟨(ad1.add (xn * 6)).block, (ad1.add (xn * 6)).off + 5, none⟩ = some (.slice Y5 0 y5))
              (first | with_reducible exact HK2.out _ hbd | with_reducible exact HK2.out _ (hbd.alloc hbd.size _) | with_reducible exact HK2.out _ hbc | with_reducible exact HK2.out _ (hbc.alloc hbc.size _) | with_reducible exact HK2.out _ (resAt_below HFIN.out) | exact HK2.out _ (by repeat (first | with_reducible exact Below.refl _ _ | with_reducible apply Below.drew | (with_reducible refine Below.alloc ?_ (Nat.le_refl _) _))) | go_keep)
              ((first | (go_at_call 26; refine (lawNumber_any yn HYR.out _).mono ?_; rintro e' w' ⟨rfl, hb'⟩; have hbc : Below wc.heap.size wc w' := below_trans (by repeat (first | with_reducible exact Below.refl _ _ | with_reducible apply Below.drew | (with_reducible refine Below.alloc ?_ (Nat.le_refl _) _))) hb'; (try with_reducible have hg1 := alloc_then2 hb'); (try with_reducible have hg1 := alloc_then1 hb')) | (go_at_call 23; refine (HIX2.out _ ?hbw).mono ?_; (case hbw => with_reducible first | exact hbc | exact hbc.alloc hbc.size _); rintro e' w'' h''; obtain ⟨v7, b0, b1, sb, T3, T4, T5, u3, v3, u4, v4, u5, v5, cc, rfl, hv7, ⟨rfl, rfl⟩, hb''⟩ := resPost_shape h''; have hbd : Below wc.heap.size wc w'' := (by with_reducible first | exact below_trans hbc hb'' | exact below_trans (hbc.alloc hbc.size _) hb''); (first | (have hg2 := (hb''.block _ (heap_lt hg1)).trans hg1; have HFIN := Lib.hid (resAt_set (W := wc) (c := 0) hbd (Nat.le_refl _) (heap_lt hg1) hg2 hv7); obtain ⟨y0, y1, y2, y3, y4, y5, y6, yf⟩ := cells7 hg2) | (with_reducible have hg2 := alloc_then hb''; with_reducible have hlt := alloc_lt hb''; with_reducible have HFIN := Lib.hid (resAt_set (W := wc) (c := 0) hbd hbc.size hlt hg2 hv7); obtain ⟨y0, y1, y2, y3, y4, y5, y6, yf⟩ := cells7 hg2) | (have HFIX := Lib.hid (And.intro hbd hv7))); clear hv7)))
            all_goals
              go_wp2_with fail
              go_meet
              first | exact HFIN.out | exact resAt_alloc HFIX.out.1 HFIX.out.2
          case rest =>
            obtain ⟨g9, d0, d1, sd, X3, X4, X5, p3, q3, p4, q4, p5, q5, rfl, hb9, hg9, hc9, hv9⟩ := hcut
            have hc8' := (hb9.block _ (heap_lt HC8.out)).trans HC8.out
            have HB9 := Lib.hid (below_trans HB8.out hb9)
            have HK3 := Lib.hid (show ∀ W : World, Below wc.heap.size wc W → W.cell? ⟨g, 0, none⟩ = some (.int .i64 b0) ∧ W.cell? ⟨g, 1, none⟩ = some (.int .i64 b1) ∧ W.cell? ⟨g, 2, none⟩ = some (.string sb) ∧ W.cell? ⟨g, 3, none⟩ = some (.slice T3 u3 v3) ∧ W.cell? ⟨g, 4, none⟩ = some (.slice T4 u4 v4) ∧ W.cell? ⟨g, 5, none⟩ = some (.slice T5 u5 v5) ∧ W.cell? ⟨g, 6, none⟩ = some (.int .i64 0) ∧ W.cell? ⟨g9, 0, none⟩ = some (.int .i64 d0) ∧ W.cell? ⟨g9, 1, none⟩ = some (.int .i64 d1) ∧ W.cell? ⟨g9, 2, none⟩ = some (.string sd) ∧ W.cell? ⟨g9, 3, none⟩ = some (.slice X3 p3 q3) ∧ W.cell? ⟨g9, 4, none⟩ = some (.slice X4 p4 q4) ∧ W.cell? ⟨g9, 5, none⟩ = some (.slice X5 p5 q5) ∧ W.cell? ⟨g9, 6, none⟩ = some (.int .i64 0) from fun W hb => by
              have q1 := (hb.block _ (heap_lt hc8')).trans hc8'
              have q2 := (hb.block _ (heap_lt hc9)).trans hc9
              refine ⟨?_, ?_, ?_, ?_, ?_, ?_, ?_, ?_, ?_, ?_, ?_, ?_, ?_, ?_⟩ <;> simp [World.cell?, q1, q2])
            have hcl : colL.length = k := by rw [HCOLL.out, List.length_map, List.length_map]; exact HM.out
            have hxr : -9007199254740992 ≤ (xn : Int) ∧ (xn : Int) ≤ 9007199254740992 := by omega
            have hkr : -9007199254740992 ≤ (k : Int) ∧ (k : Int) ≤ 9007199254740992 := by omega
            have hJX := jn_int xn hxr
            have hJK := jn_int k hkr
            have HVC := Lib.hid (show ∀ W : World, Below wc.heap.size wc W → Vr W (fun _ => True) (J.arr colL).v [.int .i64 b0, .int .i64 b1, .string sb, .slice T3 u3 v3, .slice T4 u4 v4, .slice T5 u5 v5] from fun W hb => HV8.out.keep (below_trans hb9 hb))
            have HVW := Lib.hid (show ∀ W : World, Below wc.heap.size wc W → Vr W (fun _ => True) (idxJ (V.js rx) yn).v [.int .i64 d0, .int .i64 d1, .string sd, .slice X3 p3 q3, .slice X4 p4 q4, .slice X5 p5 q5] from fun W hb => hv9.keep hb)
            have HLEN := Lib.hid (fun (W : World) (hb : Below wc.heap.size wc W) => implLength_arr (J.arr colL).v colL HJC.out.2.2.2 (jn_len HJC.out) (fun _ => True) [.int .i64 b0, .int .i64 b1, .string sb, .slice T3 u3 v3, .slice T4 u4 v4, .slice T5 u5 v5] W (HVC.out W hb) HJC.out.1 HJC.out.2.1)
            have HIX3 := Lib.hid (fun (W : World) (hb : Below wc.heap.size wc W) => implIndex_arr (J.arr colL).v (V.mk 3 (2 * xn) ⟨#[]⟩ [] [] []) colL xn HJC.out.2.2.2 HJC.out hJX.2.2.2 (by omega) (fun _ => True) [.int .i64 b0, .int .i64 b1, .string sb, .slice T3 u3 v3, .slice T4 u4 v4, .slice T5 u5 v5] [.int .i64 3, .int .i64 (2 * xn), .string ⟨#[]⟩, .slice none 0 0, .slice none 0 0, .slice none 0 0] W (HVC.out W hb) (vr_plain' 3 (2 * xn) (by decide) (by omega)) HJC.out.1 hJX.1 HJC.out.2.1 hJX.2.1)
            have heq : idxJ colL (xn : Int) = idxJ (V.js rx) yn := by
              rw [idxJ_nat, idxJ_nat, HCOLL.out, List.getD_eq_getElem?_getD, List.getElem?_map, List.getElem?_map, HRX.out]
              rfl
            have hJE : JN (idxJ (V.js rx) yn) := by rw [idxJ_nat]; exact jn_getD (jn_arr_elim HJR.out) yn
            have HEQ := Lib.hid heq
            have HJE := Lib.hid hJE
            have HCL := Lib.hid hcl
            have HJK := Lib.hid hJK
            have HXR := Lib.hid hxr
            have HKR := Lib.hid hkr
            clear hb9 hc9 hv9 hc8' hcl hxr hkr hJX hJK heq hJE
            obtain ⟨x0, x1, x2, x3, x4, x5, x6, y0, y1, y2, y3, y4', y5', y6⟩ := HK3.out wc (Below.refl _ _)
            go_upto_region 20 with fail
            go_region_held3 (fun W : World => W.cell? ⟨g, 0, none⟩ = some (.int .i64 b0) ∧ W.cell? ⟨g, 1, none⟩ = some (.int .i64 b1) ∧ W.cell? ⟨g, 2, none⟩ = some (.string sb) ∧ W.cell? ⟨g, 3, none⟩ = some (.slice T3 u3 v3) ∧ W.cell? ⟨g, 4, none⟩ = some (.slice T4 u4 v4) ∧ W.cell? ⟨g, 5, none⟩ = some (.slice T5 u5 v5) ∧ W.cell? ⟨g, 6, none⟩ = some (.int .i64 0) ∧ W.cell? ⟨g9, 0, none⟩ = some (.int .i64 d0) ∧ W.cell? ⟨g9, 1, none⟩ = some (.int .i64 d1) ∧ W.cell? ⟨g9, 2, none⟩ = some (.string sd) ∧ W.cell? ⟨g9, 3, none⟩ = some (.slice X3 p3 q3) ∧ W.cell? ⟨g9, 4, none⟩ = some (.slice X4 p4 q4) ∧ W.cell? ⟨g9, 5, none⟩ = some (.slice X5 p5 q5) ∧ W.cell? ⟨g9, 6, none⟩ = some (.int .i64 0))
              (first | with_reducible exact HK3.out _ hbc | exact HK3.out _ (by repeat (first | with_reducible exact Below.refl _ _ | with_reducible apply Below.drew | (with_reducible refine Below.alloc ?_ (Nat.le_refl _) _))) | go_keep)
              ((first | (go_at_call 28; refine (HLEN.out _ ?hbw).mono ?_; (case hbw => repeat (first | with_reducible exact Below.refl _ _ | with_reducible apply Below.drew)); rintro e' w' h'; obtain ⟨v7, e0, e1, se, Z3, Z4, Z5, h3, k3, h4, k4, h5, k5, cc, rfl, hv7, ⟨rfl, rfl⟩, hb'⟩ := resPost_shape h'; rw [HCL.out] at hv7; have hbc : Below wc.heap.size wc w' := below_trans (by repeat (first | with_reducible exact Below.refl _ _ | with_reducible apply Below.drew | (with_reducible refine Below.alloc ?_ (Nat.le_refl _) _))) hb'; have HVL := Lib.hid (Vr.mono (ok' := fun _ => True) (fun _ _ => trivial) hv7); clear hv7) | (go_at_call 26; refine (lawNumber_any (k : Int) HKR.out _).mono ?_; rintro e' w' ⟨rfl, hb'⟩; have HVL := Lib.hid (HVL.out.keep hb'); have hbc : Below wc.heap.size wc w' := below_trans hbc hb') | (go_at_call 26; refine (lawNumber_any (xn : Int) HXR.out _).mono ?_; rintro e' w' ⟨rfl, hb'⟩; have hbc : Below wc.heap.size wc w' := below_trans hbc hb') | (go_at_call 27; refine (given_any (V.mk 3 (2 * k) ⟨#[]⟩ [] [] []) (V.mk 3 (2 * k) ⟨#[]⟩ [] [] []) (fun _ => True) _ _ _ _ _ _ _ _ _ _ _ _ [.int .i64 3, .int .i64 (2 * k), .string ⟨#[]⟩, .slice none 0 0, .slice none 0 0, .slice none 0 0] _ HVL.out (vr_plain' 3 (2 * k) (by decide) (by omega)) HJK.out.1 HJK.out.1 (cmpV_self _)).mono ?_; rintro e' w' ⟨rfl, hb'⟩; have hbc : Below wc.heap.size wc w' := below_trans hbc hb') | (go_at_call 23; refine (HIX3.out _ hbc).mono ?_; rintro e' w' h'; obtain ⟨v8, f0, f1, sf, G3, G4, G5, h6, k6, h7, k7, h8, k8, cd, rfl, hv8, ⟨rfl, rfl⟩, hb'⟩ := resPost_shape h'; rw [HEQ.out] at hv8; have hbc : Below wc.heap.size wc w' := below_trans hbc hb'; have HVI := Lib.hid (Vr.mono (ok' := fun _ => True) (fun _ _ => trivial) hv8); clear hv8) | (go_at_call 27; refine (given_any (idxJ (V.js rx) yn).v (idxJ (V.js rx) yn).v (fun _ => True) _ _ _ _ _ _ _ _ _ _ _ _ [.int .i64 d0, .int .i64 d1, .string sd, .slice X3 p3 q3, .slice X4 p4 q4, .slice X5 p5 q5] _ HVI.out (HVW.out _ hbc) HJE.out.1 HJE.out.1 (cmpV_self _)).mono ?_; rintro e' w' ⟨rfl, hb'⟩; have hbc : Below wc.heap.size wc w' := below_trans hbc hb')))
            have HBD := Lib.hid hbc
            clear hbc x0 x1 x2 x3 x4 x5 x6 y0 y1 y2 y3 y4' y5' y6
            go_wp2_with fail
            go_ret
            exact ⟨rfl, below_trans HB1.out (below_trans HB9.out HBD.out)⟩
end Go.Proofs.YtpamlgdcnmcedaaGreatDoor
