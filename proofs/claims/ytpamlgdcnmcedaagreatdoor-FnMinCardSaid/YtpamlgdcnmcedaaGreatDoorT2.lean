/- gojq.funcTranspose of rows: the walk. -/
import Derived.Test.YtpamlgdcnmcedaaGreatDoorT1
set_option linter.unusedVariables false
set_option linter.unusedSimpArgs false
set_option maxRecDepth 100000
namespace Go.Proofs.YtpamlgdcnmcedaaGreatDoor
open Go Go.RowKit
def TransPost (rows : List (List J)) (w : World) (e : Ending) (w' : World) : Prop := ∃ y, e = .returned y ∧ Below w.heap.size w w' ∧ Jr w' (fun _ => True) (.arr (transJ rows (wideL rows))) y
set_option maxHeartbeats 2000000 in
theorem funcTranspose_any (rows : List (List J)) (hm1 : rows.length ≤ 1000000) (hr1 : ∀ r, r ∈ rows → r.length ≤ 1000000) (x : Value) (ok : Nat → Prop) (w : World) (h : Jr w ok (.arr (rows.map .arr)) x) :
    Calls Tryz.prog 115 #[x] w (TransPost rows w) := by
  obtain _ | _ | _ | _ | _ | ⟨_, A, c, f, hc, r, e⟩ := h
  obtain ⟨m, hm⟩ : ∃ m, m = (rows.map J.arr).length := ⟨_, rfl⟩
  have hm' : rows.length = m := by rw [hm, List.length_map]
  rw [← hm] at r hc ⊢
  clear hm
  by_cases hm0 : m = 0
  · subst hm0
    have hnil : rows = [] := List.eq_nil_of_length_eq_zero hm'
    have HN := Lib.hid hnil
    clear hm' hnil r e hc hm1 hr1
    go_enter Tryz.func115, Tryz.ntmps115
    go_wp2_with fail
    go_ret
    refine ⟨_, rfl, by first | exact Below.refl _ _ | exact (Below.refl _ _).alloc (Nat.le_refl _) _, ?_⟩
    rw [HN.out]
    exact Jr.arr (w := _) (ok := fun _ => True) [] _ _ (fun _ => .nilIface) (Nat.le_refl _) (fun h => absurd h (by simp)) (fun i j h => by simp at h)
  obtain ⟨P, hP⟩ := Classical.axiomOfChoice (show ∀ i, ∃ p : Option Addr × Nat × (Nat → Value), ∀ ri, rows[i]? = some ri → f i = .iface 62 (.slice p.1 ri.length p.2.1) ∧ RowAt w ok 1 p.1 ri.length (fun j => [p.2.2 j]) ∧ ∀ (j : Nat) (y : J), ri[j]? = some y → Jr w ok y (p.2.2 j) from fun i => by
    by_cases hi : i < rows.length
    · have hri : rows[i]? = some rows[i] := List.getElem?_eq_getElem hi
      have hJ := e i (.arr rows[i]) (by rw [List.getElem?_map, hri]; rfl)
      generalize rows[i] = ri at hri hJ
      generalize f i = fi at hJ
      obtain _ | _ | _ | _ | _ | ⟨_, A', c', g, hc', r', e'⟩ := hJ
      refine ⟨(A', c', g), fun rj hj => ?_⟩
      rw [hri] at hj
      cases hj
      exact ⟨rfl, r', e'⟩
    · refine ⟨(none, 0, fun _ => .nilIface), fun rj hj => ?_⟩
      exact absurd (List.getElem?_eq_some_iff.1 hj).1 hi)
  obtain ⟨L, hL⟩ : ∃ L, L = wideL rows := ⟨_, rfl⟩
  have hL1 : L ≤ 1000000 := by rw [hL]; exact wideL_of _ _ hr1
  have hm2 : m ≤ 1000000 := by omega
  obtain ⟨val, hval⟩ : ∃ val : Nat → Nat → Value, val = fun i j => if j < (rows.getD i []).length then (P i).2.2 j else .nilIface := ⟨_, rfl⟩
  have hval1 : ∀ (i j : Nat) (ri : List J), rows[i]? = some ri → j < ri.length → val i j = (P i).2.2 j := fun i j ri hi hj => by
    rw [hval]
    simp only [List.getD_eq_getElem?_getD, hi, Option.getD_some, hj, if_true]
  have hval0 : ∀ (i j : Nat) (ri : List J), rows[i]? = some ri → ¬ j < ri.length → val i j = .nilIface := fun i j ri hi hj => by
    rw [hval]
    simp only [List.getD_eq_getElem?_getD, hi, Option.getD_some, hj, if_false]
  have hvJ : ∀ (i j : Nat) (ri : List J), rows[i]? = some ri → Jr w ok (ri.getD j .null) (val i j) := fun i j ri hi => by
    by_cases hj : j < ri.length
    · rw [hval1 i j ri hi hj]
      have := (hP i ri hi).2.2 j ri[j] (List.getElem?_eq_getElem hj)
      rw [List.getD_eq_getElem?_getD, List.getElem?_eq_getElem hj]
      exact this
    · rw [hval0 i j ri hi hj, List.getD_eq_getElem?_getD, List.getElem?_eq_none (by omega)]
      exact .null
  have hmk1 := run_make_row' (P := Tryz.prog) 187 62 (.slice none 0 0) 24 Tryz.underlying187 info62 rfl .i64 .i64 L (by omega) (by omega)
  have hmk2 := run_make_row' (P := Tryz.prog) 62 20 .nilIface 16 Tryz.underlying62 info20 rfl .i64 .i64 L (by omega) (by omega)
  have hmk3 := run_make_row' (P := Tryz.prog) 62 20 .nilIface 16 Tryz.underlying62 info20 rfl .i64 .i64 m (by omega) (by omega)
  have hlt0 : ∀ k, k < m → ∃ ri, rows[k]? = some ri := fun k hk => at_lt (l := rows) (p := k) (by omega)
  obtain ⟨ad, hA, hokA, hcell⟩ := r (by omega)
  subst hA
  have hfc : ∀ k, k < m → w.cell? (ad.add k) = some (f k) := fun k hk => by
    have := hcell k 0 (f k) hk rfl
    simpa using this
  have HP := Lib.hid hP
  have HL := Lib.hid hL
  have HV1 := Lib.hid hval1
  have HV0 := Lib.hid hval0
  have HVJ := Lib.hid hvJ
  have HM := Lib.hid hm'
  have HR1 := Lib.hid hr1
  have HLT := Lib.hid hlt0
  have HFC := Lib.hid hfc
  have HME := Lib.hid (show ∀ (k : Nat) (ri : List J), rows[k]? = some ri → ri.length ≤ L from fun k ri h => by rw [hL]; exact wideL_le rows ri (List.mem_of_getElem? h))
  have HST := Lib.hid (TGrid.start (w := w) L m val)
  have hmI : ¬ (m : Int) = 0 := by omega
  clear hP hL hval hval1 hval0 hvJ hm' hr1 hlt0 r e hc hm1 hcell hfc
  go_enter Tryz.func115, Tryz.ntmps115
  go_wp2_with fail
  go_loopw [5, 38] (fun l i wr => ∃ k : Nat, k ≤ m ∧ i = .int .i64 k ∧ l = .int .i64 (wideL (rows.take k) : Nat) ∧ w = wr) (fun _ i _ => m - (intOf i).toNat)
  case atStart => exact ⟨0, Nat.zero_le _, rfl, by rw [List.take_zero]; rfl, rfl⟩
  case round =>
    obtain ⟨k, hk, rfl, rfl, rfl⟩ := hrel
    by_cases hlt : k < m
    · obtain ⟨ri, hri⟩ := HLT.out k hlt
      have hx := HFC.out k hlt
      have hlen := HR1.out ri (List.mem_of_getElem? hri)
      rw [(HP.out k ri hri).1] at hx
      have hnext := wideL_take hri
      obtain ⟨q, hq⟩ : ∃ q, q = ri.length := ⟨_, rfl⟩
      obtain ⟨l, hl⟩ : ∃ l, l = wideL (rows.take k) := ⟨_, rfl⟩
      rw [← hq] at hx hlen hnext
      rw [← hl] at hnext ⊢
      have HQ := Lib.hid hq
      have HLL := Lib.hid hl
      have HNX := Lib.hid hnext
      generalize (P k).1 = pa at hx
      generalize (P k).2.1 = pc at hx
      clear hri hq hl hnext
      have i0 : (0 : Int) ≤ (k : Int) := Int.natCast_nonneg _
      by_cases hle : l < q
      · have hleI : (l : Int) < (q : Int) := by omega
        have HMX := Lib.hid (show wideL (rows.take (k + 1)) = q by rw [HNX.out]; omega)
        go_wp2_with fail
        go_roundw
        case rel => exact ⟨k + 1, by omega, by go_num, by rw [HMX.out], by first | rfl | trivial⟩
        case measure => simp [intOf]; omega
      · have hleI : ¬ (l : Int) < (q : Int) := by omega
        have HMX := Lib.hid (show wideL (rows.take (k + 1)) = l by rw [HNX.out]; omega)
        go_wp2_with fail
        go_roundw
        case rel => exact ⟨k + 1, by omega, by go_num, by rw [HMX.out], by first | rfl | trivial⟩
        case measure => simp [intOf]; omega
    · have hkm : k = m := by omega
      subst hkm
      have hfin : wideL (rows.take k) = L := by rw [List.take_of_length_le (by rw [HM.out]; exact Nat.le_refl _), HL.out]
      rw [hfin]
      clear hfin hlt hk
      go_wp2_with fail
      go_loopw [13] (fun i wr => ∃ q : Nat, q ≤ L ∧ i = .int .i64 q ∧ TGrid w w.heap.size L k q (fun _ _ => False) val wr) (fun i _ => L - (intOf i).toNat)
      case atStart => exact ⟨0, Nat.zero_le _, rfl, HST.out⟩
      case round =>
        obtain ⟨q, hq, rfl, hg⟩ := hrel
        by_cases hlt : q < L
        · obtain ⟨⟨u1, s1⟩, s2, s3, s4⟩ := hg.stores hlt (.cells (madeCells #[.nilIface] k) 20)
          obtain ⟨u2, s5⟩ := s3 (.slice (some ⟨wr.heap.size, 0, none⟩) k k)
          have s6 := s4 (.slice (some ⟨wr.heap.size, 0, none⟩) k k)
          have HG := Lib.hid (hg.lay' hlt)
          clear s3 s4 hg
          go_wp2_with fail
          go_roundw
          case rel => exact ⟨q + 1, by omega, by go_num, HG.out⟩
          case measure => simp [intOf]; omega
        · have hqL : q = L := by omega
          subst hqL
          clear hlt hq
          have HG0 := Lib.hid hg
          clear hg
          go_wp2_with fail
          go_loopw [84] (fun i wx => ∃ p : Nat, p ≤ k ∧ i = .int .i64 p ∧ TGrid w w.heap.size q k q (fun i _ => i < p) val wx) (fun i _ => k - (intOf i).toNat)
          case atStart => exact ⟨0, Nat.zero_le _, rfl, HG0.out.turn (fun i j h => h.elim) (fun i j h => absurd h (Nat.not_lt_zero _))⟩
          case round =>
            obtain ⟨p, hp, rfl, hg⟩ := hrel
            by_cases hlt : p < k
            · obtain ⟨ri, hri⟩ := HLT.out p hlt
              obtain ⟨hfe, hrow, hel⟩ := HP.out p ri hri
              have hx := cell_kept hg.below (HFC.out p hlt)
              rw [hfe] at hx
              have hlen := HR1.out ri (List.mem_of_getElem? hri)
              have hleL := HME.out p ri hri
              have HVP := Lib.hid (fun j hj => HV1.out p j ri hri hj)
              have HVN := Lib.hid (fun j hj => HV0.out p j ri hri hj)
              have HVE := Lib.hid (fun j => HVJ.out p j ri hri)
              obtain ⟨t, ht⟩ : ∃ t, t = ri.length := ⟨_, rfl⟩
              rw [← ht] at hx hlen hleL hrow HVP HVN
              have HT := Lib.hid ht
              generalize (P p).1 = pa at hx hrow
              generalize (P p).2.1 = pc at hx
              generalize (P p).2.2 = g at hrow HVP
              have HG1 := Lib.hid (hg.turn (done' := fun i j => i < p ∨ (i = p ∧ j < 0)) (fun i j h => .inl h) (fun i j h hn => (h.elim hn fun h => absurd h.2 (Nat.not_lt_zero _)).elim))
              have i0 : (0 : Int) ≤ (p : Int) := Int.natCast_nonneg _
              clear hri hfe hel ht hg
              go_wp2_with fail
              go_loopw [92] (fun j wy => ∃ s : Nat, s ≤ t ∧ j = .int .i64 s ∧ TGrid w w.heap.size q k q (fun i j => i < p ∨ (i = p ∧ j < s)) val wy) (fun j _ => t - (intOf j).toNat)
              case atStart => exact ⟨0, Nat.zero_le _, rfl, HG1.out⟩
              case round =>
                obtain ⟨s, hs, rfl, hg⟩ := hrel
                by_cases hlt2 : s < t
                · obtain ⟨ad2, hA2, _, hcell2⟩ := hrow (by omega)
                  subst hA2
                  have hx2 : wr.cell? (ad2.add s) = some (g s) := by
                    have := cell_kept hg.below (hcell2 s 0 (g s) hlt2 rfl)
                    simpa using this
                  have hvs := HVP.out s hlt2
                  have hJv := HVE.out s
                  rw [hvs] at hJv
                  have hx3 := hg.at1 (q := s) (by omega)
                  obtain ⟨⟨u, hx4⟩, hx5⟩ := hg.atCol (q := s) (i := p) (by omega) hlt
                  have hfill := hg.fill (i0 := p) (j0 := s) (done' := fun i j => i < p ∨ (i = p ∧ j < s + 1)) hlt (by omega) (fun i j h => by omega) (fun i j h => by omega) (.inr ⟨rfl, Nat.lt_succ_self _⟩)
                  rw [hvs] at hfill
                  generalize g s = y at hx2 hJv hfill
                  have HFILL := Lib.hid hfill
                  have hform := hJv.form
                  have s0 : (0 : Int) ≤ (s : Int) := Int.natCast_nonneg _
                  have s1 : (s : Int) < (q : Int) := by omega
                  have s2 : (p : Int) < (k : Int) := by omega
                  clear hcell2 hvs hJv hfill hg hrow
                  rcases hform with rfl | ⟨t', y', rfl⟩
                  all_goals
                    go_wp2_with fail
                    go_roundw
                    case rel => exact ⟨s + 1, by omega, by go_num, HFILL.out⟩
                    case measure => simp [intOf]; omega
                · have hst : s = t := by omega
                  subst hst
                  have HG2 := Lib.hid (hg.turn (done' := fun i _ => i < p + 1) (fun i j h => by omega) (fun i j h hn => by
                    have e1 : i = p := by omega
                    rw [e1]
                    exact HVN.out j fun hj => hn (.inr ⟨e1, hj⟩)))
                  clear hg hrow hx
                  go_wp2_with fail
                  go_roundw
                  case rel => exact ⟨p + 1, by omega, by go_num, HG2.out⟩
                  case measure => simp [intOf]; omega
            · have hpk : p = k := by omega
              subst hpk
              have HFIN := Lib.hid (And.intro hg.below (hg.done_all HM.out rfl ok HVJ.out))
              clear hg
              go_wp2_with fail
              go_ret
              refine ⟨_, rfl, HFIN.out.1, ?_⟩
              rw [← HL.out]
              exact HFIN.out.2
theorem zzTranspose_any (rows : List (List J)) (hm1 : rows.length ≤ 1000000) (hr1 : ∀ r, r ∈ rows → r.length ≤ 1000000) (x : Value) (ok : Nat → Prop) (w : World) (h : Jr w ok (.arr (rows.map .arr)) x) :
    Calls Tryz.prog 64 #[x] w (TransPost rows w) := by
  have H := Lib.hid (funcTranspose_any rows hm1 hr1 x ok w h)
  clear h hm1 hr1
  go_enter Tryz.func64, Tryz.ntmps64
  go_wp2_with fail
  refine H.out.mono ?_
  rintro e' w' ⟨u, rfl, hb, hr⟩
  have HR := Lib.hid hr
  clear hr
  go_wp2_with fail
  go_ret
  exact ⟨_, rfl, hb, HR.out⟩
end Go.Proofs.YtpamlgdcnmcedaaGreatDoor
