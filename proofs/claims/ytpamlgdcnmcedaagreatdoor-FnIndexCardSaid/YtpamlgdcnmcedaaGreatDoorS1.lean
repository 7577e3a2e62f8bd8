/- laws.zzFits1, zzFits2; spec.Whole, Array, Vague. -/
import Derived.Test.YtpamlgdcnmcedaaGreatDoorG3
import Derived.Test.YtpamlgdcnmcedaaGreatDoorH1
set_option linter.unusedVariables false
set_option linter.unusedSimpArgs false
set_option maxRecDepth 100000
namespace Go.Proofs.YtpamlgdcnmcedaaGreatDoor
open Go Go.RowKit
def SomeBool (w : World) (e : Ending) (w' : World) : Prop := (∃ r, e = .returned (.bool r)) ∧ Below w.heap.size w w'
theorem zzFits2_any (ks : List ByteArray) (m : Nat) (hm : ks.length = m) (ok : Nat → Prop) (A : Option Addr) (c : Nat) (w : World) (h : RowAt w ok 1 A m (strCell ks)) (bm : m ≤ 140737488351232) :
    Calls Tryz.prog 36 #[.slice A m c] w (SomeBool w) := by
  have HM := Lib.hid hm
  clear hm
  by_cases hbig : (m : Int) > 2147483647
  · go_enter Tryz.func36, Tryz.ntmps36
    go_wp2_with fail
    go_ret
    exact ⟨⟨_, rfl⟩, Below.refl _ _⟩
  · go_enter Tryz.func36, Tryz.ntmps36
    go_wp2_with fail
    go_loopw [10] (fun i wr => ∃ k : Nat, k ≤ m ∧ i = .int .i64 k ∧ Below w.heap.size w wr) (fun i _ => m - (intOf i).toNat)
    case atStart => exact ⟨0, Nat.zero_le _, rfl, Below.refl _ _⟩
    case round =>
      obtain ⟨k, hk, rfl, hb⟩ := hrel
      by_cases hlt : k < m
      · obtain ⟨s, hs⟩ := at_lt (l := ks) (p := k) (by rw [HM.out]; exact hlt)
        obtain ⟨ad, hA, hca⟩ := strs_at h (by omega)
        subst hA
        have q0 := cell_kept hb (hca k s hlt hs)
        have i0 : (0 : Int) ≤ (k : Int) := Int.natCast_nonneg _
        have i1 : (k : Int) < (m : Int) := by omega
        clear hca hs
        by_cases hsz : (s.size : Int) > 2147483647
        · go_wp2_with fail
          go_ret
          exact ⟨⟨_, rfl⟩, hb⟩
        · go_wp2_with fail
          go_roundw
          case rel => exact ⟨k + 1, by omega, by go_num, hb⟩
          case measure => simp [intOf]; omega
      · go_wp2_with fail
        go_ret
        exact ⟨⟨_, rfl⟩, hb⟩
theorem zzFits1_any (v : V) (ok : Nat → Prop) (cs : List Value) (w : World) (hv : Vr w ok v cs) : Calls Tryz.prog 10 #[.agg cs.toArray] w (SomeBool w) := by
  obtain ⟨k, h, t, l, ks, vs, A1, c1, A2, c2, A3, c3, f, g, ht, h1, h2, h3, b1, b2, b3, hk', hh', hs', r1, e1, r2, r3, e3⟩ := hv
  obtain ⟨W1, hW1⟩ : ∃ W1, W1 = w.alloc (.cells #[.int .i64 k, .int .i64 h, .string t, .slice A1 l.length c1, .slice A2 ks.length c2, .slice A3 vs.length c3] 26) := ⟨_, rfl⟩
  have hb1 : Below w.heap.size w W1 := by rw [hW1]; exact (Below.refl _ _).alloc (Nat.le_refl _) _
  have hc1 : W1.heap[w.heap.size]? = some (.cells #[.int .i64 k, .int .i64 h, .string t, .slice A1 l.length c1, .slice A2 ks.length c2, .slice A3 vs.length c3] 26) := by rw [hW1]; exact heap_alloc_new w _
  have r2' : RowAt W1 ok 1 A2 ks.length (strCell ks) := ((r2.bound fun i hi => by simp [strCell]).move fun b hb => hb1.block b hb.2).mono fun _ h => h.1
  have HZ := Lib.hid (zzFits2_any ks ks.length rfl ok A2 c2 W1 r2' b2)
  have HW1 := Lib.hid hW1
  have HB1 := Lib.hid hb1
  have HC1 := Lib.hid hc1
  clear hW1 hb1 hc1 r2' r1 e1 r2 r3 e3 hs'
  generalize l.length = nl at *
  generalize ks.length = nk at *
  generalize vs.length = nv at *
  by_cases q1 : (t.size : Int) > 2147483647
  · go_enter Tryz.func10, Tryz.ntmps10
    go_wp2_with fail
    go_ret
    exact ⟨⟨_, rfl⟩, by rw [← HW1.out]; exact HB1.out⟩
  by_cases q2 : (nl : Int) > 2147483647
  · go_enter Tryz.func10, Tryz.ntmps10
    go_wp2_with fail
    go_ret
    exact ⟨⟨_, rfl⟩, by rw [← HW1.out]; exact HB1.out⟩
  go_enter Tryz.func10, Tryz.ntmps10
  go_wp2_with fail
  rw [← HW1.out]
  refine HZ.out.mono ?_
  rintro e' w2 ⟨⟨r, rfl⟩, hb2⟩
  have hc2 := (hb2.block _ (heap_lt HC1.out)).trans HC1.out
  have z5 : w2.cell? ⟨w.heap.size, 5, none⟩ = some (.slice A3 nv c3) := by simp [World.cell?, hc2]
  have HB2 := Lib.hid (below_trans HB1.out hb2)
  clear hc2 hb2
  cases r
  · go_wp2_with fail
    go_ret
    exact ⟨⟨_, rfl⟩, HB2.out⟩
  · by_cases q3 : (nv : Int) > 2147483647
    · go_wp2_with fail
      go_ret
      exact ⟨⟨_, rfl⟩, HB2.out⟩
    · go_wp2_with fail
      go_ret
      exact ⟨⟨_, rfl⟩, HB2.out⟩
/-- spec.Whole: the integer that a number is. -/
theorem whole_yes (v : V) (ok : Nat → Prop) (cs : List Value) (w : World) (hv : Vr w ok v cs) (h3 : v.kind = 3) (he : v.half.tmod 2 = 0) :
    Calls Tryz.prog 62 #[.agg cs.toArray] w fun e w' => e = .returned (.tuple #[.int .i64 (v.half.tdiv 2), .bool true]) ∧ Below w.heap.size w w' := by
  obtain ⟨k, h, t, l, ks, vs, A1, c1, A2, c2, A3, c3, f, g, ht, h1, h2, hh3, b1, b2, b3, hk', hh', hs', r1, e1, r2, r3, e3⟩ := hv
  have hk : k = 3 := h3
  have he' : h.tmod 2 = 0 := he
  subst hk
  clear h3 he r1 e1 r2 r3 e3 hs'
  go_enter Tryz.func62, Tryz.ntmps62
  go_wp2_with fail
  go_ret2
  exact ⟨rfl, (Below.refl _ _).alloc (Nat.le_refl _) _⟩
theorem whole_no (v : V) (ok : Nat → Prop) (cs : List Value) (w : World) (hv : Vr w ok v cs) (hno : ¬ (v.kind = 3 ∧ v.half.tmod 2 = 0)) :
    Calls Tryz.prog 62 #[.agg cs.toArray] w fun e w' => e = .returned (.tuple #[.int .i64 0, .bool false]) ∧ Below w.heap.size w w' := by
  obtain ⟨k, h, t, l, ks, vs, A1, c1, A2, c2, A3, c3, f, g, ht, h1, h2, hh3, b1, b2, b3, hk', hh', hs', r1, e1, r2, r3, e3⟩ := hv
  have hno' : ¬ (k = 3 ∧ h.tmod 2 = 0) := hno
  clear hno r1 e1 r2 r3 e3 hs'
  by_cases h3 : k = 3
  · subst h3
    have he : ¬ h.tmod 2 = 0 := fun h => hno' ⟨rfl, h⟩
    clear hno'
    go_enter Tryz.func62, Tryz.ntmps62
    go_wp2_with fail
    go_ret2
    exact ⟨rfl, (Below.refl _ _).alloc (Nat.le_refl _) _⟩
  · clear hno'
    go_enter Tryz.func62, Tryz.ntmps62
    go_wp2_with fail
    go_ret2
    exact ⟨rfl, (Below.refl _ _).alloc (Nat.le_refl _) _⟩
theorem array_any (A : Option Addr) (m c : Nat) (w : World) : Calls Tryz.prog 42 #[.slice A m c] w fun e w' =>
    e = .returned (.agg #[.int .i64 5, .int .i64 0, .string ⟨#[]⟩, .slice A m c, .slice none 0 0, .slice none 0 0]) ∧ Below w.heap.size w w' := by
  go_enter Tryz.func42, Tryz.ntmps42
  go_wp2_with fail
  refine bodyPost_ret (v := .agg #[.int .i64 5, .int .i64 0, .string ⟨#[]⟩, .slice A m c, .slice none 0 0, .slice none 0 0]) (by simp [results, Tryz.results42, go_sem]) rfl ?_
  exact ⟨rfl, (Below.refl _ _).alloc (Nat.le_refl _) _⟩
/-- spec.Vague: nothing of a value that spec.Fit lets in is vague. -/
def VagueIH (n : Nat) : Prop := ∀ v ok cs w, SizeOf.sizeOf v < n → WF v → Vr w ok v cs → Calls Tryz.prog 41 #[.agg cs.toArray] w fun e w' => e = .returned (.bool false) ∧ Below w.heap.size w w'
theorem vague_step (n : Nat) (ih : VagueIH n) : VagueIH (n + 1) := by
  intro v ok cs w hn wv hv
  obtain ⟨k, h, t, l, ks, vs, A1, c1, A2, c2, A3, c3, f, g, ht, h1, h2, h3, b1, b2, b3, hk', hh', hs', r1, e1, r2, r3, e3⟩ := hv
  obtain ⟨_, _, _, _, _, _, wk, wh, wt, wl0, wk0, wlen, whb, who, wss, wl, wv⟩ := wv
  have hnl : ∀ v, v ∈ l → SizeOf.sizeOf v < n := fun v hv => by have := sizeOf_lt_list (k := k) (h := h) (t := t) (ks := ks) (vs := vs) hv; omega
  have hnv : ∀ v, v ∈ vs → SizeOf.sizeOf v < n := fun v hv => by have := sizeOf_lt_vals (k := k) (h := h) (t := t) (l := l) (ks := ks) hv; omega
  have k7 : ¬ k = 7 := by omega
  obtain ⟨W1, hW1⟩ : ∃ W1, W1 = w.alloc (.cells #[.int .i64 k, .int .i64 h, .string t, .slice A1 l.length c1, .slice A2 ks.length c2, .slice A3 vs.length c3] 26) := ⟨_, rfl⟩
  have hb1 : Below w.heap.size w W1 := by rw [hW1]; exact (Below.refl _ _).alloc (Nat.le_refl _) _
  have hc1 : W1.heap[w.heap.size]? = some (.cells #[.int .i64 k, .int .i64 h, .string t, .slice A1 l.length c1, .slice A2 ks.length c2, .slice A3 vs.length c3] 26) := by rw [hW1]; exact heap_alloc_new w _
  obtain ⟨m, hm⟩ : ∃ m, m = l.length := ⟨_, rfl⟩
  obtain ⟨p, hp⟩ : ∃ p, p = vs.length := ⟨_, rfl⟩
  rw [← hm] at hW1 hc1 r1 h1 b1
  rw [← hp] at hW1 hc1 r3 h3 b3
  rw [← hm, ← hp]
  have HN := Lib.hid hn
  have HM := Lib.hid hm
  have HP := Lib.hid hp
  have HW1 := Lib.hid hW1
  have HB1 := Lib.hid hb1
  have HC1 := Lib.hid hc1
  have R1 := Lib.hid r1
  have R3 := Lib.hid r3
  clear hn wk wh wt wl0 wk0 wlen whb who wss hW1 hb1 hc1 r2 hs' hm hp r1 r3
  go_enter Tryz.func41, Tryz.ntmps41
  go_wp2_with fail
  rw [← HW1.out]
  go_loopw [10] (fun i wr => ∃ q : Nat, q ≤ m ∧ i = .int .i64 q ∧ Below W1.heap.size W1 wr) (fun i _ => m - (intOf i).toNat)
  case atStart => exact ⟨0, Nat.zero_le _, rfl, Below.refl _ _⟩
  case round =>
    obtain ⟨q, hq, rfl, hb⟩ := hrel
    by_cases hlt : q < m
    · obtain ⟨x, hx⟩ := at_lt (l := l) (p := q) (by rw [← HM.out]; exact hlt)
      have hV := e1 q x hx
      obtain ⟨ad, hA, _, hc0⟩ := R1.out (by omega)
      subst hA
      have hbw := below_trans HB1.out hb
      have hc := fun j u hu => cell_kept hbw (hc0 q j u hlt hu)
      have hV := Vr.keep hbw hV
      generalize f q = fc at hV hc
      have HV := Lib.hid hV
      have HX := Lib.hid hx
      clear hc0 hx hbw
      obtain ⟨k', h', t', l', ks', vs', B1, d1, B2, d2, B3, d3, f1, g1, ht', h1', h2', h3', b1', b2', b3', hk'', hh'', hs'', q1, e1', q2, q3, e3'⟩ := hV
      obtain ⟨z0, z1, z2, z3, z4, z5⟩ := cells6 hc
      clear hc
      go_wp2_with fail
      refine (ih _ _ _ _ (hnl _ (List.mem_of_getElem? HX.out)) (wl _ (List.mem_of_getElem? HX.out)) (Vr.keep ((Below.refl _ _).alloc (Nat.le_refl _) _) HV.out)).mono ?_
      rintro e' w' ⟨rfl, hb'⟩
      have HBN := Lib.hid (below_trans hb (below_trans ((Below.refl wr.heap.size wr).alloc (Nat.le_refl _) _) hb'))
      clear z0 z1 z2 z3 z4 z5 hb'
      go_wp2_with fail
      go_roundw
      case rel => exact ⟨q + 1, by omega, by go_num, HBN.out⟩
      case measure => simp [intOf]; omega
    · have hc2 := (hb.block _ (heap_lt HC1.out)).trans HC1.out
      have z0 : wr.cell? ⟨w.heap.size, 0, none⟩ = some (.int .i64 k) := by simp [World.cell?, hc2]
      have z5 : wr.cell? ⟨w.heap.size, 5, none⟩ = some (.slice A3 p c3) := by simp [World.cell?, hc2]
      have HB2 := Lib.hid hb
      clear hc2 hb
      go_wp2_with fail
      go_loopw [20] (fun i wx => ∃ q : Nat, q ≤ p ∧ i = .int .i64 q ∧ Below W1.heap.size W1 wx) (fun i _ => p - (intOf i).toNat)
      case atStart => exact ⟨0, Nat.zero_le _, rfl, HB2.out⟩
      case round =>
        obtain ⟨q, hq, rfl, hb⟩ := hrel
        clear z0 z5
        by_cases hlt : q < p
        · obtain ⟨x, hx⟩ := at_lt (l := vs) (p := q) (by rw [← HP.out]; exact hlt)
          have hV := e3 q x hx
          obtain ⟨ad, hA, _, hc0⟩ := R3.out (by omega)
          subst hA
          have hbw := below_trans HB1.out hb
          have hc := fun j u hu => cell_kept hbw (hc0 q j u hlt hu)
          have hV := Vr.keep hbw hV
          generalize g q = fc at hV hc
          have HV := Lib.hid hV
          have HX := Lib.hid hx
          clear hc0 hx hbw
          obtain ⟨k', h', t', l', ks', vs', B1, d1, B2, d2, B3, d3, f1, g1, ht', h1', h2', h3', b1', b2', b3', hk'', hh'', hs'', q1, e1', q2, q3, e3'⟩ := hV
          obtain ⟨z0, z1, z2, z3, z4, z5⟩ := cells6 hc
          clear hc
          go_wp2_with fail
          refine (ih _ _ _ _ (hnv _ (List.mem_of_getElem? HX.out)) (wv _ (List.mem_of_getElem? HX.out)) (Vr.keep ((Below.refl _ _).alloc (Nat.le_refl _) _) HV.out)).mono ?_
          rintro e' w' ⟨rfl, hb'⟩
          have HBN := Lib.hid (below_trans hb (below_trans ((Below.refl _ _).alloc (Nat.le_refl _) _) hb'))
          clear z0 z1 z2 z3 z4 z5 hb'
          go_wp2_with fail
          go_roundw
          case rel => exact ⟨q + 1, by omega, by go_num, HBN.out⟩
          case measure => simp [intOf]; omega
        · have hc2 := (hb.block _ (heap_lt HC1.out)).trans HC1.out
          have z0 : wr.cell? ⟨w.heap.size, 0, none⟩ = some (.int .i64 k) := by simp [World.cell?, hc2]
          have HB3 := Lib.hid (below_trans HB1.out hb)
          clear hc2 hb
          go_wp2_with fail
          go_ret
          exact ⟨congrArg (fun b => Ending.returned (.bool b)) (show (k == 7) = false by simpa using k7), HB3.out⟩
theorem vague_all : ∀ n, VagueIH n
  | 0 => fun v ok cs w hn => absurd hn (Nat.not_lt_zero _)
  | n + 1 => vague_step n (vague_all n)
theorem vague_any (v : V) (ok : Nat → Prop) (cs : List Value) (w : World) (wv : WF v) (hv : Vr w ok v cs) : Calls Tryz.prog 41 #[.agg cs.toArray] w fun e w' => e = .returned (.bool false) ∧ Below w.heap.size w w' :=
  vague_all (SizeOf.sizeOf v + 1) v ok cs w (Nat.lt_succ_self _) wv hv
end Go.Proofs.YtpamlgdcnmcedaaGreatDoor
