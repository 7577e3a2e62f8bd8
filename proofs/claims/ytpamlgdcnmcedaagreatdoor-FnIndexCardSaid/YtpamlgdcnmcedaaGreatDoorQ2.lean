/- spec.Cmp, spec.lists, spec.Same. -/
import Derived.Test.YtpamlgdcnmcedaaGreatDoorQ1
set_option linter.unusedVariables false
set_option linter.unusedSimpArgs false
set_option maxRecDepth 100000
namespace Go.Proofs.YtpamlgdcnmcedaaGreatDoor
open Go Go.RowKit
theorem cmpL_drop (k : Nat) (a b : List V) (x y : V) (hx : a[k]? = some x) (hy : b[k]? = some y) : cmpL (a.drop k) (b.drop k) = if cmpV x y ≠ 0 then cmpV x y else cmpL (a.drop (k + 1)) (b.drop (k + 1)) := by
  rw [List.drop_eq_getElem_cons (List.getElem?_eq_some_iff.1 hx).1, List.drop_eq_getElem_cons (List.getElem?_eq_some_iff.1 hy).1, (List.getElem?_eq_some_iff.1 hx).2, (List.getElem?_eq_some_iff.1 hy).2, cmpL]
theorem cmpL_end (a b : List V) (h : a = [] ∨ b = []) : cmpL a b = (a.length : Int) - b.length := by
  cases a with
  | nil => rw [cmpL]; simp
  | cons x a =>
    cases b with
    | nil => rw [cmpL]; simp
    | cons y b => simp at h
def CmpPost (a b : V) (w : World) (e : Ending) (w' : World) : Prop := e = .returned (.int .i64 (cmpV a b)) ∧ Below w.heap.size w w'
def CmpIH (n : Nat) : Prop := ∀ a b ok cs ds w, SizeOf.sizeOf a < n → WF a → WF b → Vr w ok a cs → Vr w ok b ds → Calls Tryz.prog 58 #[.agg cs.toArray, .agg ds.toArray] w (CmpPost a b w)
theorem lists_one (n : Nat) (ih : CmpIH n) (a b : List V) (m p : Nat) (hm : a.length = m) (hp : b.length = p) (ok : Nat → Prop) (A B : Option Addr) (c d : Nat) (f g : Nat → List Value) (w : World) (hn : ∀ v, v ∈ a → SizeOf.sizeOf v < n) (wa : ∀ v, v ∈ a → WF v) (wb : ∀ v, v ∈ b → WF v)
    (ha : RowAt w ok 6 A m f) (ea : ∀ (i : Nat) (v : V), a[i]? = some v → Vr w ok v (f i)) (hb : RowAt w ok 6 B p g) (eb : ∀ (i : Nat) (v : V), b[i]? = some v → Vr w ok v (g i)) (bm : m ≤ 140737488351232) (bp : p ≤ 140737488351232) :
    Calls Tryz.prog 108 #[.slice A m c, .slice B p d] w fun e w' => e = .returned (.int .i64 (cmpL a b)) ∧ Below w.heap.size w w' := by
  have HM := Lib.hid hm
  have HP := Lib.hid hp
  clear hm hp
  go_enter Tryz.func108, Tryz.ntmps108
  go_wp2_with fail
  go_loopw [5] (fun i wr => ∃ k : Nat, k ≤ m ∧ k ≤ p ∧ i = .int .i64 k ∧ cmpL a b = cmpL (a.drop k) (b.drop k) ∧ Below w.heap.size w wr) (fun i _ => m - (intOf i).toNat)
  case atStart => exact ⟨0, Nat.zero_le _, Nat.zero_le _, rfl, rfl, Below.refl _ _⟩
  case round =>
    obtain ⟨k, hk, hk2, rfl, heq, hbl⟩ := hrel
    have HEQ := Lib.hid heq
    clear heq
    by_cases h1 : k < m
    · by_cases h2 : k < p
      · obtain ⟨x, hx⟩ := at_lt (l := a) (p := k) (by rw [HM.out]; exact h1)
        obtain ⟨y, hy⟩ := at_lt (l := b) (p := k) (by rw [HP.out]; exact h2)
        obtain ⟨ad, hA, _, hca⟩ := ha (by omega)
        obtain ⟨bd, hB, _, hcb⟩ := hb (by omega)
        subst hA hB
        have hd := cmpL_drop k a b x y hx hy
        have hVx := (ea k x hx).keep hbl
        have hVy := (eb k y hy).keep hbl
        have qa := fun j u hu => cell_kept hbl (hca k j u h1 hu)
        have qb := fun j u hu => cell_kept hbl (hcb k j u h2 hu)
        have HC := Lib.hid (ih x y ok _ _ wr.drew (hn x (List.mem_of_getElem? hx)) (wa x (List.mem_of_getElem? hx)) (wb y (List.mem_of_getElem? hy)) (hVx.keep (Below.refl _ _).drew) (hVy.keep (Below.refl _ _).drew))
        have HDR := Lib.hid hd
        generalize f k = fc at hVx qa HC
        generalize g k = gc at hVy qb HC
        obtain ⟨k', h', t', l', ks', vs', B1, d1, B2, d2, B3, d3, f1, g1, ht, h1', h2', h3, b1, b2, b3, hk', hh', hs', q1, e1, q2, q3, e3'⟩ := hVx
        obtain ⟨z0, z1, z2, z3, z4, z5⟩ := cells6 qa
        obtain ⟨k'', h'', t'', l'', ks'', vs'', B1', d1', B2', d2', B3', d3', f1', g1', ht', h1'', h2'', h3', b1', b2', b3', hk'', hh'', hs'', q1', e1', q2', q3', e3''⟩ := hVy
        obtain ⟨y0, y1, y2, y3, y4, y5⟩ := cells6 qb
        have i0 : (0 : Int) ≤ (k : Int) := Int.natCast_nonneg _
        have i1 : (k : Int) < (m : Int) := by omega
        have i2 : (k : Int) < (p : Int) := by omega
        clear hca hcb hx hy hd qa qb
        go_wp2_with fail
        go_region_held3 (fun W => W.cell? (ad.add (k * 6)) = some (.int .i64 k') ∧ W.cell? ⟨(ad.add (k * 6)).block, (ad.add (k * 6)).off + 1, none⟩ = some (.int .i64 h') ∧ W.cell? ⟨(ad.add (k * 6)).block, (ad.add (k * 6)).off + 2, none⟩ = some (.string t') ∧ W.cell? ⟨(ad.add (k * 6)).block, (ad.add (k * 6)).off + 3, none⟩ = some (.slice B1 l'.length d1) ∧ W.cell? ⟨(ad.add (k * 6)).block, (ad.add (k * 6)).off + 4, none⟩ = some (.slice B2 ks'.length d2) ∧ W.cell? ⟨(ad.add (k * 6)).block, (ad.add (k * 6)).off + 5, none⟩ = some (.slice B3 vs'.length d3) ∧
            W.cell? (bd.add (k * 6)) = some (.int .i64 k'') ∧ W.cell? ⟨(bd.add (k * 6)).block, (bd.add (k * 6)).off + 1, none⟩ = some (.int .i64 h'') ∧ W.cell? ⟨(bd.add (k * 6)).block, (bd.add (k * 6)).off + 2, none⟩ = some (.string t'') ∧ W.cell? ⟨(bd.add (k * 6)).block, (bd.add (k * 6)).off + 3, none⟩ = some (.slice B1' l''.length d1') ∧ W.cell? ⟨(bd.add (k * 6)).block, (bd.add (k * 6)).off + 4, none⟩ = some (.slice B2' ks''.length d2') ∧ W.cell? ⟨(bd.add (k * 6)).block, (bd.add (k * 6)).off + 5, none⟩ = some (.slice B3' vs''.length d3'))
          (first | go_keep | exact ⟨cell_kept hbc z0, cell_kept hbc z1, cell_kept hbc z2, cell_kept hbc z3, cell_kept hbc z4, cell_kept hbc z5, cell_kept hbc y0, cell_kept hbc y1, cell_kept hbc y2, cell_kept hbc y3, cell_kept hbc y4, cell_kept hbc y5⟩)
          ((first | (go_at_call 58; refine HC.out.mono ?_; rintro e' w' ⟨rfl, hb'⟩; have hbc : Below wr.heap.size wr w' := Below.trans (Below.drew (Below.refl _ _)) hb')))
        have hbw := Below.trans hbl (hbc.mono hbl.size)
        have HBW := Lib.hid hbw
        obtain ⟨n0, hn0⟩ : ∃ n0, n0 = cmpV (V.mk k' h' t' l' ks' vs') (V.mk k'' h'' t'' l'' ks'' vs'') := ⟨_, rfl⟩
        rw [← hn0]
        have HN0 := Lib.hid hn0
        clear hn0 z0 z1 z2 z3 z4 z5 y0 y1 y2 y3 y4 y5 hbw hbc hb'
        by_cases hz : n0 = 0
        · have hnext : cmpL a b = cmpL (a.drop (k + 1)) (b.drop (k + 1)) := by rw [HEQ.out, HDR.out, ← HN0.out, if_neg (by omega)]
          have HNX := Lib.hid hnext
          clear hnext
          go_wp2_with fail
          go_roundw
          case rel => exact ⟨k + 1, by omega, by omega, by go_num, HNX.out, HBW.out⟩
          case measure => simp [intOf]; omega
        · have hres : cmpL a b = n0 := by rw [HEQ.out, HDR.out, ← HN0.out, if_pos hz]
          have HR := Lib.hid hres
          clear hres
          go_wp2_with fail
          go_ret
          exact ⟨by rw [HR.out]; rfl, HBW.out⟩
      · have hres : cmpL a b = (m : Int) - p := by
          rw [HEQ.out, cmpL_end _ _ (.inr (List.drop_of_length_le (by rw [HP.out]; omega))), List.length_drop, List.length_drop, HM.out, HP.out]
          omega
        have HR := Lib.hid hres
        clear hres
        go_wp2_with fail
        go_ret
        exact ⟨by rw [HR.out]; rfl, hbl⟩
    · have hres : cmpL a b = (m : Int) - p := by
        rw [HEQ.out, cmpL_end _ _ (.inl (List.drop_of_length_le (by rw [HM.out]; omega))), List.length_drop, List.length_drop, HM.out, HP.out]
        omega
      have HR := Lib.hid hres
      clear hres
      go_wp2_with fail
      go_ret
      exact ⟨by rw [HR.out]; rfl, hbl⟩
set_option maxHeartbeats 1000000 in
theorem cmp_step (n : Nat) (ih : CmpIH n) : CmpIH (n + 1) := by
  intro a b ok cs ds w hn wa wb hva hvb
  have hpa := hva
  have hpb := hvb
  obtain ⟨k, h, t, l, ks, vs, A1, c1, A2, c2, A3, c3, f, g, ht, h1, h2, h3, b1, b2, b3, hk', hh', hs', r1, e1, r2, r3, e3⟩ := hva
  obtain ⟨dk, dh, dt, dl, dks, dvs, D1, p1, D2, p2, D3, p3, df, dg, dht, dh1, dh2, dh3, db1, db2, db3, dhk, dhh, dhs, dr1, de1, dr2, dr3, de3⟩ := hvb
  obtain ⟨_, _, _, _, _, _, wk, wh, _, _, _, hlA, whb, _, _, wl, wv⟩ := wa
  obtain ⟨_, _, _, _, _, _, wk', wh', _, _, _, hlB, whb', _, _, wl', wv'⟩ := wb
  clear hpa hpb hlA hlB
  obtain ⟨W2, hW2⟩ : ∃ W2, W2 = (w.alloc (.cells #[.int .i64 k, .int .i64 h, .string t, .slice A1 l.length c1, .slice A2 ks.length c2, .slice A3 vs.length c3] 26)).alloc (.cells #[.int .i64 dk, .int .i64 dh, .string dt, .slice D1 dl.length p1, .slice D2 dks.length p2, .slice D3 dvs.length p3] 26) := ⟨_, rfl⟩
  have hB : Below w.heap.size w W2 := by rw [hW2]; exact ((Below.refl _ _).alloc (Nat.le_refl _) _).alloc (by simp) _
  have rk : ∀ {size n : Nat} {A : Option Addr} {f : Nat → List Value}, RowAt w ok size A n f → (∀ i, i < n → 0 < (f i).length) → RowAt W2 ok size A n f := fun h hf => ((h.bound hf).move fun b hb => hB.block b hb.2).mono fun _ h => h.1
  have HL := Lib.hid (lists_one n ih l dl l.length dl.length rfl rfl ok A1 D1 c1 p1 f df W2 (fun v hv => by have := sizeOf_lt_list (k := k) (h := h) (t := t) (ks := ks) (vs := vs) hv; omega) wl wl'
    (rk r1 fun i hi => by have := (e1 i _ (List.getElem?_eq_getElem hi)).len; omega) (fun i v hv => (e1 i v hv).keep hB) (rk dr1 fun i hi => by have := (de1 i _ (List.getElem?_eq_getElem hi)).len; omega) (fun i v hv => (de1 i v hv).keep hB) b1 db1)
  have HVS : ∀ W3, Below W2.heap.size W2 W3 → Calls Tryz.prog 108 #[.slice A3 vs.length c3, .slice D3 dvs.length p3] W3 fun e w' => e = .returned (.int .i64 (cmpL vs dvs)) ∧ Below W3.heap.size W3 w' := fun W3 hb3 => by
    have hB3 := below_trans hB hb3
    have rk3 : ∀ {size n : Nat} {A : Option Addr} {f : Nat → List Value}, RowAt w ok size A n f → (∀ i, i < n → 0 < (f i).length) → RowAt W3 ok size A n f := fun h hf => ((h.bound hf).move fun b hb => hB3.block b hb.2).mono fun _ h => h.1
    exact lists_one n ih vs dvs vs.length dvs.length rfl rfl ok A3 D3 c3 p3 g dg W3 (fun v hv => by have := sizeOf_lt_vals (k := k) (h := h) (t := t) (l := l) (ks := ks) hv; omega) wv wv'
      (rk3 r3 fun i hi => by have := (e3 i _ (List.getElem?_eq_getElem hi)).len; omega) (fun i v hv => (e3 i v hv).keep hB3) (rk3 dr3 fun i hi => by have := (de3 i _ (List.getElem?_eq_getElem hi)).len; omega) (fun i v hv => (de3 i v hv).keep hB3) b3 db3
  have HVS := Lib.hid HVS
  have HKS := Lib.hid (keys_any ks dks ks.length dks.length rfl rfl ok A2 D2 c2 p2 W2 (rk r2 fun i hi => by simp [strCell]) (rk dr2 fun i hi => by simp [strCell]) b2 db2)
  have HW2 := Lib.hid hW2
  have HB := Lib.hid hB
  have z5 : W2.cell? ⟨w.heap.size, 5, none⟩ = some (.slice A3 vs.length c3) := by rw [hW2]; simp
  have y5 : W2.cell? ⟨w.heap.size + 1, 5, none⟩ = some (.slice D3 dvs.length p3) := by
    rw [hW2]; simp
  have Z5 := Lib.hid z5
  have Y5 := Lib.hid y5
  clear hW2 hB z5 y5 rk
  by_cases hkk : k = dk
  · subst hkk
    have hcase : (k = 0 ∨ k = 1 ∨ k = 2) ∨ k = 3 ∨ k = 4 ∨ k = 5 ∨ k = 6 := by omega
    rcases hcase with hcase | rfl | rfl | rfl | rfl
    · have hc : cmpV (V.mk k h t l ks vs) (V.mk k dh dt dl dks dvs) = 0 := by rcases hcase with rfl | rfl | rfl <;> simp [cmpV, V.kind]
      have HC := Lib.hid hc
      clear hc
      rcases hcase with rfl | rfl | rfl
      all_goals
        go_enter Tryz.func58, Tryz.ntmps58
        go_wp2_with fail
        go_ret
        exact ⟨by rw [HC.out]; rfl, by rw [← HW2.out]; exact HB.out⟩
    · have hc : cmpV (V.mk 3 h t l ks vs) (V.mk 3 dh dt dl dks dvs) = sgn (h - dh) := by simp [cmpV, V.kind, V.half]
      have HC := Lib.hid hc
      clear hc
      go_enter Tryz.func58, Tryz.ntmps58
      go_wp2_with (go_at_call 106; refine (sign_any _ _).mono ?_; rintro e' w' ⟨rfl, rfl⟩)
      go_ret
      exact ⟨by rw [HC.out]; rfl, by rw [← HW2.out]; exact HB.out⟩
    · have hc : cmpV (V.mk 4 h t l ks vs) (V.mk 4 dh dt dl dks dvs) = textsC t dt := by simp [cmpV, V.kind, V.text]
      have HC := Lib.hid hc
      clear hc
      go_enter Tryz.func58, Tryz.ntmps58
      go_wp2_with (go_at_call 107; refine (texts_any _ _ _).mono ?_; rintro e' w' ⟨rfl, rfl⟩)
      go_ret
      exact ⟨by rw [HC.out]; rfl, by rw [← HW2.out]; exact HB.out⟩
    · have hc : cmpV (V.mk 5 h t l ks vs) (V.mk 5 dh dt dl dks dvs) = sgn (cmpL l dl) := by simp [cmpV, V.kind, V.list]
      have HC := Lib.hid hc
      clear hc
      go_enter Tryz.func58, Tryz.ntmps58
      go_wp2_with fail
      rw [← HW2.out]
      refine HL.out.mono ?_
      rintro e' w' ⟨rfl, hb'⟩
      go_wp2_with (go_at_call 106; refine (sign_any _ _).mono ?_; rintro e' w' ⟨rfl, rfl⟩)
      go_ret
      exact ⟨by rw [HC.out]; rfl, below_trans HB.out hb'⟩
    · obtain ⟨kc, hkc⟩ : ∃ kc, kc = keysC ks dks := ⟨_, rfl⟩
      have hc : cmpV (V.mk 6 h t l ks vs) (V.mk 6 dh dt dl dks dvs) = if kc ≠ 0 then sgn kc else sgn (cmpL vs dvs) := by
        rw [hkc, cmpV, if_neg (by simp [V.kind]), if_neg (by decide), if_neg (by decide), if_neg (by decide), if_pos rfl]; rfl
      have HC := Lib.hid hc
      have HKC := Lib.hid hkc
      clear hc hkc
      by_cases hz : kc = 0
      · go_enter Tryz.func58, Tryz.ntmps58
        go_wp2_with fail
        rw [← HW2.out]
        refine HKS.out.mono ?_
        rintro e' w' ⟨rfl, hb'⟩
        rw [← HKC.out]
        have z5 := cell_kept hb' Z5.out
        have y5 := cell_kept hb' Y5.out
        go_wp2_with fail
        refine (HVS.out w' hb').mono ?_
        rintro e' w'' ⟨rfl, hb''⟩
        go_wp2_with (go_at_call 106; refine (sign_any _ _).mono ?_; rintro e' w' ⟨rfl, rfl⟩)
        go_ret
        exact ⟨by rw [HC.out, if_neg (by omega)]; rfl, below_trans HB.out (below_trans hb' hb'')⟩
      · go_enter Tryz.func58, Tryz.ntmps58
        go_wp2_with fail
        rw [← HW2.out]
        refine HKS.out.mono ?_
        rintro e' w' ⟨rfl, hb'⟩
        rw [← HKC.out]
        go_wp2_with (go_at_call 106; refine (sign_any _ _).mono ?_; rintro e' w' ⟨rfl, rfl⟩)
        go_ret
        exact ⟨by rw [HC.out, if_pos hz]; rfl, below_trans HB.out hb'⟩
  · have hc : cmpV (V.mk k h t l ks vs) (V.mk dk dh dt dl dks dvs) = sgn (k - dk) := by rw [cmpV, if_pos (by simpa [V.kind] using hkk)]; rfl
    have HC := Lib.hid hc
    clear hc
    go_enter Tryz.func58, Tryz.ntmps58
    go_wp2_with (go_at_call 106; refine (sign_any _ _).mono ?_; rintro e' w' ⟨rfl, rfl⟩)
    go_ret
    exact ⟨by rw [HC.out]; rfl, by rw [← HW2.out]; exact HB.out⟩
theorem cmp_all : ∀ n, CmpIH n
  | 0 => fun a b ok cs ds w hn => absurd hn (Nat.not_lt_zero _)
  | n + 1 => cmp_step n (cmp_all n)
theorem cmp_any (a b : V) (ok : Nat → Prop) (cs ds : List Value) (w : World) (wa : WF a) (wb : WF b) (ha : Vr w ok a cs) (hb : Vr w ok b ds) : Calls Tryz.prog 58 #[.agg cs.toArray, .agg ds.toArray] w (CmpPost a b w) :=
  cmp_all (SizeOf.sizeOf a + 1) a b ok cs ds w (Nat.lt_succ_self _) wa wb ha hb
theorem keysC_self : ∀ l, keysC l l = 0
  | [] => by simp [keysC]
  | a :: l => by
    have : textsC a a = 0 := by unfold textsC; rw [if_neg (by rw [bl_irrefl]; decide), if_pos (by simp)]
    rw [keysC, if_neg (by rw [this]; decide)]; exact keysC_self l
mutual
theorem cmpV_self : ∀ v, cmpV v v = 0
  | .mk k h t l ks vs => by
    have h1 := cmpL_self l
    have h2 := cmpL_self vs
    have h3 : textsC t t = 0 := by unfold textsC; rw [if_neg (by rw [bl_irrefl]; decide), if_pos (by simp)]
    rw [cmpV]
    simp only [V.kind, V.half, V.text, V.list, V.keys, V.vals, keysC_self, h1, h2, h3]
    simp [sgn]
theorem cmpL_self : ∀ l, cmpL l l = 0
  | [] => by simp [cmpL]
  | a :: l => by rw [cmpL]; simp only [cmpV_self a]; simp [cmpL_self l]
end
theorem same_any (a b : V) (ok : Nat → Prop) (cs ds : List Value) (w : World) (wa : WF a) (wb : WF b) (ha : Vr w ok a cs) (hb : Vr w ok b ds) : Calls Tryz.prog 35 #[.agg cs.toArray, .agg ds.toArray] w fun e w' => e = .returned (.bool (decide (cmpV a b = 0))) ∧ Below w.heap.size w w' := by
  have HVA := Lib.hid ha
  have HVB := Lib.hid hb
  obtain ⟨k, h, t, l, ks, vs, A1, c1, A2, c2, A3, c3, f, g, ht, h1, h2, h3, b1, b2, b3, hk', hh', hs', r1, e1, r2, r3, e3⟩ := ha
  obtain ⟨dk, dh, dt, dl, dks, dvs, D1, p1, D2, p2, D3, p3, df, dg, dht, dh1, dh2, dh3, db1, db2, db3, dhk, dhh, dhs, dr1, de1, dr2, dr3, de3⟩ := hb
  have hB : Below w.heap.size w ((w.alloc (.cells #[.int .i64 k, .int .i64 h, .string t, .slice A1 l.length c1, .slice A2 ks.length c2, .slice A3 vs.length c3] 26)).alloc (.cells #[.int .i64 dk, .int .i64 dh, .string dt, .slice D1 dl.length p1, .slice D2 dks.length p2, .slice D3 dvs.length p3] 26)) := ((Below.refl _ _).alloc (Nat.le_refl _) _).alloc (by simp) _
  have HC := Lib.hid (cmp_any _ _ ok _ _ _ wa wb (HVA.out.keep hB) (HVB.out.keep hB))
  have HB := Lib.hid hB
  clear hB
  go_enter Tryz.func35, Tryz.ntmps35
  go_wp2_with fail
  refine HC.out.mono ?_
  rintro e' w' ⟨rfl, hb'⟩
  obtain ⟨n0, hn0⟩ : ∃ n0, n0 = cmpV (V.mk k h t l ks vs) (V.mk dk dh dt dl dks dvs) := ⟨_, rfl⟩
  rw [← hn0]
  have HN0 := Lib.hid (show (n0 == 0) = decide (cmpV (V.mk k h t l ks vs) (V.mk dk dh dt dl dks dvs) = 0) by rw [← hn0, Bool.eq_iff_iff]; simp)
  clear hn0
  go_wp2_with fail
  go_ret
  exact ⟨by rw [← HN0.out]; rfl, below_trans HB.out hb'⟩
end Go.Proofs.YtpamlgdcnmcedaaGreatDoor
