/- spec.along and spec.Call at 'flatten'. -/
import Derived.Test.YtpamlgdcnmcedaaGreatDoorS1
import Derived.Test.YtpamlgdcnmcedaaGreatDoorS2
set_option linter.unusedVariables false
set_option linter.unusedSimpArgs false
set_option maxRecDepth 100000
namespace Go.Proofs.YtpamlgdcnmcedaaGreatDoor
open Go Go.RowKit
def zeroA : Value := .agg #[.int .i64 0, .int .i64 0, .string ⟨#[]⟩, .slice none 0 0, .slice none 0 0, .slice none 0 0]
def AlongPost (ok : Nat → Prop) (v d : V) (w : World) (e : Ending) (w' : World) : Prop := Below w.heap.size w w' ∧
  ((e = .returned (.tuple #[zeroA, .int .i64 2])) ∨
   (v.kind ≠ 6 ∧ v.kind ≠ 5 ∧ (∃ n : Nat, d.half = 2 * n ∧ d.kind = 3) ∧ e = .returned (.tuple #[zeroA, .int .i64 1])) ∨
   (v.kind = 5 ∧ ∃ (n : Nat) (rs : List Value), d.half = 2 * n ∧ d.kind = 3 ∧ e = .returned (.tuple #[.agg rs.toArray, .int .i64 0]) ∧ Vr w' (fun b => w.heap.size ≤ b ∨ (ok b ∧ b < w.heap.size)) (V.mk 5 0 ⟨#[]⟩ (flatV n v.list) [] []) rs))
theorem along_any (v d : V) (ok : Nat → Prop) (cs ds : List Value) (w : World) (hv : Vr w ok v cs) (hd : Vr w ok d ds) (wv : WF v) (wd : WF d) (hlen : ∀ n, (flatV n v.list).length ≤ 1000) :
    Calls Tryz.prog 44 #[.string { data := #[102, 108, 97, 116, 116, 101, 110] }, .agg cs.toArray, .agg ds.toArray] w (AlongPost ok v d w) := by
  have HV := Lib.hid hv
  have HD := Lib.hid hd
  have HLEN := Lib.hid hlen
  obtain ⟨k, h, t, l, ks, vs, A1, c1, A2, c2, A3, c3, f, g, ht, h1, h2, h3, b1, b2, b3, hk', hh', hs', r1, e1, r2, r3, e3⟩ := hv
  obtain ⟨dk, dh, dt, dl, dks, dvs, D1, p1, D2, p2, D3, p3, df, dg, dht, dh1, dh2, dh3, db1, db2, db3, dhk, dhh, dhs, dr1, de1, dr2, dr3, de3⟩ := hd
  have wdb : -18014398509481984 ≤ dh ∧ dh ≤ 18014398509481984 := by
    obtain ⟨_, _, _, _, _, _, _, _, _, _, _, _, whb', _, _, _, _⟩ := wd
    exact whb'
  clear wv wd
  obtain ⟨W3, hW3⟩ : ∃ W3, W3 = ((w.alloc (.cells #[.int .i64 k, .int .i64 h, .string t, .slice A1 l.length c1, .slice A2 ks.length c2, .slice A3 vs.length c3] 26)).alloc (.cells #[.int .i64 dk, .int .i64 dh, .string dt, .slice D1 dl.length p1, .slice D2 dks.length p2, .slice D3 dvs.length p3] 26)).alloc (.cells #[.int .i64 0, .int .i64 0, .string ⟨#[]⟩, .slice none 0 0, .slice none 0 0, .slice none 0 0] 26) := ⟨_, rfl⟩
  have hB : Below w.heap.size w W3 := by rw [hW3]; exact (((Below.refl _ _).alloc (Nat.le_refl _) _).alloc (by simp) _).alloc (by simp; omega) _
  have hS3 : W3.heap.size = w.heap.size + 3 := by rw [hW3]; simp
  have hC3 : W3.heap[w.heap.size]? = some (.cells #[.int .i64 k, .int .i64 h, .string t, .slice A1 l.length c1, .slice A2 ks.length c2, .slice A3 vs.length c3] 26) := by
    rw [hW3, heap_alloc_old _ _ (by simp; omega), heap_alloc_old _ _ (by simp)]
    exact heap_alloc_new w _
  have hR3 : W3.heap[w.heap.size + 2]? = some (.cells #[.int .i64 0, .int .i64 0, .string ⟨#[]⟩, .slice none 0 0, .slice none 0 0, .slice none 0 0] 26) := by
    rw [hW3]
    have := heap_alloc_new ((w.alloc (.cells #[.int .i64 k, .int .i64 h, .string t, .slice A1 l.length c1, .slice A2 ks.length c2, .slice A3 vs.length c3] 26)).alloc (.cells #[.int .i64 dk, .int .i64 dh, .string dt, .slice D1 dl.length p1, .slice D2 dks.length p2, .slice D3 dvs.length p3] 26)) (.cells #[.int .i64 0, .int .i64 0, .string ⟨#[]⟩, .slice none 0 0, .slice none 0 0, .slice none 0 0] 26)
    rw [show ((w.alloc (.cells #[.int .i64 k, .int .i64 h, .string t, .slice A1 l.length c1, .slice A2 ks.length c2, .slice A3 vs.length c3] 26)).alloc (.cells #[.int .i64 dk, .int .i64 dh, .string dt, .slice D1 dl.length p1, .slice D2 dks.length p2, .slice D3 dvs.length p3] 26)).heap.size = w.heap.size + 2 from by simp] at this
    exact this
  have HW3 := Lib.hid hW3
  have HB := Lib.hid hB
  have HC3 := Lib.hid hC3
  have HR3 := Lib.hid hR3
  have HDN : ∀ (W : World), Below w.heap.size w W → ¬ (dk = 3 ∧ dh.tmod 2 = 0) → Calls Tryz.prog 62 #[.agg #[.int .i64 dk, .int .i64 dh, .string dt, .slice D1 dl.length p1, .slice D2 dks.length p2, .slice D3 dvs.length p3]] W fun e w' => e = .returned (.tuple #[.int .i64 0, .bool false]) ∧ Below W.heap.size W w' :=
    fun W hb hno => whole_no _ ok _ W (HD.out.keep hb) hno
  have HDY : ∀ (W : World), Below w.heap.size w W → dk = 3 → dh.tmod 2 = 0 → Calls Tryz.prog 62 #[.agg #[.int .i64 dk, .int .i64 dh, .string dt, .slice D1 dl.length p1, .slice D2 dks.length p2, .slice D3 dvs.length p3]] W fun e w' => e = .returned (.tuple #[.int .i64 (dh.tdiv 2), .bool true]) ∧ Below W.heap.size W w' :=
    fun W hb hk he => whole_yes _ ok _ W (HD.out.keep hb) hk he
  have HDN := Lib.hid HDN
  have HDY := Lib.hid HDY
  have R1 := Lib.hid r1
  have E1 := Lib.hid e1
  clear hW3 hB hC3 hR3 hlen r1 e1 r2 r3 e3 hs' dr1 de1 dr2 dr3 de3 dhs
  -- the block of the result, in a later world
  have hres : ∀ W, Below W3.heap.size W3 W → W.heap[w.heap.size + 2]? = some (.cells #[.int .i64 0, .int .i64 0, .string ⟨#[]⟩, .slice none 0 0, .slice none 0 0, .slice none 0 0] 26) := fun W hb => (hb.block _ (by omega)).trans HR3.out
  have hbox : ∀ W, Below W3.heap.size W3 W → W.heap[w.heap.size]? = some (.cells #[.int .i64 k, .int .i64 h, .string t, .slice A1 l.length c1, .slice A2 ks.length c2, .slice A3 vs.length c3] 26) := fun W hb => (hb.block _ (by omega)).trans HC3.out
  have HRES := Lib.hid hres
  have HBOX := Lib.hid hbox
  clear hres hbox
  by_cases hw : dk = 3 ∧ dh.tmod 2 = 0
  · obtain ⟨rfl, he⟩ := hw
    obtain ⟨q, hq⟩ : ∃ q, q = dh.tdiv 2 := ⟨_, rfl⟩
    have hdh : dh = 2 * q := by have := Int.tmod_add_mul_tdiv dh 2; omega
    have HQ := Lib.hid hq
    have HDH := Lib.hid hdh
    have HE := Lib.hid he
    have qb : -9007199254740992 ≤ q ∧ q ≤ 9007199254740992 := by omega
    clear hq hdh he
    go_enter Tryz.func44, Tryz.ntmps44
    go_wp2_with fail
    rw [← HW3.out]
    refine (HDY.out W3 HB.out (by first | rfl | trivial) HE.out).mono ?_
    rintro e' w4 ⟨rfl, hb4⟩
    rw [← HQ.out]
    have hr4 := HRES.out w4 hb4
    have hc4 := HBOX.out w4 hb4
    have z0 : w4.cell? ⟨w.heap.size, 0, none⟩ = some (.int .i64 k) := by simp [World.cell?, hc4]
    have z3 : w4.cell? ⟨w.heap.size, 3, none⟩ = some (.slice A1 l.length c1) := by simp [World.cell?, hc4]
    have y0 : w4.cell? ⟨w.heap.size + 2, 0, none⟩ = some (.int .i64 0) := by simp [World.cell?, hr4]
    have y1 : w4.cell? ⟨w.heap.size + 2, 1, none⟩ = some (.int .i64 0) := by simp [World.cell?, hr4]
    have y2 : w4.cell? ⟨w.heap.size + 2, 2, none⟩ = some (.string ⟨#[]⟩) := by simp [World.cell?, hr4]
    have y3 : w4.cell? ⟨w.heap.size + 2, 3, none⟩ = some (.slice none 0 0) := by simp [World.cell?, hr4]
    have y4 : w4.cell? ⟨w.heap.size + 2, 4, none⟩ = some (.slice none 0 0) := by simp [World.cell?, hr4]
    have y5 : w4.cell? ⟨w.heap.size + 2, 5, none⟩ = some (.slice none 0 0) := by simp [World.cell?, hr4]
    have yf : ∀ i, w4.frozen? ⟨w.heap.size + 2, i, none⟩ = false := fun i => by simp [World.frozen?, hr4]
    have HB4 := Lib.hid (below_trans HB.out hb4)
    have HB34 := Lib.hid hb4
    clear hr4 hc4 hb4
    by_cases h6 : k = 6
    · subst h6
      go_wp2_with fail
      refine bodyPost_ret (v := .tuple #[zeroA, .int .i64 2]) (by simp [results, Tryz.results44, go_sem, zeroA, y0, y1, y2, y3, y4, y5]) rfl ?_
      refine ⟨?_, .inl rfl⟩
      have hle : w.heap.size ≤ w.heap.size + 2 := by omega
      exact ((((((HB4.out.setCell hle _).setCell hle _).setCell hle _).setCell hle _).setCell hle _).setCell hle _)
    by_cases hq0 : q < 0
    · go_wp2_with fail
      refine bodyPost_ret (v := .tuple #[zeroA, .int .i64 2]) (by simp [results, Tryz.results44, go_sem, zeroA, y0, y1, y2, y3, y4, y5]) rfl ?_
      refine ⟨?_, .inl rfl⟩
      have hle : w.heap.size ≤ w.heap.size + 2 := by omega
      exact ((((((HB4.out.setCell hle _).setCell hle _).setCell hle _).setCell hle _).setCell hle _).setCell hle _)
    obtain ⟨n, hn⟩ : ∃ n : Nat, q = n := ⟨q.toNat, by omega⟩
    by_cases h5 : k = 5
    · subst h5
      have hnb : n < 2 ^ 60 := by omega
      have HQN := Lib.hid hn
      have HFC := Lib.hid (flatV_any n hnb l l.length rfl (fun b => ok b ∧ b < w.heap.size) A1 c1 f w4 (fun b hb => Nat.lt_of_lt_of_le hb.2 HB4.out.size)
        ((R1.out.bound fun i hi => by have := (E1.out i _ (List.getElem?_eq_getElem hi)).len; omega).move fun b hb => HB4.out.block b hb.2)
        (fun i v hv => (E1.out i v hv).bound.move fun b hb => HB4.out.block b hb.2) b1 (HLEN.out n))
      subst hn
      clear hnb
      go_wp2_with fail
      refine HFC.out.mono ?_
      rintro e' w5 ⟨v', rfl, hown, hb5⟩
      obtain ⟨Av, cv, hve, hle⟩ := hown.form
      obtain ⟨y, hy⟩ : ∃ y, y = (flatV n l).length := ⟨_, rfl⟩
      rw [← hy] at hve hle
      subst hve
      have HOWN := Lib.hid hown
      have HB5 := Lib.hid hb5
      have HY := Lib.hid hy
      clear hown hb5 hy y0 y1 y2 y3 y4 y5 yf
      go_wp2_with fail
      refine (array_any Av y cv w5).mono ?_
      rintro e' w6 ⟨rfl, hb6⟩
      have HB6 := Lib.hid (below_trans HB34.out (below_trans HB5.out hb6))
      have hown6 := HOWN.out.keep hb6
      obtain ⟨f', hrow, hel⟩ := hown6.reads (ok' := fun b => w4.heap.size ≤ b ∨ (ok b ∧ b < w.heap.size)) (fun b hb => .inr hb) (fun b hb _ => .inl hb) (by decide)
      have hvr : Vr w6 (fun b => w4.heap.size ≤ b ∨ (ok b ∧ b < w.heap.size)) (V.mk 5 0 ⟨#[]⟩ (flatV n l) [] []) [.int .i64 5, .int .i64 0, .string ⟨#[]⟩, .slice Av (flatV n l).length cv, .slice none 0 0, .slice none 0 0] := by
        refine .mk 5 0 ⟨#[]⟩ (flatV n l) [] [] Av cv none 0 none 0 f' (fun _ => []) (by decide) (by rw [← HY.out]; exact hle) (Nat.le_refl _) (Nat.le_refl _) (by have := HLEN.out n; exact Nat.le_trans this (by decide)) (by decide) (by decide) (by decide) (by decide) (fun i s h => by simp at h) hrow hel (fun h => absurd h (by simp)) (fun h => absurd h (by simp)) (fun i v h => by simp at h)
      rw [← HY.out] at hvr
      have HVR := Lib.hid hvr
      have hset : ∀ (W : World) (i : Nat) (u : Value) (rs : List Value), Vr W (fun b => w4.heap.size ≤ b ∨ (ok b ∧ b < w.heap.size)) (V.mk 5 0 ⟨#[]⟩ (flatV n l) [] []) rs → Vr (W.setCell ⟨w.heap.size + 2, i, none⟩ u) (fun b => w4.heap.size ≤ b ∨ (ok b ∧ b < w.heap.size)) (V.mk 5 0 ⟨#[]⟩ (flatV n l) [] []) rs := fun W i u rs h =>
        h.move fun b hb => Below.heap_setCell _ _ _ _ (by show b ≠ w.heap.size + 2; have := HB34.out.size; omega)
      have HSET := Lib.hid hset
      have hr6 := HRES.out w6 HB6.out
      have y0 : w6.cell? ⟨w.heap.size + 2, 0, none⟩ = some (.int .i64 0) := by simp [World.cell?, hr6]
      have y1 : w6.cell? ⟨w.heap.size + 2, 1, none⟩ = some (.int .i64 0) := by simp [World.cell?, hr6]
      have y2 : w6.cell? ⟨w.heap.size + 2, 2, none⟩ = some (.string ⟨#[]⟩) := by simp [World.cell?, hr6]
      have y3 : w6.cell? ⟨w.heap.size + 2, 3, none⟩ = some (.slice none 0 0) := by simp [World.cell?, hr6]
      have y4 : w6.cell? ⟨w.heap.size + 2, 4, none⟩ = some (.slice none 0 0) := by simp [World.cell?, hr6]
      have y5 : w6.cell? ⟨w.heap.size + 2, 5, none⟩ = some (.slice none 0 0) := by simp [World.cell?, hr6]
      have yf : ∀ i, w6.frozen? ⟨w.heap.size + 2, i, none⟩ = false := fun i => by simp [World.frozen?, hr6]
      clear hset hvr hrow hel hown6 hb6 hr6
      go_wp2_with fail
      refine bodyPost_ret (v := .tuple #[.agg #[.int .i64 5, .int .i64 0, .string ⟨#[]⟩, .slice Av y cv, .slice none 0 0, .slice none 0 0], .int .i64 0]) (by simp [results, Tryz.results44, go_sem, y0, y1, y2, y3, y4, y5]) rfl ?_
      have hle : w.heap.size ≤ w.heap.size + 2 := by omega
      refine ⟨(((((((below_trans HB.out HB6.out).setCell hle _).setCell hle _).setCell hle _).setCell hle _).setCell hle _).setCell hle _), .inr (.inr ⟨rfl, n, [.int .i64 5, .int .i64 0, .string ⟨#[]⟩, .slice Av y cv, .slice none 0 0, .slice none 0 0], HDH.out, rfl, rfl, ?_⟩)⟩
      exact (HSET.out _ _ _ _ (HSET.out _ _ _ _ (HSET.out _ _ _ _ (HSET.out _ _ _ _ (HSET.out _ _ _ _ (HSET.out _ _ _ _ HVR.out)))))).mono fun b hb => hb.elim (fun h => .inl (by have := HB34.out.size; omega)) .inr
    · subst hn
      have h6b : (k == 6) = false := by simpa using h6
      have h5b : (k != 5) = true := by simpa using h5
      have n0 : ¬ (n : Int) < 0 := by omega
      go_wp2_with fail
      refine bodyPost_ret (v := .tuple #[zeroA, .int .i64 1]) (by simp [results, Tryz.results44, go_sem, zeroA, y0, y1, y2, y3, y4, y5]) rfl ?_
      refine ⟨?_, .inr (.inl ⟨h6, h5, ⟨n, HDH.out, rfl⟩, rfl⟩)⟩
      have hle : w.heap.size ≤ w.heap.size + 2 := by omega
      exact ((((((HB4.out.setCell hle _).setCell hle _).setCell hle _).setCell hle _).setCell hle _).setCell hle _)
  · have HNO := Lib.hid hw
    clear hw
    go_enter Tryz.func44, Tryz.ntmps44
    go_wp2_with fail
    rw [← HW3.out]
    refine (HDN.out W3 HB.out HNO.out).mono ?_
    rintro e' w4 ⟨rfl, hb4⟩
    have hr4 := HRES.out w4 hb4
    have hc4 := HBOX.out w4 hb4
    have z0 : w4.cell? ⟨w.heap.size, 0, none⟩ = some (.int .i64 k) := by simp [World.cell?, hc4]
    have z3 : w4.cell? ⟨w.heap.size, 3, none⟩ = some (.slice A1 l.length c1) := by simp [World.cell?, hc4]
    have y0 : w4.cell? ⟨w.heap.size + 2, 0, none⟩ = some (.int .i64 0) := by simp [World.cell?, hr4]
    have y1 : w4.cell? ⟨w.heap.size + 2, 1, none⟩ = some (.int .i64 0) := by simp [World.cell?, hr4]
    have y2 : w4.cell? ⟨w.heap.size + 2, 2, none⟩ = some (.string ⟨#[]⟩) := by simp [World.cell?, hr4]
    have y3 : w4.cell? ⟨w.heap.size + 2, 3, none⟩ = some (.slice none 0 0) := by simp [World.cell?, hr4]
    have y4 : w4.cell? ⟨w.heap.size + 2, 4, none⟩ = some (.slice none 0 0) := by simp [World.cell?, hr4]
    have y5 : w4.cell? ⟨w.heap.size + 2, 5, none⟩ = some (.slice none 0 0) := by simp [World.cell?, hr4]
    have yf : ∀ i, w4.frozen? ⟨w.heap.size + 2, i, none⟩ = false := fun i => by simp [World.frozen?, hr4]
    have HB4 := Lib.hid (below_trans HB.out hb4)
    have HB34 := Lib.hid hb4
    clear hr4 hc4 hb4
    by_cases h6 : k = 6
    · subst h6
      go_wp2_with fail
      refine bodyPost_ret (v := .tuple #[zeroA, .int .i64 2]) (by simp [results, Tryz.results44, go_sem, zeroA, y0, y1, y2, y3, y4, y5]) rfl ?_
      refine ⟨?_, .inl rfl⟩
      have hle : w.heap.size ≤ w.heap.size + 2 := by omega
      exact ((((((HB4.out.setCell hle _).setCell hle _).setCell hle _).setCell hle _).setCell hle _).setCell hle _)
    · go_wp2_with fail
      refine bodyPost_ret (v := .tuple #[zeroA, .int .i64 2]) (by simp [results, Tryz.results44, go_sem, zeroA, y0, y1, y2, y3, y4, y5]) rfl ?_
      refine ⟨?_, .inl rfl⟩
      have hle : w.heap.size ≤ w.heap.size + 2 := by omega
      exact ((((((HB4.out.setCell hle _).setCell hle _).setCell hle _).setCell hle _).setCell hle _).setCell hle _)
end Go.Proofs.YtpamlgdcnmcedaaGreatDoor
