/- impl.toGo. -/
import Derived.Test.YtpamlgdcnmcedaaGreatDoorG2
import Derived.Test.YtpamlgdcnmcedaaGreatDoorS
set_option linter.unusedVariables false
set_option linter.unusedSimpArgs false
set_option maxRecDepth 100000
namespace Go.Proofs.YtpamlgdcnmcedaaGreatDoor
open Go Go.RowKit
theorem toGo_step (n : Nat) (ih : ToGoIH n) : ToGoIH (n + 1) := by
  intro v ok cs w hn hw hp hv
  obtain ⟨k, h, t, l, ks, vs, hk, hh, ht, hl, hks, hlen, hb, ho, hs, wl, wv⟩ := hw
  obtain ⟨_, _, _, _, _, _, A1, c1, A2, c2, A3, c3, f, g, ht', h1, h2, h3, b1, b2, b3, hk', hh', hs', r1, e1, r2, r3, e3⟩ := hv
  obtain ⟨_, _, _, _, _, _, pl1, pl2, sml, smv⟩ := hp
  have hbl : Below w.heap.size w (w.alloc (.cells #[.int .i64 k, .int .i64 h, .string t, .slice A1 l.length c1, .slice A2 ks.length c2, .slice A3 vs.length c3] 26)) := (Below.refl _ _).alloc (Nat.le_refl _) _
  have hcase : k = 0 ∨ k = 1 ∨ k = 2 ∨ k = 3 ∨ k = 4 ∨ k = 5 ∨ k = 6 := by omega
  have HL := Lib.hid hlen
  have HSO := Lib.hid hs
  clear hh ht hl hks hlen hs
  rcases hcase with rfl | rfl | rfl | rfl | rfl | rfl | rfl
  · go_enter Tryz.func47, Tryz.ntmps47
    go_wp2_with fail
    go_ret2
    exact ⟨_, rfl, .null, hbl⟩
  · go_enter Tryz.func47, Tryz.ntmps47
    go_wp2_with fail
    go_ret2
    exact ⟨_, rfl, .bool false, hbl⟩
  · go_enter Tryz.func47, Tryz.ntmps47
    go_wp2_with fail
    go_ret2
    exact ⟨_, rfl, .bool true, hbl⟩
  · by_cases he : h.tmod 2 = 0
    · have hj : (V.mk 3 h t l ks vs).j = .int (h.tdiv 2) := by simp [V.j, he]
      have HJ := Lib.hid hj
      clear hj
      go_enter Tryz.func47, Tryz.ntmps47
      go_wp2_with fail
      go_ret2
      exact ⟨_, rfl, by rw [HJ.out]; exact .int _, hbl⟩
    · have hj : (V.mk 3 h t l ks vs).j = .hf h := by simp [V.j, he]
      have HJ := Lib.hid hj
      have hdiv : ∀ W, (binOp .quo 82 (.float .f64 (floatOfInt .f64 h)) (.float .f64 4611686018427387904)).run Tryz.prog W = .ok (.float .f64 (Fl.hw h)) W := fun W =>
        run_float_arith W .quo 82 .f64 _ _ _ (Fl.div_two h (by rintro rfl; exact he rfl) (by omega))
      have heb : (h.tmod 2 == 0) = false := by simpa using he
      clear hj
      go_enter Tryz.func47, Tryz.ntmps47
      go_wp2_with fail

      go_ret2
      exact ⟨_, rfl, by rw [HJ.out]; exact .hf _, hbl⟩
  · go_enter Tryz.func47, Tryz.ntmps47
    go_wp2_with fail
    go_ret2
    exact ⟨_, rfl, .str t, hbl⟩
  · have H1 := listToGo_one n ih l ok A1 c1 f (w.alloc (.cells #[.int .i64 5, .int .i64 h, .string t, .slice A1 l.length c1, .slice A2 ks.length c2, .slice A3 vs.length c3] 26)) (fun v hv => by have := sizeOf_lt_list (k := 5) (h := h) (t := t) (ks := ks) (vs := vs) hv; omega) wl pl1 sml (r1.bound (fun i hi => by have := (e1 i _ (List.getElem?_eq_getElem hi)).len; omega) |>.move (fun b hb => hbl.block b hb.2) |>.mono (fun _ h => h.1)) (fun i v hv => (e1 i v hv).keep hbl)
    have H1' := Lib.hid H1
    clear H1
    go_enter Tryz.func47, Tryz.ntmps47
    go_wp2_with fail
    refine H1'.out.mono ?_
    rintro e w' ⟨A', f', rfl, hr, hj, hbw⟩
    go_wp2_with fail
    go_ret2
    refine ⟨_, rfl, ?_, below_trans hbl hbw⟩
    have := Jr.arr (w := w') (ok := fun b => w.heap.size ≤ b) (V.js l) A' l.length f' (by rw [js_len]; exact Nat.le_refl _) (by rw [js_len]; exact hr.mono fun b hb => by simp at hb; omega) (fun i j hj' => (hj i j hj').mono fun b hb => by simp at hb; omega)
    rw [js_len] at this
    exact this
  · obtain ⟨m, hm⟩ : ∃ m, ks.length = m := ⟨_, rfl⟩
    have hm2 : vs.length = m := HL.out.symm.trans hm
    simp only [hm, hm2] at r2 r3 hbl ⊢
    have H1 := mapToGo_one n ih 6 h t ks vs ok A1 A2 A3 l.length c1 c2 c3 m g (w.alloc (.cells #[.int .i64 6, .int .i64 h, .string t, .slice A1 l.length c1, .slice A2 m c2, .slice A3 m c3] 26)) (fun v hv => by have := sizeOf_lt_vals (k := 6) (h := h) (t := t) (ks := ks) (l := l) hv; omega) wv pl2 smv hm hm2 HSO.out (sortedS_nodup HSO.out) (r2.bound (fun i hi => by simp [strCell]) |>.move (fun b hb => hbl.block b hb.2) |>.mono (fun _ h => h.1)) (r3.bound (fun i hi => by have := (e3 i _ (List.getElem?_eq_getElem (by rw [hm2]; exact hi))).len; omega) |>.move (fun b hb => hbl.block b hb.2) |>.mono (fun _ h => h.1)) (fun i v hv => (e3 i v hv).keep hbl)
    have H1' := Lib.hid H1
    clear H1 hm hm2
    go_enter Tryz.func47, Tryz.ntmps47
    go_wp2_with fail
    refine H1'.out.mono ?_
    rintro e w' ⟨b, rfl, hr, hbw⟩
    go_wp2_with fail
    go_ret2
    exact ⟨_, rfl, hr.mono fun b hb => by simp at hb; omega, below_trans hbl hbw⟩
theorem toGo_all : ∀ n, ToGoIH n
  | 0 => fun v ok cs w hn => absurd hn (Nat.not_lt_zero _)
  | n + 1 => toGo_step n (toGo_all n)
theorem toGo_any (v : V) (ok : Nat → Prop) (cs : List Value) (w : World) (hw : WF v) (hp : Sm v) (hv : Vr w ok v cs) : Calls Tryz.prog 47 #[.agg cs.toArray] w (ToGoPost v w) :=
  toGo_all (SizeOf.sizeOf v + 1) v ok cs w (Nat.lt_succ_self _) hw hp hv
end Go.Proofs.YtpamlgdcnmcedaaGreatDoor
