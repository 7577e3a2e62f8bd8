/- impl.fromGo. -/
import Derived.Test.YtpamlgdcnmcedaaGreatDoorH2
set_option linter.unusedVariables false
set_option linter.unusedSimpArgs false
set_option maxRecDepth 100000
namespace Go.Proofs.YtpamlgdcnmcedaaGreatDoor
open Go Go.RowKit
theorem sizeOf_lt_arr {l : List J} {v : J} (hv : v ∈ l) : SizeOf.sizeOf v < SizeOf.sizeOf (J.arr l) := by
  have := List.sizeOf_lt_of_mem hv
  simp only [J.arr.sizeOf_spec]
  omega
theorem sizeOf_lt_obj {ks : List ByteArray} {vs : List J} {v : J} (hv : v ∈ vs) : SizeOf.sizeOf v < SizeOf.sizeOf (J.obj ks vs) := by
  have := List.sizeOf_lt_of_mem hv
  simp only [J.obj.sizeOf_spec]
  omega
/-- A value without lists. -/
theorem vr_plain {w : World} {ok : Nat → Prop} (k h : Int) (t : ByteArray) (hk : -9223372036854775808 ≤ k ∧ k ≤ 9223372036854775807) (hh : -9223372036854775808 ≤ h ∧ h ≤ 9223372036854775807) (ht : t.size ≤ 140737488351232) :
    Vr w ok (.mk k h t [] [] []) [.int .i64 k, .int .i64 h, .string t, .slice none 0 0, .slice none 0 0, .slice none 0 0] :=
  .mk k h t [] [] [] none 0 none 0 none 0 (fun _ => []) (fun _ => []) ht (by simp) (by simp) (by simp) (by simp) (by simp) (by simp) hk hh (fun i s h => by simp at h) (fun h => by simp at h) (fun i v h => by simp at h) (fun h => by simp at h) (fun h => by simp at h) (fun i v h => by simp at h)
theorem fromGo_step (n : Nat) (ih : FromGoIH n) : FromGoIH (n + 1) := by
  intro j ok x w hn hG hJ
  have hbl : ∀ o, Below w.heap.size w (w.alloc o) := fun o => (Below.refl _ _).alloc (Nat.le_refl _) _
  have HJ := Lib.hid hJ
  cases hJ with
  | null =>
    go_enter Tryz.func93, Tryz.ntmps93
    go_wp2_with fail
    refine bodyPost_ret (v := .tuple #[.agg #[.int .i64 0, .int .i64 0, .string ⟨#[]⟩, .slice none 0 0, .slice none 0 0, .slice none 0 0], .bool true]) (by simp [results, Tryz.results93, go_sem]) rfl ?_
    exact ⟨[.int .i64 0, .int .i64 0, .string ⟨#[]⟩, .slice none 0 0, .slice none 0 0, .slice none 0 0], rfl, vr_plain 0 0 ⟨#[]⟩ (by omega) (by omega) (by decide), hbl _⟩
  | bool b =>
    cases b with
    | true =>
      go_enter Tryz.func93, Tryz.ntmps93
      go_wp2_with fail
      refine bodyPost_ret (v := .tuple #[.agg #[.int .i64 2, .int .i64 0, .string ⟨#[]⟩, .slice none 0 0, .slice none 0 0, .slice none 0 0], .bool true]) (by simp [results, Tryz.results93, go_sem]) rfl ?_
      exact ⟨[.int .i64 2, .int .i64 0, .string ⟨#[]⟩, .slice none 0 0, .slice none 0 0, .slice none 0 0], rfl, vr_plain 2 0 ⟨#[]⟩ (by omega) (by omega) (by decide), hbl _⟩
    | false =>
      go_enter Tryz.func93, Tryz.ntmps93
      go_wp2_with fail
      refine bodyPost_ret (v := .tuple #[.agg #[.int .i64 1, .int .i64 0, .string ⟨#[]⟩, .slice none 0 0, .slice none 0 0, .slice none 0 0], .bool true]) (by simp [results, Tryz.results93, go_sem]) rfl ?_
      exact ⟨[.int .i64 1, .int .i64 0, .string ⟨#[]⟩, .slice none 0 0, .slice none 0 0, .slice none 0 0], rfl, vr_plain 1 0 ⟨#[]⟩ (by omega) (by omega) (by decide), hbl _⟩
  | int m =>
    obtain _ | _ | ⟨_, hm⟩ := hG
    go_enter Tryz.func93, Tryz.ntmps93
    go_wp2_with fail
    refine bodyPost_ret (v := .tuple #[.agg #[.int .i64 3, .int .i64 (2 * m), .string ⟨#[]⟩, .slice none 0 0, .slice none 0 0, .slice none 0 0], .bool true]) (by simp [results, Tryz.results93, go_sem]) rfl ?_
    exact ⟨[.int .i64 3, .int .i64 (2 * m), .string ⟨#[]⟩, .slice none 0 0, .slice none 0 0, .slice none 0 0], rfl, vr_plain 3 (2 * m) ⟨#[]⟩ (by omega) (by omega) (by decide), hbl _⟩
  | hf h =>
    obtain _ | _ | _ | ⟨_, h0, hb⟩ := hG
    have hmul : ∀ W, (binOp .mul 82 (.float .f64 4611686018427387904) (.float .f64 (Fl.hw h))).run Tryz.prog W = .ok (.float .f64 (Fl.fl h)) W := fun W =>
      run_float_arith W .mul 82 .f64 _ _ _ (Fl.two_mul h h0 hb)
    go_enter Tryz.func93, Tryz.ntmps93
    go_wp2_with fail
    refine (half_any h hb _).mono ?_
    rintro e w' ⟨rfl, hbw⟩
    have hr' : w'.heap[w.heap.size]? = some (.cells #[.int .i64 0, .int .i64 0, .string ⟨#[]⟩, .slice none 0 0, .slice none 0 0, .slice none 0 0] 26) := (hbw.block _ (by simp)).trans (heap_alloc_new w _)
    have y0 : w'.cell? ⟨w.heap.size, 0, none⟩ = some (.int .i64 0) := by simp [World.cell?, hr']
    have y1 : w'.cell? ⟨w.heap.size, 1, none⟩ = some (.int .i64 0) := by simp [World.cell?, hr']
    have y2 : w'.cell? ⟨w.heap.size, 2, none⟩ = some (.string ⟨#[]⟩) := by simp [World.cell?, hr']
    have y3 : w'.cell? ⟨w.heap.size, 3, none⟩ = some (.slice none 0 0) := by simp [World.cell?, hr']
    have y4 : w'.cell? ⟨w.heap.size, 4, none⟩ = some (.slice none 0 0) := by simp [World.cell?, hr']
    have y5 : w'.cell? ⟨w.heap.size, 5, none⟩ = some (.slice none 0 0) := by simp [World.cell?, hr']
    have yf : ∀ i, w'.frozen? ⟨w.heap.size, i, none⟩ = false := fun i => by simp [World.frozen?, hr']
    clear hr'
    go_wp2_with fail
    refine bodyPost_ret (v := .tuple #[.agg #[.int .i64 3, .int .i64 h, .string ⟨#[]⟩, .slice none 0 0, .slice none 0 0, .slice none 0 0], .bool true]) (by simp [results, Tryz.results93, go_sem, y0, y1, y2, y3, y4, y5]) rfl ?_
    refine ⟨[.int .i64 3, .int .i64 h, .string ⟨#[]⟩, .slice none 0 0, .slice none 0 0, .slice none 0 0], rfl, vr_plain 3 h ⟨#[]⟩ (by omega) (by omega) (by decide), ?_⟩
    exact (((((((below_trans (hbl _) hbw).setCell (Nat.le_refl _) _).setCell (Nat.le_refl _) _).setCell (Nat.le_refl _) _).setCell (Nat.le_refl _) _).setCell (Nat.le_refl _) _).setCell (Nat.le_refl _) _)
  | str s =>
    obtain _ | _ | _ | _ | ⟨_, hs⟩ := hG
    go_enter Tryz.func93, Tryz.ntmps93
    go_wp2_with fail
    refine bodyPost_ret (v := .tuple #[.agg #[.int .i64 4, .int .i64 0, .string s, .slice none 0 0, .slice none 0 0, .slice none 0 0], .bool true]) (by simp [results, Tryz.results93, go_sem]) rfl ?_
    exact ⟨[.int .i64 4, .int .i64 0, .string s, .slice none 0 0, .slice none 0 0, .slice none 0 0], rfl, vr_plain 4 0 s (by omega) (by omega) hs, hbl _⟩
  | arr l A c f hc r e =>
    obtain _ | _ | _ | _ | _ | ⟨_, hmax, hGl⟩ := hG
    have H1 := listFromGo_one n ih l l.length rfl ok A c f (w.alloc (.cells #[.int .i64 0, .int .i64 0, .string ⟨#[]⟩, .slice none 0 0, .slice none 0 0, .slice none 0 0] 26)) (fun j hj => by have := sizeOf_lt_arr hj; omega) hGl hmax (r.bound (fun i hi => by simp) |>.move (fun b hb => (hbl _).block b hb.2) |>.mono (fun _ h => h.1)) (fun i j hj => (e i j hj).keep (hbl _))
    have H1' := Lib.hid H1
    clear H1
    go_enter Tryz.func93, Tryz.ntmps93
    go_wp2_with fail
    refine H1'.out.mono ?_
    rintro e' w' ⟨cs, rfl, hv', hbw⟩
    have hr' : w'.heap[w.heap.size]? = some (.cells #[.int .i64 0, .int .i64 0, .string ⟨#[]⟩, .slice none 0 0, .slice none 0 0, .slice none 0 0] 26) := (hbw.block _ (by simp)).trans (heap_alloc_new w _)
    have y0 : w'.cell? ⟨w.heap.size, 0, none⟩ = some (.int .i64 0) := by simp [World.cell?, hr']
    have y1 : w'.cell? ⟨w.heap.size, 1, none⟩ = some (.int .i64 0) := by simp [World.cell?, hr']
    have y2 : w'.cell? ⟨w.heap.size, 2, none⟩ = some (.string ⟨#[]⟩) := by simp [World.cell?, hr']
    have y3 : w'.cell? ⟨w.heap.size, 3, none⟩ = some (.slice none 0 0) := by simp [World.cell?, hr']
    have y4 : w'.cell? ⟨w.heap.size, 4, none⟩ = some (.slice none 0 0) := by simp [World.cell?, hr']
    have y5 : w'.cell? ⟨w.heap.size, 5, none⟩ = some (.slice none 0 0) := by simp [World.cell?, hr']
    have yf : ∀ i, w'.frozen? ⟨w.heap.size, i, none⟩ = false := fun i => by simp [World.frozen?, hr']
    clear hr'
    have hset : ∀ (W : World) (i : Nat) (u : Value), Vr W (fun b => w.heap.size < b) (J.arr l).v cs → Vr (W.setCell ⟨w.heap.size, i, none⟩ u) (fun b => w.heap.size < b) (J.arr l).v cs := fun W i u h =>
      h.move fun b hb => Below.heap_setCell _ _ _ _ (by show b ≠ w.heap.size; omega)
    have hv1 : Vr w' (fun b => w.heap.size < b) (J.arr l).v cs := hv'.mono fun b hb => by simp at hb; omega
    have HSET := Lib.hid hset
    have HV1 := Lib.hid hv1
    clear hset hv1
    generalize hjv : (J.arr l).v = jv at hv'
    have HJV := Lib.hid hjv
    clear hjv
    obtain ⟨k', h', t', l', ks', vs', B1, d1, B2, d2, B3, d3, f1, g1, ht, h1, h2, h3, b1, b2, b3, hk', hh', hs', q1, e1, q2, q3, e3'⟩ := hv'
    go_wp2_with fail
    refine bodyPost_ret (v := .tuple #[.agg #[.int .i64 k', .int .i64 h', .string t', .slice B1 l'.length d1, .slice B2 ks'.length d2, .slice B3 vs'.length d3], .bool true]) (by simp [results, Tryz.results93, go_sem, y0, y1, y2, y3, y4, y5]) rfl ?_
    refine ⟨[.int .i64 k', .int .i64 h', .string t', .slice B1 l'.length d1, .slice B2 ks'.length d2, .slice B3 vs'.length d3], rfl, ?_, ?_⟩
    · exact (HSET.out _ _ _ (HSET.out _ _ _ (HSET.out _ _ _ (HSET.out _ _ _ (HSET.out _ _ _ (HSET.out _ _ _ HV1.out)))))).mono fun b hb => by omega
    · exact (((((((below_trans (hbl _) hbw).setCell (Nat.le_refl _) _).setCell (Nat.le_refl _) _).setCell (Nat.le_refl _) _).setCell (Nat.le_refl _) _).setCell (Nat.le_refl _) _).setCell (Nat.le_refl _) _)
  | obj ks vs b es clock f ho hb hn' hv hnd he hg hst e =>
    have H1 := mapFromGo_one n ih ks vs ks.length rfl hv ok (.map (some b)) (w.alloc (.cells #[.int .i64 0, .int .i64 0, .string ⟨#[]⟩, .slice none 0 0, .slice none 0 0, .slice none 0 0] 26)) (fun j hj => by have := sizeOf_lt_obj (ks := ks) hj; omega) hG (HJ.out.keep (hbl _))
    clear hG hv hn'
    have H1' := Lib.hid H1
    clear H1
    go_enter Tryz.func93, Tryz.ntmps93
    go_wp2_with fail
    refine H1'.out.mono ?_
    rintro e' w' ⟨cs, rfl, hv', hbw⟩
    have hr' : w'.heap[w.heap.size]? = some (.cells #[.int .i64 0, .int .i64 0, .string ⟨#[]⟩, .slice none 0 0, .slice none 0 0, .slice none 0 0] 26) := (hbw.block _ (by simp)).trans (heap_alloc_new w _)
    have y0 : w'.cell? ⟨w.heap.size, 0, none⟩ = some (.int .i64 0) := by simp [World.cell?, hr']
    have y1 : w'.cell? ⟨w.heap.size, 1, none⟩ = some (.int .i64 0) := by simp [World.cell?, hr']
    have y2 : w'.cell? ⟨w.heap.size, 2, none⟩ = some (.string ⟨#[]⟩) := by simp [World.cell?, hr']
    have y3 : w'.cell? ⟨w.heap.size, 3, none⟩ = some (.slice none 0 0) := by simp [World.cell?, hr']
    have y4 : w'.cell? ⟨w.heap.size, 4, none⟩ = some (.slice none 0 0) := by simp [World.cell?, hr']
    have y5 : w'.cell? ⟨w.heap.size, 5, none⟩ = some (.slice none 0 0) := by simp [World.cell?, hr']
    have yf : ∀ i, w'.frozen? ⟨w.heap.size, i, none⟩ = false := fun i => by simp [World.frozen?, hr']
    clear hr'
    have hset : ∀ (W : World) (i : Nat) (u : Value), Vr W (fun b => w.heap.size < b) (J.obj ks vs).v cs → Vr (W.setCell ⟨w.heap.size, i, none⟩ u) (fun b => w.heap.size < b) (J.obj ks vs).v cs := fun W i u h =>
      h.move fun b hb => Below.heap_setCell _ _ _ _ (by show b ≠ w.heap.size; omega)
    have hv1 : Vr w' (fun b => w.heap.size < b) (J.obj ks vs).v cs := hv'.mono fun b hb => by simp at hb; omega
    have HSET := Lib.hid hset
    have HV1 := Lib.hid hv1
    clear hset hv1
    generalize hjv : (J.obj ks vs).v = jv at hv'
    have HJV := Lib.hid hjv
    clear hjv
    obtain ⟨k', h', t', l', ks', vs', B1, d1, B2, d2, B3, d3, f1, g1, ht, h1, h2, h3, b1, b2, b3, hk', hh', hs', q1, e1, q2, q3, e3'⟩ := hv'
    go_wp2_with fail
    refine bodyPost_ret (v := .tuple #[.agg #[.int .i64 k', .int .i64 h', .string t', .slice B1 l'.length d1, .slice B2 ks'.length d2, .slice B3 vs'.length d3], .bool true]) (by simp [results, Tryz.results93, go_sem, y0, y1, y2, y3, y4, y5]) rfl ?_
    refine ⟨[.int .i64 k', .int .i64 h', .string t', .slice B1 l'.length d1, .slice B2 ks'.length d2, .slice B3 vs'.length d3], rfl, ?_, ?_⟩
    · exact (HSET.out _ _ _ (HSET.out _ _ _ (HSET.out _ _ _ (HSET.out _ _ _ (HSET.out _ _ _ (HSET.out _ _ _ HV1.out)))))).mono fun b hb => by omega
    · exact (((((((below_trans (hbl _) hbw).setCell (Nat.le_refl _) _).setCell (Nat.le_refl _) _).setCell (Nat.le_refl _) _).setCell (Nat.le_refl _) _).setCell (Nat.le_refl _) _).setCell (Nat.le_refl _) _)

theorem fromGo_all : ∀ n, FromGoIH n
  | 0 => fun j ok x w hn => absurd hn (Nat.not_lt_zero _)
  | n + 1 => fromGo_step n (fromGo_all n)
theorem fromGo_any (j : J) (ok : Nat → Prop) (x : Value) (w : World) (hG : GJ j) (hJ : Jr w ok j x) : Calls Tryz.prog 93 #[x] w (FromGoPost j w) :=
  fromGo_all (SizeOf.sizeOf j + 1) j ok x w (Nat.lt_succ_self _) hG hJ
end Go.Proofs.YtpamlgdcnmcedaaGreatDoor
