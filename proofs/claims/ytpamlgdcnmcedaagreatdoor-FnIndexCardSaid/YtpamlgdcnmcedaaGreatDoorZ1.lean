/- What serves every statement: impl.result of an error and of a float, a result's general form, laws.told where nothing is asked. -/
import Derived.Test.YtpamlgdcnmcedaaGreatDoorF3
import Derived.Test.YtpamlgdcnmcedaaGreatDoorQ3
import Derived.Test.YtpamlgdcnmcedaaGreatDoorDw
set_option linter.unusedVariables false
set_option linter.unusedSimpArgs false
set_option maxRecDepth 100000
namespace Go.Proofs.YtpamlgdcnmcedaaGreatDoor
open Go Go.RowKit
def LawP (w : World) (e : Ending) (w' : World) : Prop := e = .returned (.bool true) ∧ Below w.heap.size w w'
/-- An error of the program's. -/
def IsErr (x : Value) : Prop := ∃ t v, x = .iface t v ∧ ∀ W, (Instr.typeAssert (.iface t v) 20 89 true).run Tryz.prog W = .ok (.tuple #[.iface t v, .bool true]) W
/-- A result: a value and how it ended. -/
def ResPost (T : V → Int → Prop) (w : World) (e : Ending) (w' : World) : Prop :=
  ∃ (v : V) (cs : List Value) (c : Int), e = .returned (.agg (cs ++ [Value.int .i64 c]).toArray) ∧ Vr w' (fun b => w.heap.size ≤ b) v cs ∧ T v c ∧ Below w.heap.size w w'
def zeroV0 : V := .mk 0 0 ⟨#[]⟩ [] [] []
theorem vr_plain' {w : World} {ok : Nat → Prop} (k h : Int) (hk : -9223372036854775808 ≤ k ∧ k ≤ 9223372036854775807) (hh : -9223372036854775808 ≤ h ∧ h ≤ 9223372036854775807) :
    Vr w ok (V.mk k h ⟨#[]⟩ [] [] []) [.int .i64 k, .int .i64 h, .string ⟨#[]⟩, .slice none 0 0, .slice none 0 0, .slice none 0 0] :=
  .mk k h ⟨#[]⟩ [] [] [] none 0 none 0 none 0 (fun _ => []) (fun _ => []) (by decide) (Nat.le_refl _) (Nat.le_refl _) (Nat.le_refl _) (by decide) (by decide) (by decide) hk hh (fun i s h => by simp at h) (fun h => absurd h (by simp)) (fun i v h => by simp at h) (fun h => absurd h (by simp)) (fun h => absurd h (by simp)) (fun i v h => by simp at h)
theorem resPost_err {w w' : World} {e : Ending} (h : ErrPost w e w') : ResPost (fun v c => v = zeroV0 ∧ c = 1) w e w' := by
  obtain ⟨he, hb⟩ := h
  exact ⟨zeroV0, _, 1, he, vr_plain' 0 0 (by decide) (by decide), ⟨rfl, rfl⟩, hb⟩
theorem resPost_ok {j : J} {w w' : World} {e : Ending} (h : ResultPost j w e w') : ResPost (fun v c => v = j.v ∧ c = 0) w e w' := by
  obtain ⟨cs, he, hv, hb⟩ := h
  exact ⟨_, cs, 0, he, hv, ⟨rfl, rfl⟩, hb⟩
theorem resPost_mono {T T' : V → Int → Prop} {w w' : World} {e : Ending} (h : ResPost T w e w') (hT : ∀ v c, T v c → T' v c) : ResPost T' w e w' := by
  obtain ⟨v, cs, c, he, hv, ht, hb⟩ := h
  exact ⟨v, cs, c, he, hv, hT v c ht, hb⟩
theorem resPost_shape {T : V → Int → Prop} {w w' : World} {e : Ending} (h : ResPost T w e w') : ∃ (v : V) (a0 a1 : Int) (s : ByteArray) (S3 S4 S5 : Option Addr) (n3 m3 n4 m4 n5 m5 : Nat) (c : Int),
    e = .returned (.agg #[.int .i64 a0, .int .i64 a1, .string s, .slice S3 n3 m3, .slice S4 n4 m4, .slice S5 n5 m5, .int .i64 c]) ∧
    Vr w' (fun b => w.heap.size ≤ b) v [.int .i64 a0, .int .i64 a1, .string s, .slice S3 n3 m3, .slice S4 n4 m4, .slice S5 n5 m5] ∧ T v c ∧ Below w.heap.size w w' := by
  obtain ⟨v, cs, c, he, hv, hT, hb⟩ := h
  have key : ∀ u, Vr w' (fun b => w.heap.size ≤ b) u cs → ∃ (a0 a1 : Int) (s : ByteArray) (S3 S4 S5 : Option Addr) (n3 m3 n4 m4 n5 m5 : Nat), cs = [.int .i64 a0, .int .i64 a1, .string s, .slice S3 n3 m3, .slice S4 n4 m4, .slice S5 n5 m5] := fun u h => by
    cases h
    exact ⟨_, _, _, _, _, _, _, _, _, _, _, _, rfl⟩
  obtain ⟨a0, a1, s, S3, S4, S5, n3, m3, n4, m4, n5, m5, rfl⟩ := key v hv
  exact ⟨v, a0, a1, s, S3, S4, S5, n3, m3, n4, m4, n5, m5, c, he, hv, hT, hb⟩
theorem result_errG {x : Value} (h : IsErr x) (w : World) : Calls Tryz.prog 48 #[x] w (ErrPost w) := by
  obtain ⟨t, v, rfl, h⟩ := h
  go_enter Tryz.func48, Tryz.ntmps48
  go_wp2_with fail
  refine bodyPost_ret (v := .agg #[.int .i64 0, .int .i64 0, .string ⟨#[]⟩, .slice none 0 0, .slice none 0 0, .slice none 0 0, .int .i64 1]) (by simp [results, Tryz.results48, go_sem]) rfl ?_
  refine ⟨rfl, ?_⟩
  exact (Below.refl _ _).alloc (Nat.le_refl _) _
/-! ### A float as a result. -/
theorem trunc_anyx (n : Int) (hb : Fl.Hb n) (w : World) :
    Calls Tryz.prog 184 #[.float .f64 (Fl.fl n)] w fun e w' => e = .returned (.float .f64 (Fl.fl n)) ∧ w = w' := by
  obtain ⟨s, m, i, hr⟩ := Fl.read_flx n hb
  have h0 := run_trunc (Fl.fl n) s m i w hr
  rw [Fl.trunc_flx n hb] at h0
  go_enter Tryz.func184, Tryz.ntmps184
  go_wp2_with fail
  go_ret
  exact ⟨rfl, rfl⟩
theorem half_anyx (n : Int) (hb : Fl.Hb n) (w : World) :
    Calls Tryz.prog 140 #[.float .f64 (Fl.fl n)] w fun e w' => e = .returned (.tuple #[.agg #[.int .i64 3, .int .i64 n, .string ⟨#[]⟩, .slice none 0 0, .slice none 0 0, .slice none 0 0], .bool true]) ∧ Below w.heap.size w w' := by
  have hbd := hb.1
  have h1 : FloatKind.f64.format.order (Fl.fl n) (Fl.fl n) = some .eq := by
    have := Fl.stands_order (Fl.stands_flx n hb) (Fl.stands_flx n hb)
    rw [show FloatKind.f64.format = Ieee.double from rfl, this]
    simp
  have h2 : FloatKind.f64.format.order (Fl.fl n) 14109777632551763968 = some .gt := by
    have := Fl.stands_order (Fl.stands_flx n hb) Fl.stands_small
    rw [show FloatKind.f64.format = Ieee.double from rfl, this, Int.compare_eq_ite_lt, if_neg (by omega), if_pos (by omega)]
  have h3 : FloatKind.f64.format.order (Fl.fl n) 4886405595696988160 = some .lt := by
    have := Fl.stands_order (Fl.stands_flx n hb) Fl.stands_big
    rw [show FloatKind.f64.format = Ieee.double from rfl, this, Int.compare_eq_ite_lt, if_pos (by omega)]
  have h4 : (FloatKind.f64.decode (Fl.fl n)).toInt .zero = some n := Fl.toInt_flx n hb
  have h5 : ∀ W, (convert 82 3 (.float .f64 (Fl.fl n))).run Tryz.prog W = .ok (.int .i64 n) W := fun W => by
    refine run_convert_float_int W 82 3 .f64 .i64 _ n (by rw [Tryz.underlying82]; rfl) Tryz.underlying3 ?_
    unfold floatToIntVal
    rw [h4]
    refine if_pos ?_
    have e1 : IntKind.i64.min = -9223372036854775808 := by decide
    have e2 : IntKind.i64.max = 9223372036854775807 := by decide
    omega
  have HBD := Lib.hid hbd
  clear h4 hbd
  go_enter Tryz.func140, Tryz.ntmps140
  go_wp2_with (go_at_call 184; refine (trunc_anyx n hb _).mono ?_; rintro e w' ⟨rfl, rfl⟩)
  exact bodyPost_ret (v := .tuple #[.agg #[.int .i64 3, .int .i64 n, .string ⟨#[]⟩, .slice none 0 0, .slice none 0 0, .slice none 0 0], .bool true]) (by simp [results, Tryz.results140, go_sem]) rfl ⟨rfl, (Below.refl _ _).alloc (Nat.le_refl _) _⟩
theorem run_truncG (y : Nat) (hn : (Ieee.double.read y).isNaN = false) (w : World) :
    (callFunc 216 #[.float .f64 y]).run Tryz.prog w = .ok (.value (.float .f64 (Ieee.double.write ((Ieee.double.read y).integral .zero)))) w := by
  rw [run_archTrunc, toIntegral_eq, show FloatKind.f64.decode y = Ieee.double.read y from rfl]
  cases h : Ieee.double.read y with
  | nan s t => rw [h] at hn; cases hn
  | infinity s => rfl
  | number s m i => rfl
theorem trunc_gen (y t : Nat) (hn : (Ieee.double.read y).isNaN = false) (ht : t = Ieee.double.write ((Ieee.double.read y).integral .zero)) (w : World) :
    Calls Tryz.prog 184 #[.float .f64 y] w fun e w' => e = .returned (.float .f64 t) ∧ w = w' := by
  have h0 := run_truncG y hn w
  rw [← ht] at h0
  clear ht
  go_enter Tryz.func184, Tryz.ntmps184
  go_wp2_with fail
  go_ret
  exact ⟨rfl, rfl⟩
theorem half_gen (y : Nat) (hn : (Ieee.double.read y).isNaN = false) : ∃ (k h : Int) (b : Bool), (-9223372036854775808 ≤ k ∧ k ≤ 9223372036854775807) ∧ (-9223372036854775808 ≤ h ∧ h ≤ 9223372036854775807) ∧
    ∀ w, Calls Tryz.prog 140 #[.float .f64 y] w fun e w' => e = .returned (.tuple #[.agg #[.int .i64 k, .int .i64 h, .string ⟨#[]⟩, .slice none 0 0, .slice none 0 0, .slice none 0 0], .bool b]) ∧ Below w.heap.size w w' := by
  obtain ⟨t, ht⟩ : ∃ t, t = Ieee.double.write ((Ieee.double.read y).integral .zero) := ⟨_, rfl⟩
  have htn : (Ieee.double.read t).isNaN = false := by
    rw [ht]
    refine Fl.write_nn _ ?_
    cases h : Ieee.double.read y with
    | nan s t => rw [h] at hn; cases hn
    | infinity s => rfl
    | number s m i => rfl
  obtain ⟨o1, h1⟩ := Fl.order_some y t hn htn
  obtain ⟨o2, h2⟩ := Fl.order_some y 14109777632551763968 hn (by rw [Fl.read_small]; rfl)
  obtain ⟨o3, h3⟩ := Fl.order_some y 4886405595696988160 hn (by rw [Fl.read_big]; rfl)
  have HTR := Lib.hid (fun w => trunc_gen y t hn ht w)
  have hrange : o2 = .gt → o3 = .lt → ∃ n : Int, (∀ W, (convert 82 3 (.float .f64 y)).run Tryz.prog W = .ok (.int .i64 n) W) ∧ -4611686018427387904 ≤ n ∧ n ≤ 4611686018427387904 := by
    rintro rfl rfl
    obtain ⟨n, e, b1, b2⟩ := Fl.toInt_range y h2 h3
    refine ⟨n, fun W => ?_, b1, b2⟩
    refine run_convert_float_int W 82 3 .f64 .i64 _ n (by rw [Tryz.underlying82]; rfl) Tryz.underlying3 ?_
    unfold floatToIntVal
    rw [show FloatKind.f64.decode y = Ieee.double.read y from rfl, e]
    refine if_pos ?_
    have e1 : IntKind.i64.min = -9223372036854775808 := by decide
    have e2 : IntKind.i64.max = 9223372036854775807 := by decide
    omega
  have HRG := Lib.hid hrange
  rw [← show FloatKind.f64.format = Ieee.double from rfl] at h1 h2 h3
  clear ht htn hrange hn
  rcases o1 with _ | _ | _
  · refine ⟨0, 0, false, by decide, by decide, fun w => ?_⟩
    go_enter Tryz.func140, Tryz.ntmps140
    go_wp2_with (go_at_call 184; refine (HTR.out _).mono ?_; rintro e w' ⟨rfl, rfl⟩)
    exact bodyPost_ret (v := .tuple #[.agg #[.int .i64 0, .int .i64 0, .string ⟨#[]⟩, .slice none 0 0, .slice none 0 0, .slice none 0 0], .bool false]) (by simp [results, Tryz.results140, go_sem]) rfl ⟨rfl, (Below.refl _ _).alloc (Nat.le_refl _) _⟩
  · rcases o2 with _ | _ | _
    · refine ⟨0, 0, false, by decide, by decide, fun w => ?_⟩
      go_enter Tryz.func140, Tryz.ntmps140
      go_wp2_with (go_at_call 184; refine (HTR.out _).mono ?_; rintro e w' ⟨rfl, rfl⟩)
      exact bodyPost_ret (v := .tuple #[.agg #[.int .i64 0, .int .i64 0, .string ⟨#[]⟩, .slice none 0 0, .slice none 0 0, .slice none 0 0], .bool false]) (by simp [results, Tryz.results140, go_sem]) rfl ⟨rfl, (Below.refl _ _).alloc (Nat.le_refl _) _⟩
    · refine ⟨0, 0, false, by decide, by decide, fun w => ?_⟩
      go_enter Tryz.func140, Tryz.ntmps140
      go_wp2_with (go_at_call 184; refine (HTR.out _).mono ?_; rintro e w' ⟨rfl, rfl⟩)
      exact bodyPost_ret (v := .tuple #[.agg #[.int .i64 0, .int .i64 0, .string ⟨#[]⟩, .slice none 0 0, .slice none 0 0, .slice none 0 0], .bool false]) (by simp [results, Tryz.results140, go_sem]) rfl ⟨rfl, (Below.refl _ _).alloc (Nat.le_refl _) _⟩
    · rcases o3 with _ | _ | _
      · obtain ⟨n, h5, b1, b2⟩ := HRG.out rfl rfl
        have HB1 := Lib.hid (And.intro b1 b2)
        clear b1 b2
        refine ⟨3, n, true, by decide, by have := HB1.out; omega, fun w => ?_⟩
        go_enter Tryz.func140, Tryz.ntmps140
        go_wp2_with (go_at_call 184; refine (HTR.out _).mono ?_; rintro e w' ⟨rfl, rfl⟩)
        exact bodyPost_ret (v := .tuple #[.agg #[.int .i64 3, .int .i64 n, .string ⟨#[]⟩, .slice none 0 0, .slice none 0 0, .slice none 0 0], .bool true]) (by simp [results, Tryz.results140, go_sem]) rfl ⟨rfl, (Below.refl _ _).alloc (Nat.le_refl _) _⟩
      · refine ⟨0, 0, false, by decide, by decide, fun w => ?_⟩
        go_enter Tryz.func140, Tryz.ntmps140
        go_wp2_with (go_at_call 184; refine (HTR.out _).mono ?_; rintro e w' ⟨rfl, rfl⟩)
        exact bodyPost_ret (v := .tuple #[.agg #[.int .i64 0, .int .i64 0, .string ⟨#[]⟩, .slice none 0 0, .slice none 0 0, .slice none 0 0], .bool false]) (by simp [results, Tryz.results140, go_sem]) rfl ⟨rfl, (Below.refl _ _).alloc (Nat.le_refl _) _⟩
      · refine ⟨0, 0, false, by decide, by decide, fun w => ?_⟩
        go_enter Tryz.func140, Tryz.ntmps140
        go_wp2_with (go_at_call 184; refine (HTR.out _).mono ?_; rintro e w' ⟨rfl, rfl⟩)
        exact bodyPost_ret (v := .tuple #[.agg #[.int .i64 0, .int .i64 0, .string ⟨#[]⟩, .slice none 0 0, .slice none 0 0, .slice none 0 0], .bool false]) (by simp [results, Tryz.results140, go_sem]) rfl ⟨rfl, (Below.refl _ _).alloc (Nat.le_refl _) _⟩
  · refine ⟨0, 0, false, by decide, by decide, fun w => ?_⟩
    go_enter Tryz.func140, Tryz.ntmps140
    go_wp2_with (go_at_call 184; refine (HTR.out _).mono ?_; rintro e w' ⟨rfl, rfl⟩)
    exact bodyPost_ret (v := .tuple #[.agg #[.int .i64 0, .int .i64 0, .string ⟨#[]⟩, .slice none 0 0, .slice none 0 0, .slice none 0 0], .bool false]) (by simp [results, Tryz.results140, go_sem]) rfl ⟨rfl, (Below.refl _ _).alloc (Nat.le_refl _) _⟩
/-- impl.fromGo of a float, by what impl.half gives of twice it. -/
theorem fromGo_float (x y : Nat) (k h : Int) (b : Bool) (w : World) (hmul : Ieee.double.mul 4611686018427387904 x = some y)
    (hh : ∀ W, Calls Tryz.prog 140 #[.float .f64 y] W fun e W' => e = .returned (.tuple #[.agg #[.int .i64 k, .int .i64 h, .string ⟨#[]⟩, .slice none 0 0, .slice none 0 0, .slice none 0 0], .bool b]) ∧ Below W.heap.size W W') :
    Calls Tryz.prog 93 #[.iface 82 (.float .f64 x)] w fun e w' => e = .returned (.tuple #[.agg #[.int .i64 k, .int .i64 h, .string ⟨#[]⟩, .slice none 0 0, .slice none 0 0, .slice none 0 0], .bool b]) ∧ Below w.heap.size w w' := by
  have hbl : ∀ o, Below w.heap.size w (w.alloc o) := fun o => (Below.refl _ _).alloc (Nat.le_refl _) _
  have hmul' : ∀ W, (binOp .mul 82 (.float .f64 4611686018427387904) (.float .f64 x)).run Tryz.prog W = .ok (.float .f64 y) W := fun W =>
    run_float_arith W .mul 82 .f64 _ _ _ hmul
  have HH := Lib.hid hh
  have HBL := Lib.hid hbl
  clear hmul hh hbl
  go_enter Tryz.func93, Tryz.ntmps93
  go_wp2_with fail
  refine (HH.out _).mono ?_
  rintro e w' ⟨rfl, hbw⟩
  have hr' : w'.heap[w.heap.size]? = some (.cells #[.int .i64 0, .int .i64 0, .string ⟨#[]⟩, .slice none 0 0, .slice none 0 0, .slice none 0 0] 26) := (hbw.block _ (by simp)).trans (heap_alloc_new w _)
  have y0 : w'.cell? ⟨w.heap.size, 0, none⟩ = some (.int .i64 0) := by simp [World.cell?, hr']
  have y1 : w'.cell? ⟨w.heap.size, 1, none⟩ = some (.int .i64 0) := by simp [World.cell?, hr']
  have y2 : w'.cell? ⟨w.heap.size, 2, none⟩ = some (.string ⟨#[]⟩) := by simp [World.cell?, hr']
  have y3 : w'.cell? ⟨w.heap.size, 3, none⟩ = some (.slice none 0 0) := by simp [World.cell?, hr']
  have y4 : w'.cell? ⟨w.heap.size, 4, none⟩ = some (.slice none 0 0) := by simp [World.cell?, hr']
  have y5 : w'.cell? ⟨w.heap.size, 5, none⟩ = some (.slice none 0 0) := by simp [World.cell?, hr']
  have yf : ∀ i, w'.frozen? ⟨w.heap.size, i, none⟩ = false := fun i => by simp [World.frozen?, hr']
  have HBW := Lib.hid (below_trans (HBL.out _) hbw)
  clear hr' hbw
  go_wp2_with fail
  refine bodyPost_ret (v := .tuple #[.agg #[.int .i64 k, .int .i64 h, .string ⟨#[]⟩, .slice none 0 0, .slice none 0 0, .slice none 0 0], .bool b]) (by simp [results, Tryz.results93, go_sem, y0, y1, y2, y3, y4, y5]) rfl ?_
  refine ⟨rfl, ?_⟩
  exact ((((((HBW.out.setCell (Nat.le_refl _) _).setCell (Nat.le_refl _) _).setCell (Nat.le_refl _) _).setCell (Nat.le_refl _) _).setCell (Nat.le_refl _) _).setCell (Nat.le_refl _) _)
/-- impl.result of a float, by what impl.fromGo gives. -/
theorem result_float (x : Nat) (k h : Int) (b : Bool) (w : World) (hk : -9223372036854775808 ≤ k ∧ k ≤ 9223372036854775807) (hh : -9223372036854775808 ≤ h ∧ h ≤ 9223372036854775807)
    (hf : ∀ W, Calls Tryz.prog 93 #[.iface 82 (.float .f64 x)] W fun e W' => e = .returned (.tuple #[.agg #[.int .i64 k, .int .i64 h, .string ⟨#[]⟩, .slice none 0 0, .slice none 0 0, .slice none 0 0], .bool b]) ∧ Below W.heap.size W W') :
    Calls Tryz.prog 48 #[.iface 82 (.float .f64 x)] w (ResPost (fun v c => b = true → v = V.mk k h ⟨#[]⟩ [] [] [] ∧ c = 0) w) := by
  have HF := Lib.hid hf
  have HKK := Lib.hid hk
  have HHH := Lib.hid hh
  clear hf hk hh
  go_enter Tryz.func48, Tryz.ntmps48
  go_wp2_with fail
  refine (HF.out _).mono ?_
  rintro e' w' ⟨rfl, hbw⟩
  have hr' : w'.heap[w.heap.size]? = some (.cells #[.int .i64 0, .int .i64 0, .string ⟨#[]⟩, .slice none 0 0, .slice none 0 0, .slice none 0 0, .int .i64 0] 34) := (hbw.block _ (by simp)).trans (heap_alloc_new w _)
  have y0 : w'.cell? ⟨w.heap.size, 0, none⟩ = some (.int .i64 0) := by simp [World.cell?, hr']
  have y1 : w'.cell? ⟨w.heap.size, 1, none⟩ = some (.int .i64 0) := by simp [World.cell?, hr']
  have y2 : w'.cell? ⟨w.heap.size, 2, none⟩ = some (.string ⟨#[]⟩) := by simp [World.cell?, hr']
  have y3 : w'.cell? ⟨w.heap.size, 3, none⟩ = some (.slice none 0 0) := by simp [World.cell?, hr']
  have y4 : w'.cell? ⟨w.heap.size, 4, none⟩ = some (.slice none 0 0) := by simp [World.cell?, hr']
  have y5 : w'.cell? ⟨w.heap.size, 5, none⟩ = some (.slice none 0 0) := by simp [World.cell?, hr']
  have y6 : w'.cell? ⟨w.heap.size, 6, none⟩ = some (.int .i64 0) := by simp [World.cell?, hr']
  have yf : ∀ i, w'.frozen? ⟨w.heap.size, i, none⟩ = false := fun i => by simp [World.frozen?, hr']
  have hlt' : w.heap.size < w'.heap.size := heap_lt hr'
  have HBW := Lib.hid (below_trans ((Below.refl w.heap.size w).alloc (Nat.le_refl _) _) hbw)
  clear hr' hbw
  cases b
  · go_wp2_with fail
    refine bodyPost_ret (v := .agg #[.int .i64 0, .int .i64 0, .string ⟨#[]⟩, .slice none 0 0, .slice none 0 0, .slice none 0 0, .int .i64 3]) (by simp [results, Tryz.results48, go_sem, hlt', y0, y1, y2, y3, y4, y5, y6]) rfl ?_
    refine ⟨zeroV0, [.int .i64 0, .int .i64 0, .string ⟨#[]⟩, .slice none 0 0, .slice none 0 0, .slice none 0 0], 3, rfl, vr_plain' 0 0 (by decide) (by decide), (by first | trivial | (intro h; cases h)), ?_⟩
    refine Below.alloc ?_ (by simp; omega) _
    exact ((((((HBW.out.setCell (Nat.le_refl _) _).setCell (Nat.le_refl _) _).setCell (Nat.le_refl _) _).setCell (Nat.le_refl _) _).setCell (Nat.le_refl _) _).setCell (Nat.le_refl _) _).setCell (Nat.le_refl _) _
  · go_wp2_with fail
    refine bodyPost_ret (v := .agg #[.int .i64 k, .int .i64 h, .string ⟨#[]⟩, .slice none 0 0, .slice none 0 0, .slice none 0 0, .int .i64 0]) (by simp [results, Tryz.results48, go_sem, hlt', y0, y1, y2, y3, y4, y5, y6]) rfl ?_
    refine ⟨V.mk k h ⟨#[]⟩ [] [] [], [.int .i64 k, .int .i64 h, .string ⟨#[]⟩, .slice none 0 0, .slice none 0 0, .slice none 0 0], 0, rfl, vr_plain' k h HKK.out HHH.out, (by first | exact ⟨rfl, rfl⟩ | (intro _; exact ⟨rfl, rfl⟩)), ?_⟩
    refine Below.alloc ?_ (by simp; omega) _
    exact ((((((HBW.out.setCell (Nat.le_refl _) _).setCell (Nat.le_refl _) _).setCell (Nat.le_refl _) _).setCell (Nat.le_refl _) _).setCell (Nat.le_refl _) _).setCell (Nat.le_refl _) _).setCell (Nat.le_refl _) _
theorem result_hw (q : Int) (hq : Fl.Hb q) (w : World) : Calls Tryz.prog 48 #[.iface 82 (.float .f64 (Fl.hw q))] w (ResPost (fun v c => v = V.mk 3 q ⟨#[]⟩ [] [] [] ∧ c = 0) w) :=
  (result_float (Fl.hw q) 3 q true w (by decide) (by have := hq.1; omega) (fun W => fromGo_float _ _ 3 q true W (Fl.two_mulx q hq) (fun W => half_anyx q hq W))).mono fun e w' h => resPost_mono h fun v c h => h rfl
theorem result_nn (x : Nat) (hn : (Ieee.double.read x).isNaN = false) (w : World) : Calls Tryz.prog 48 #[.iface 82 (.float .f64 x)] w (ResPost (fun _ _ => True) w) := by
  obtain ⟨y, hy, hyn⟩ := Fl.mul_some x hn
  obtain ⟨k, h, b, hk, hh, hc⟩ := half_gen y hyn
  exact (result_float x k h b w hk hh (fun W => fromGo_float x y k h b W hy hc)).mono fun e w' h => resPost_mono h fun v c _ => trivial
/-! ### laws.told, of a result in its general form. -/
/-- What the reference says (a value and how it ended), against a result. -/
def ToldOK (v : V) (c : Int) (d : V) (code : Int) : Prop := code = 2 ∨ (code = 1 ∧ c = 1) ∨ (code = 0 ∧ c = 0 ∧ WF v ∧ WF d ∧ cmpV v d = 0)
theorem told_silent (a0 a1 a2 a3 a4 a5 : Value) (c : Int) (ds : List Value) (b : V) (ok : Nat → Prop) (w : World) (hb : Vr w ok b ds) :
    Calls Tryz.prog 13 #[.agg #[a0, a1, a2, a3, a4, a5, .int .i64 c], .agg ds.toArray, .int .i64 2] w fun e w' => e = .returned (.bool true) ∧ Below w.heap.size w w' := by
  obtain ⟨dk, dh, dt, dl, dks, dvs, D1, p1, D2, p2, D3, p3, df, dg, dht, dh1, dh2, dh3, db1, db2, db3, dhk, dhh, dhs, dr1, de1, dr2, dr3, de3⟩ := hb
  go_enter Tryz.func13, Tryz.ntmps13
  go_wp2_with fail
  go_ret
  exact ⟨rfl, ((Below.refl _ _).alloc (Nat.le_refl _) _).alloc (by simp) _⟩
theorem told_raisesG (a0 a1 a2 a3 a4 a5 : Value) (ds : List Value) (b : V) (ok : Nat → Prop) (w : World) (hb : Vr w ok b ds) :
    Calls Tryz.prog 13 #[.agg #[a0, a1, a2, a3, a4, a5, .int .i64 1], .agg ds.toArray, .int .i64 1] w fun e w' => e = .returned (.bool true) ∧ Below w.heap.size w w' := by
  obtain ⟨dk, dh, dt, dl, dks, dvs, D1, p1, D2, p2, D3, p3, df, dg, dht, dh1, dh2, dh3, db1, db2, db3, dhk, dhh, dhs, dr1, de1, dr2, dr3, de3⟩ := hb
  go_enter Tryz.func13, Tryz.ntmps13
  go_wp2_with fail
  go_ret
  exact ⟨rfl, ((Below.refl _ _).alloc (Nat.le_refl _) _).alloc (by simp) _⟩
theorem told_any (v d : V) (c code : Int) (ok : Nat → Prop) (a0 a1 : Int) (s : ByteArray) (S3 S4 S5 : Option Addr) (n3 m3 n4 m4 n5 m5 : Nat) (ds : List Value) (w : World)
    (hv : Vr w ok v [.int .i64 a0, .int .i64 a1, .string s, .slice S3 n3 m3, .slice S4 n4 m4, .slice S5 n5 m5]) (hd : Vr w ok d ds) (h : ToldOK v c d code) :
    Calls Tryz.prog 13 #[.agg #[.int .i64 a0, .int .i64 a1, .string s, .slice S3 n3 m3, .slice S4 n4 m4, .slice S5 n5 m5, .int .i64 c], .agg ds.toArray, .int .i64 code] w fun e w' => e = .returned (.bool true) ∧ Below w.heap.size w w' := by
  rcases h with rfl | ⟨rfl, rfl⟩ | ⟨rfl, rfl, wv, wd, hc⟩
  · exact told_silent _ _ _ _ _ _ c ds d ok w hd
  · exact told_raisesG _ _ _ _ _ _ ds d ok w hd
  · exact told_fine v d ok [.int .i64 a0, .int .i64 a1, .string s, .slice S3 n3 m3, .slice S4 n4 m4, .slice S5 n5 m5] ds w wv wd hv hd hc
end Go.Proofs.YtpamlgdcnmcedaaGreatDoor
