import Derived.Test.YtpamlgdcnmcedaaGreatDoorB
set_option maxRecDepth 100000
namespace Go.Proofs.YtpamlgdcnmcedaaGreatDoor
open Go
theorem run_archTrunc (x : Nat) (w : World) : (callFunc 216 #[.float .f64 x]).run Tryz.prog w = ((Extern.MathFloor.toIntegral "math.archTrunc" .zero #[.float .f64 x]).run Tryz.prog w).andThen (fun v w' => .ok (.value v) w') :=
  run_callFunc_extern Tryz.func216 (by kernel_rfl) (by kernel_rfl) (by kernel_rfl) (by kernel_rfl) _ w
def truncOf (x : Nat) (d : Ieee.Datum) : Sem Value :=
  match d with
    | .nan s t =>
      if FloatKind.f64.format.quiet t = t then pure (.float .f64 x) else do
      let kept ← choose (.extern "math.Floor,Ceil,Trunc,RoundToEven.signallingNaN kept" 2)
      pure (.float .f64 (if kept == 1 then x else FloatKind.f64.encode (.nan s (FloatKind.f64.format.quiet t))))          
    | d => pure (.float .f64 (FloatKind.f64.encode (d.integral .zero)))  
theorem toIntegral_eq (x : Nat) : Extern.MathFloor.toIntegral "math.archTrunc" .zero #[.float .f64 x] = truncOf x (FloatKind.f64.decode x) := rfl
theorem run_trunc (x : Nat) (s : Bool) (m : Nat) (i : Int) (w : World) (h : Ieee.double.read x = .number s m i) :
   (callFunc 216 #[.float .f64 x]).run Tryz.prog w = .ok (.value (.float .f64 (Ieee.double.write ((Ieee.double.read x).integral .zero)))) w := by
  rw [run_archTrunc, toIntegral_eq, show FloatKind.f64.decode x = .number s m i from h, h]
  rfl
end Go.Proofs.YtpamlgdcnmcedaaGreatDoor
namespace Go.Proofs.YtpamlgdcnmcedaaGreatDoor
open Go Go.RowKit
theorem order_self (n : Int) (hb : n.natAbs < 2 ^ 53) : FloatKind.f64.format.order (Fl.fl n) (Fl.fl n) = some .eq := by
  have := Fl.stands_order (Fl.stands_fl n hb) (Fl.stands_fl n hb)
  rw [show FloatKind.f64.format = Ieee.double from rfl, this]
  simp
theorem read_number (n : Int) (hb : n.natAbs < 2 ^ 53) : ∃ s m i, Ieee.double.read (Fl.fl n) = .number s m i := by
  obtain ⟨s, m, i, h, _⟩ := Fl.stands_fl n hb
  exact ⟨s, m, i, h⟩
theorem isNaN_any (x : Nat) (w : World) (h : FloatKind.f64.format.order x x = some .eq) :
    Calls Tryz.prog 188 #[.float .f64 x] w fun e w' => e = .returned (.bool false) ∧ w = w' := by
  go_enter Tryz.func188, Tryz.ntmps188
  go_wp2_with fail
  go_ret
  exact ⟨rfl, rfl⟩
theorem lt_no (x y : Nat) (w : World) (h : FloatKind.f64.format.order x x = some .eq) (h2 : (FloatKind.f64.format.order x y == some .lt) = false) :
    Calls Tryz.prog 145 #[.float .f64 x, .float .f64 y] w fun e w' => e = .returned (.bool false) ∧ w = w' := by
  go_enter Tryz.func145, Tryz.ntmps145
  go_wp2_with (go_at_call 188; refine (isNaN_any _ _ h).mono ?_; rintro e w' ⟨rfl, rfl⟩)
  go_ret
  exact ⟨rfl, rfl⟩
theorem toFloat_int (n : Int) (w : World) :
    Calls Tryz.prog 144 #[.iface 3 (.int .i64 n)] w fun e w' => e = .returned (.tuple #[.float .f64 (Fl.fl n), .bool true]) ∧ w = w' := by
  go_enter Tryz.func144, Tryz.ntmps144
  go_wp2_with fail
  go_ret2
  exact ⟨rfl, rfl⟩
theorem trunc_any (n : Int) (hb : n.natAbs < 2 ^ 53) (w : World) :
    Calls Tryz.prog 184 #[.float .f64 (Fl.fl n)] w fun e w' => e = .returned (.float .f64 (Fl.fl n)) ∧ w = w' := by
  obtain ⟨s, m, i, hr⟩ := read_number n hb
  have h0 := run_trunc (Fl.fl n) s m i w hr
  rw [Fl.trunc_fl n hb] at h0
  go_enter Tryz.func184, Tryz.ntmps184
  go_wp2_with fail
  go_ret
  exact ⟨rfl, rfl⟩
theorem half_any (n : Int) (hb : n.natAbs < 2 ^ 53) (w : World) :
    Calls Tryz.prog 140 #[.float .f64 (Fl.fl n)] w fun e w' => e = .returned (.tuple #[.agg #[.int .i64 3, .int .i64 n, .string ⟨#[]⟩, .slice none 0 0, .slice none 0 0, .slice none 0 0], .bool true]) ∧ Below w.heap.size w w' := by
  have h1 := order_self n hb
  have h2 : FloatKind.f64.format.order (Fl.fl n) 14109777632551763968 = some .gt := by
    have := Fl.stands_order (Fl.stands_fl n hb) Fl.stands_small
    rw [show FloatKind.f64.format = Ieee.double from rfl, this, Int.compare_eq_ite_lt, if_neg (by omega), if_pos (by omega)]
  have h3 : FloatKind.f64.format.order (Fl.fl n) 4886405595696988160 = some .lt := by
    have := Fl.stands_order (Fl.stands_fl n hb) Fl.stands_big
    rw [show FloatKind.f64.format = Ieee.double from rfl, this, Int.compare_eq_ite_lt, if_pos (by omega)]
  have h4 : (FloatKind.f64.decode (Fl.fl n)).toInt .zero = some n := Fl.toInt_fl n hb
  have h5 : ∀ W, (convert 82 3 (.float .f64 (Fl.fl n))).run Tryz.prog W = .ok (.int .i64 n) W := fun W => by
    refine run_convert_float_int W 82 3 .f64 .i64 _ n (by rw [Tryz.underlying82]; rfl) Tryz.underlying3 ?_
    unfold floatToIntVal
    rw [h4]
    refine if_pos ?_
    have e1 : IntKind.i64.min = -9223372036854775808 := by decide
    have e2 : IntKind.i64.max = 9223372036854775807 := by decide
    omega
  clear h4
  go_enter Tryz.func140, Tryz.ntmps140
  go_wp2_with (go_at_call 184; refine (trunc_any n hb _).mono ?_; rintro e w' ⟨rfl, rfl⟩)
  exact bodyPost_ret (v := .tuple #[.agg #[.int .i64 3, .int .i64 n, .string ⟨#[]⟩, .slice none 0 0, .slice none 0 0, .slice none 0 0], .bool true]) (by simp [results, Tryz.results140, go_sem]) rfl ⟨rfl, (Below.refl _ _).alloc (Nat.le_refl _) _⟩
end Go.Proofs.YtpamlgdcnmcedaaGreatDoor
