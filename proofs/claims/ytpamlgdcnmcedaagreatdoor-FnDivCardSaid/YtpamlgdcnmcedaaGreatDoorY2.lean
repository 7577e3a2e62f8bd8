/- gojq.binopTypeSwitch[any]: which closure is called. -/
import Derived.Test.YtpamlgdcnmcedaaGreatDoorF3
set_option linter.unusedVariables false
set_option linter.unusedSimpArgs false
set_option maxRecDepth 100000
namespace Go.Proofs.YtpamlgdcnmcedaaGreatDoor
open Go Go.RowKit
def GivesI (R : Value → World → Prop) (e : Ending) (w' : World) : Prop := ∃ t x, e = .returned (.iface t x) ∧ R (.iface t x) w'
theorem switch_ints (l r : Int) (f3 f4 f5 f6 f7 f8 : Value) (w : World) (R : Value → World → Prop) (H : Calls Tryz.prog 150 #[.int .i64 l, .int .i64 r] w (GivesI R)) :
    Calls Tryz.prog 149 #[.iface 3 (.int .i64 l), .iface 3 (.int .i64 r), .func (.func 150) #[] #[], f3, f4, f5, f6, f7, f8] w (GivesI R) := by
  have HH := Lib.hid H
  clear H
  go_enter Tryz.func149, Tryz.ntmps149
  go_wp2_with fail
  refine HH.out.mono ?_
  rintro e' w' ⟨t, x, rfl, hr⟩
  have HR := Lib.hid hr
  clear hr
  go_wp2_with fail
  go_ret
  exact ⟨t, x, rfl, HR.out⟩
theorem switch_floats (x y : Nat) (f2 f4 f5 f6 f7 f8 : Value) (w : World) (R : Value → World → Prop) (H : Calls Tryz.prog 152 #[.float .f64 x, .float .f64 y] w (GivesI R)) :
    Calls Tryz.prog 149 #[.iface 82 (.float .f64 x), .iface 82 (.float .f64 y), f2, .func (.func 152) #[] #[], f4, f5, f6, f7, f8] w (GivesI R) := by
  have HH := Lib.hid H
  clear H
  go_enter Tryz.func149, Tryz.ntmps149
  go_wp2_with fail
  refine HH.out.mono ?_
  rintro e' w' ⟨t, x, rfl, hr⟩
  have HR := Lib.hid hr
  clear hr
  go_wp2_with fail
  go_ret
  exact ⟨t, x, rfl, HR.out⟩
theorem switch_intFloat (l : Int) (y : Nat) (f2 f4 f5 f6 f7 f8 : Value) (w : World) (R : Value → World → Prop) (H : Calls Tryz.prog 152 #[.float .f64 (Fl.fl l), .float .f64 y] w (GivesI R)) :
    Calls Tryz.prog 149 #[.iface 3 (.int .i64 l), .iface 82 (.float .f64 y), f2, .func (.func 152) #[] #[], f4, f5, f6, f7, f8] w (GivesI R) := by
  have HH := Lib.hid H
  clear H
  go_enter Tryz.func149, Tryz.ntmps149
  go_wp2_with fail
  refine HH.out.mono ?_
  rintro e' w' ⟨t, x, rfl, hr⟩
  have HR := Lib.hid hr
  clear hr
  go_wp2_with fail
  go_ret
  exact ⟨t, x, rfl, HR.out⟩
theorem switch_floatInt (y : Nat) (r : Int) (f2 f4 f5 f6 f7 f8 : Value) (w : World) (R : Value → World → Prop) (H : Calls Tryz.prog 152 #[.float .f64 y, .float .f64 (Fl.fl r)] w (GivesI R)) :
    Calls Tryz.prog 149 #[.iface 82 (.float .f64 y), .iface 3 (.int .i64 r), f2, .func (.func 152) #[] #[], f4, f5, f6, f7, f8] w (GivesI R) := by
  have HH := Lib.hid H
  clear H
  go_enter Tryz.func149, Tryz.ntmps149
  go_wp2_with fail
  refine HH.out.mono ?_
  rintro e' w' ⟨t, x, rfl, hr⟩
  have HR := Lib.hid hr
  clear hr
  go_wp2_with fail
  go_ret
  exact ⟨t, x, rfl, HR.out⟩
end Go.Proofs.YtpamlgdcnmcedaaGreatDoor
