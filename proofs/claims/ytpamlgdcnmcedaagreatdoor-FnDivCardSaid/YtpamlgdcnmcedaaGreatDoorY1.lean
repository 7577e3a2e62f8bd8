/- gojq.funcOpDiv's closures over integers and floats; negate. -/
import Derived.Test.YtpamlgdcnmcedaaGreatDoorF3
import Derived.Test.YtpamlgdcnmcedaaGreatDoorDv
set_option linter.unusedVariables false
set_option linter.unusedSimpArgs false
set_option maxRecDepth 100000
namespace Go.Proofs.YtpamlgdcnmcedaaGreatDoor
open Go Go.RowKit
theorem negate_any (v : Int) (h : -9007199254740992 ≤ v ∧ v ≤ 9007199254740992) (w : World) : Calls Tryz.prog 151 #[.int .i64 v] w fun e w' => e = .returned (.iface 3 (.int .i64 (-v))) ∧ w' = w := by
  have h1 : ¬ v = -9223372036854775808 := by omega
  go_enter Tryz.func151, Tryz.ntmps151
  go_wp2_with fail
  go_ret
  exact ⟨rfl, rfl⟩
/-- Division by 0. -/
theorem divInts_zero (l : Int) (w : World) : Calls Tryz.prog 150 #[.int .i64 l, .int .i64 0] w fun e w' => (∃ v, e = .returned (.iface 144 v)) ∧ Below w.heap.size w w' := by
  go_enter Tryz.func150, Tryz.ntmps150
  go_wp2_with fail
  go_ret
  exact ⟨⟨_, rfl⟩, (Below.refl _ _).alloc (Nat.le_refl _) _⟩
theorem divInts_neg (l : Int) (h : -9007199254740992 ≤ l ∧ l ≤ 9007199254740992) (w : World) : Calls Tryz.prog 150 #[.int .i64 l, .int .i64 (-1)] w fun e w' => e = .returned (.iface 3 (.int .i64 (-l))) ∧ w' = w := by
  go_enter Tryz.func150, Tryz.ntmps150
  go_wp2_with fail
  refine (negate_any l h w).mono ?_
  rintro e' w' ⟨rfl, rfl⟩
  go_wp2_with fail
  go_ret
  exact ⟨rfl, rfl⟩
theorem divInts_whole (l r : Int) (hl : -9007199254740992 ≤ l ∧ l ≤ 9007199254740992) (hr : -9007199254740992 ≤ r ∧ r ≤ 9007199254740992) (h0 : ¬ r = 0) (h1 : ¬ r = -1) (hm : l.tmod r = 0) (w : World) :
    Calls Tryz.prog 150 #[.int .i64 l, .int .i64 r] w fun e w' => e = .returned (.iface 3 (.int .i64 (l.tdiv r))) ∧ w' = w := by
  have hb : -9007199254740992 ≤ l.tdiv r ∧ l.tdiv r ≤ 9007199254740992 := by
    have := Int.natAbs_tdiv_le_natAbs l r
    omega
  have hw : IntKind.i64.wrap (l.tdiv r) = l.tdiv r := by rw [IntKind.wrap_i64]; omega
  go_enter Tryz.func150, Tryz.ntmps150
  go_wp2_with fail
  go_ret
  exact ⟨rfl, rfl⟩
theorem divInts_float (l r : Int) (hl : -9007199254740992 ≤ l ∧ l ≤ 9007199254740992) (hr : -9007199254740992 ≤ r ∧ r ≤ 9007199254740992) (h0 : ¬ r = 0) (h1 : ¬ r = -1) (hm : ¬ l.tmod r = 0) (q : Nat) (hq : Ieee.double.div (Fl.fl l) (Fl.fl r) = some q) (w : World) :
    Calls Tryz.prog 150 #[.int .i64 l, .int .i64 r] w fun e w' => e = .returned (.iface 82 (.float .f64 q)) ∧ w' = w := by
  have hdiv : ∀ W, (binOp .quo 82 (.float .f64 (Fl.fl l)) (.float .f64 (Fl.fl r))).run Tryz.prog W = .ok (.float .f64 q) W := fun W => run_float_arith W .quo 82 .f64 _ _ _ hq
  have hdiv' : ∀ W, (binOp .quo 82 (.float .f64 (floatOfInt .f64 l)) (.float .f64 (floatOfInt .f64 r))).run Tryz.prog W = .ok (.float .f64 q) W := hdiv
  go_enter Tryz.func150, Tryz.ntmps150
  go_wp2_with fail
  go_ret
  exact ⟨rfl, rfl⟩
theorem divFloats_zero (x : Nat) (w : World) : Calls Tryz.prog 152 #[.float .f64 x, .float .f64 0] w fun e w' => (∃ v, e = .returned (.iface 144 v)) ∧ Below w.heap.size w w' := by
  go_enter Tryz.func152, Tryz.ntmps152
  go_wp2_with fail
  go_ret
  exact ⟨⟨_, rfl⟩, (Below.refl _ _).alloc (Nat.le_refl _) _⟩
theorem divFloats (x y q : Nat) (h0 : (FloatKind.f64.format.order y 0 == some .eq) = false) (hq : Ieee.double.div x y = some q) (w : World) : Calls Tryz.prog 152 #[.float .f64 x, .float .f64 y] w fun e w' => e = .returned (.iface 82 (.float .f64 q)) ∧ w' = w := by
  have hdiv : ∀ W, (binOp .quo 82 (.float .f64 x) (.float .f64 y)).run Tryz.prog W = .ok (.float .f64 q) W := fun W => run_float_arith W .quo 82 .f64 _ _ _ hq
  go_enter Tryz.func152, Tryz.ntmps152
  go_wp2_with fail
  go_ret
  exact ⟨rfl, rfl⟩
end Go.Proofs.YtpamlgdcnmcedaaGreatDoor
