/- gojq.Compare's parts: cmp.Compare, the floats, the types. -/
import Derived.Test.YtpamlgdcnmcedaaGreatDoorN1
import Derived.Test.YtpamlgdcnmcedaaGreatDoorC1
import Derived.Test.YtpamlgdcnmcedaaGreatDoorDw
set_option linter.unusedVariables false
set_option linter.unusedSimpArgs false
set_option maxRecDepth 100000
namespace Go.Proofs.YtpamlgdcnmcedaaGreatDoor
open Go Go.RowKit
theorem isNaNInt_any (x : Int) (w : World) : Calls Tryz.prog 260 #[.int .i64 x] w fun e w' => e = .returned (.bool false) ∧ w' = w := by
  go_enter Tryz.func260, Tryz.ntmps260
  go_wp2_with fail
  go_ret
  exact ⟨rfl, rfl⟩
theorem cmpInt_any (x y : Int) (w : World) : Calls Tryz.prog 223 #[.int .i64 x, .int .i64 y] w fun e w' => e = .returned (.int .i64 (sgn (x - y))) ∧ w' = w := by
  by_cases h1 : x < y
  · have hs : sgn (x - y) = -1 := by unfold sgn; rw [if_pos (by omega)]
    rw [hs]
    go_enter Tryz.func223, Tryz.ntmps223
    go_wp2_with (go_at_call 260; refine (isNaNInt_any _ _).mono ?_; rintro e' w' ⟨rfl, rfl⟩)
    go_ret
    exact ⟨rfl, rfl⟩
  · by_cases h2 : y < x
    · have hs : sgn (x - y) = 1 := by unfold sgn; rw [if_neg (by omega), if_pos (by omega)]
      rw [hs]
      have h2' : x > y := h2
      clear hs
      go_enter Tryz.func223, Tryz.ntmps223
      go_wp2_with (go_at_call 260; refine (isNaNInt_any _ _).mono ?_; rintro e' w' ⟨rfl, rfl⟩)
      go_ret
      exact ⟨rfl, rfl⟩
    · have hs : sgn (x - y) = 0 := by unfold sgn; rw [if_neg (by omega), if_neg (by omega)]
      rw [hs]
      have h2' : ¬ x > y := h2
      clear hs
      go_enter Tryz.func223, Tryz.ntmps223
      go_wp2_with (go_at_call 260; refine (isNaNInt_any _ _).mono ?_; rintro e' w' ⟨rfl, rfl⟩)
      go_ret
      exact ⟨rfl, rfl⟩
theorem isNaNStr_any (x : ByteArray) (w : World) : Calls Tryz.prog 262 #[.string x] w fun e w' => e = .returned (.bool false) ∧ w' = w := by
  go_enter Tryz.func262, Tryz.ntmps262
  go_wp2_with fail
  go_ret
  exact ⟨rfl, rfl⟩
theorem cmpStr_any (x y : ByteArray) (w : World) : Calls Tryz.prog 226 #[.string x, .string y] w fun e w' => e = .returned (.int .i64 (textsC x y)) ∧ w' = w := by
  by_cases h1 : bl x y = true
  · have h1' : Op.bytesLess x.toList y.toList = true := h1
    have hs : textsC x y = -1 := by simp [textsC, h1]
    rw [hs]
    clear hs
    go_enter Tryz.func226, Tryz.ntmps226
    go_wp2_with (go_at_call 262; refine (isNaNStr_any _ _).mono ?_; rintro e' w' ⟨rfl, rfl⟩)
    go_ret
    exact ⟨rfl, rfl⟩
  · have h1' : Op.bytesLess x.toList y.toList = false := by simpa [bl] using h1
    by_cases h2 : (x.toList == y.toList) = true
    · have h3 : x = y := by
        have e := eq_of_beq h2
        cases x; cases y
        simp [ByteArray.toList_eq] at e ⊢
        exact e
      subst h3
      have hs : textsC x x = 0 := by simp only [textsC, h1, h2, if_true]; rfl
      rw [hs]
      clear hs
      go_enter Tryz.func226, Tryz.ntmps226
      go_wp2_with (go_at_call 262; refine (isNaNStr_any _ _).mono ?_; rintro e' w' ⟨rfl, rfl⟩)
      go_ret
      exact ⟨rfl, rfl⟩
    · have hs : textsC x y = 1 := by simp only [textsC, h1, if_neg h2]; rfl
      rw [hs]
      clear hs
      have h3 : Op.bytesLess y.toList x.toList = true := by
        have e1 : ¬ x.toList < y.toList := by rw [bl_lt, decide_eq_true_eq] at h1; exact h1
        have e2 : ¬ x.toList = y.toList := by simpa using h2
        have e3 : bl y x = true := by
          rw [bl_lt, decide_eq_true_eq]
          rcases Classical.em (y.toList < x.toList) with h | h
          · exact h
          · exact absurd (List.le_antisymm (List.not_lt.1 h) (List.not_lt.1 e1)) e2
        exact e3
      go_enter Tryz.func226, Tryz.ntmps226
      go_wp2_with (go_at_call 262; refine (isNaNStr_any _ _).mono ?_; rintro e' w' ⟨rfl, rfl⟩)
      go_ret
      exact ⟨rfl, rfl⟩
theorem lt_yes (x y : Nat) (w : World) (h : FloatKind.f64.format.order x y = some .lt) :
    Calls Tryz.prog 145 #[.float .f64 x, .float .f64 y] w fun e w' => e = .returned (.bool true) ∧ w = w' := by
  go_enter Tryz.func145, Tryz.ntmps145
  go_wp2_with fail
  go_ret
  exact ⟨rfl, rfl⟩
theorem cmpFl_any (a b : Int) (ha : Fl.Hb a) (hb : Fl.Hb b) (w : World) : Calls Tryz.prog 224 #[.float .f64 (Fl.hw a), .float .f64 (Fl.hw b)] w fun e w' => e = .returned (.int .i64 (sgn (a - b))) ∧ w' = w := by
  have ho : FloatKind.f64.format.order (Fl.hw a) (Fl.hw b) = some (compare a b) := Fl.stands_order (Fl.stands_hwx a ha) (Fl.stands_hwx b hb)
  have hs : FloatKind.f64.format.order (Fl.hw a) (Fl.hw a) = some .eq := by
    have := Fl.stands_order (Fl.stands_hwx a ha) (Fl.stands_hwx a ha)
    rw [show compare a a = .eq by simp [compare, compareOfLessAndEq]] at this
    exact this
  by_cases h1 : a < b
  · rw [show compare a b = .lt by simp [compare, compareOfLessAndEq, h1]] at ho
    rw [show sgn (a - b) = -1 by unfold sgn; rw [if_pos (by omega)]]
    clear hs
    go_enter Tryz.func224, Tryz.ntmps224
    go_wp2_with (go_at_call 145; refine (lt_yes _ _ _ ho).mono ?_; rintro e' w' ⟨rfl, rfl⟩)
    go_ret
    exact ⟨rfl, rfl⟩
  · have hnl : (FloatKind.f64.format.order (Fl.hw a) (Fl.hw b) == some .lt) = false := by
      rw [ho]
      by_cases h2 : a = b
      · simp [compare, compareOfLessAndEq, h1, h2]
      · simp [compare, compareOfLessAndEq, h1, h2]
    by_cases h2 : a = b
    · subst h2
      rw [show sgn (a - a) = 0 by unfold sgn; rw [if_neg (by omega), if_neg (by omega)]]
      go_enter Tryz.func224, Tryz.ntmps224
      go_wp2_with (go_at_call 145; refine (lt_no _ _ _ hs hnl).mono ?_; rintro e' w' ⟨rfl, rfl⟩)
      go_ret
      exact ⟨rfl, rfl⟩
    · rw [show compare a b = .gt by simp [compare, compareOfLessAndEq, h1, h2]] at ho
      rw [show sgn (a - b) = 1 by unfold sgn; rw [if_neg (by omega), if_pos (by omega)]]
      go_enter Tryz.func224, Tryz.ntmps224
      go_wp2_with (go_at_call 145; refine (lt_no _ _ _ hs hnl).mono ?_; rintro e' w' ⟨rfl, rfl⟩)
      go_ret
      exact ⟨rfl, rfl⟩
/-- The kind's number. -/
theorem typeIx_any {w : World} {ok : Nat → Prop} {a : J} {x : Value} (h : Jr w ok a x) : Calls Tryz.prog 230 #[x] w fun e w' => e = .returned (.int .i64 a.v.kind) ∧ w' = w := by
  cases h with
  | bool b =>
    cases b
    all_goals
      go_enter Tryz.func230, Tryz.ntmps230
      go_wp2_with fail
      go_ret
      exact ⟨rfl, rfl⟩
  | _ =>
    go_enter Tryz.func230, Tryz.ntmps230
    go_wp2_with fail
    go_ret
    exact ⟨by simp [J.v, V.kind], rfl⟩
theorem fallback_any {w : World} {ok : Nat → Prop} {a b : J} {x y : Value} (ha : Jr w ok a x) (hb : Jr w ok b y) : Calls Tryz.prog 229 #[x, y] w fun e w' => e = .returned (.int .i64 (sgn (a.v.kind - b.v.kind))) ∧ w' = w := by
  have HA := Lib.hid (typeIx_any ha)
  have HB := Lib.hid (typeIx_any hb)
  generalize a.v.kind = p at HA ⊢
  generalize b.v.kind = q at HB ⊢
  rcases ha.form with rfl | ⟨t, z, rfl⟩ <;> rcases hb.form with rfl | ⟨t', z', rfl⟩
  all_goals
    clear ha hb
    go_enter Tryz.func229, Tryz.ntmps229
    go_wp2_with fail
    refine HA.out.mono ?_
    rintro e' w' ⟨rfl, rfl⟩
    go_wp2_with fail
    refine HB.out.mono ?_
    rintro e' w' ⟨rfl, rfl⟩
    go_wp2_with (go_at_call 223; refine (cmpInt_any _ _ _).mono ?_; rintro e' w' ⟨rfl, rfl⟩)
    go_ret
    exact ⟨rfl, rfl⟩
def CmpJPost (c : Int) (w : World) (e : Ending) (w' : World) : Prop := e = .returned (.int .i64 c) ∧ Below w.heap.size w w'
theorem cmpJ_same {c : Int} {w w' : World} {e : Ending} (h : e = .returned (.int .i64 c) ∧ w' = w) : CmpJPost c w e w' := by
  obtain ⟨rfl, rfl⟩ := h
  exact ⟨rfl, Below.refl _ _⟩
theorem cmpJ_same' {c : Int} {w w' : World} {e : Ending} (h : e = .returned (.int .i64 c) ∧ w = w') : CmpJPost c w e w' := by
  obtain ⟨rfl, rfl⟩ := h
  exact ⟨rfl, Below.refl _ _⟩
theorem cs_ints (l r : Int) (c : Int) (w : World) (H : Calls Tryz.prog 223 #[.int .i64 l, .int .i64 r] w (CmpJPost c w)) :
    Calls Tryz.prog 222 #[.iface 3 (.int .i64 l), .iface 3 (.int .i64 r), .func (.func 223) #[] #[], .func (.func 224) #[] #[], .func (.func 225) #[] #[], .func (.func 226) #[] #[], .func (.func 227) #[] #[], .func (.func 228) #[] #[], .func (.func 229) #[] #[]] w (CmpJPost c w) := by
  have HH := Lib.hid H
  clear H
  go_enter Tryz.func222, Tryz.ntmps222
  go_wp2_with fail
  refine HH.out.mono ?_
  rintro e' w' ⟨rfl, hb⟩
  have HB := Lib.hid hb
  clear hb
  go_wp2_with fail
  go_ret
  exact ⟨rfl, HB.out⟩
theorem cs_intFl (l : Int) (r : Nat) (c : Int) (w : World) (H : Calls Tryz.prog 224 #[.float .f64 (Fl.fl l), .float .f64 r] w (CmpJPost c w)) :
    Calls Tryz.prog 222 #[.iface 3 (.int .i64 l), .iface 82 (.float .f64 r), .func (.func 223) #[] #[], .func (.func 224) #[] #[], .func (.func 225) #[] #[], .func (.func 226) #[] #[], .func (.func 227) #[] #[], .func (.func 228) #[] #[], .func (.func 229) #[] #[]] w (CmpJPost c w) := by
  have HH := Lib.hid H
  clear H
  go_enter Tryz.func222, Tryz.ntmps222
  go_wp2_with fail
  refine HH.out.mono ?_
  rintro e' w' ⟨rfl, hb⟩
  have HB := Lib.hid hb
  clear hb
  go_wp2_with fail
  go_ret
  exact ⟨rfl, HB.out⟩
theorem cs_flInt (l : Nat) (r : Int) (c : Int) (w : World) (H : Calls Tryz.prog 224 #[.float .f64 l, .float .f64 (Fl.fl r)] w (CmpJPost c w)) :
    Calls Tryz.prog 222 #[.iface 82 (.float .f64 l), .iface 3 (.int .i64 r), .func (.func 223) #[] #[], .func (.func 224) #[] #[], .func (.func 225) #[] #[], .func (.func 226) #[] #[], .func (.func 227) #[] #[], .func (.func 228) #[] #[], .func (.func 229) #[] #[]] w (CmpJPost c w) := by
  have HH := Lib.hid H
  clear H
  go_enter Tryz.func222, Tryz.ntmps222
  go_wp2_with fail
  refine HH.out.mono ?_
  rintro e' w' ⟨rfl, hb⟩
  have HB := Lib.hid hb
  clear hb
  go_wp2_with fail
  go_ret
  exact ⟨rfl, HB.out⟩
theorem cs_fls (l r : Nat) (c : Int) (w : World) (H : Calls Tryz.prog 224 #[.float .f64 l, .float .f64 r] w (CmpJPost c w)) :
    Calls Tryz.prog 222 #[.iface 82 (.float .f64 l), .iface 82 (.float .f64 r), .func (.func 223) #[] #[], .func (.func 224) #[] #[], .func (.func 225) #[] #[], .func (.func 226) #[] #[], .func (.func 227) #[] #[], .func (.func 228) #[] #[], .func (.func 229) #[] #[]] w (CmpJPost c w) := by
  have HH := Lib.hid H
  clear H
  go_enter Tryz.func222, Tryz.ntmps222
  go_wp2_with fail
  refine HH.out.mono ?_
  rintro e' w' ⟨rfl, hb⟩
  have HB := Lib.hid hb
  clear hb
  go_wp2_with fail
  go_ret
  exact ⟨rfl, HB.out⟩
theorem cs_strs (l r : ByteArray) (c : Int) (w : World) (H : Calls Tryz.prog 226 #[.string l, .string r] w (CmpJPost c w)) :
    Calls Tryz.prog 222 #[.iface 9 (.string l), .iface 9 (.string r), .func (.func 223) #[] #[], .func (.func 224) #[] #[], .func (.func 225) #[] #[], .func (.func 226) #[] #[], .func (.func 227) #[] #[], .func (.func 228) #[] #[], .func (.func 229) #[] #[]] w (CmpJPost c w) := by
  have HH := Lib.hid H
  clear H
  go_enter Tryz.func222, Tryz.ntmps222
  go_wp2_with fail
  refine HH.out.mono ?_
  rintro e' w' ⟨rfl, hb⟩
  have HB := Lib.hid hb
  clear hb
  go_wp2_with fail
  go_ret
  exact ⟨rfl, HB.out⟩
theorem cs_arrs (A B : Option Addr) (m c1 n c2 : Nat) (c : Int) (w : World) (H : Calls Tryz.prog 227 #[.slice A m c1, .slice B n c2] w (CmpJPost c w)) :
    Calls Tryz.prog 222 #[.iface 62 (.slice A m c1), .iface 62 (.slice B n c2), .func (.func 223) #[] #[], .func (.func 224) #[] #[], .func (.func 225) #[] #[], .func (.func 226) #[] #[], .func (.func 227) #[] #[], .func (.func 228) #[] #[], .func (.func 229) #[] #[]] w (CmpJPost c w) := by
  have HH := Lib.hid H
  clear H
  go_enter Tryz.func222, Tryz.ntmps222
  go_wp2_with fail
  refine HH.out.mono ?_
  rintro e' w' ⟨rfl, hb⟩
  have HB := Lib.hid hb
  clear hb
  go_wp2_with fail
  go_ret
  exact ⟨rfl, HB.out⟩
theorem cs_objs (a b : Option Nat) (c : Int) (w : World) (H : Calls Tryz.prog 228 #[.map a, .map b] w (CmpJPost c w)) :
    Calls Tryz.prog 222 #[.iface 85 (.map a), .iface 85 (.map b), .func (.func 223) #[] #[], .func (.func 224) #[] #[], .func (.func 225) #[] #[], .func (.func 226) #[] #[], .func (.func 227) #[] #[], .func (.func 228) #[] #[], .func (.func 229) #[] #[]] w (CmpJPost c w) := by
  have HH := Lib.hid H
  clear H
  go_enter Tryz.func222, Tryz.ntmps222
  go_wp2_with fail
  refine HH.out.mono ?_
  rintro e' w' ⟨rfl, hb⟩
  have HB := Lib.hid hb
  clear hb
  go_wp2_with fail
  go_ret
  exact ⟨rfl, HB.out⟩
/-- The sort of a value, as the switch sees it. -/
def J.sort : J → Nat
  | .int _ => 1
  | .hf _ => 1
  | .str _ => 2
  | .arr _ => 3
  | .obj _ _ => 4
  | _ => 0
/-- The forms of a value, with its sort. -/
inductive Sh : Nat → Value → Prop
  | nil : Sh 0 .nilIface
  | bool (b : Bool) : Sh 0 (.iface 4 (.bool b))
  | int (n : Int) : Sh 1 (.iface 3 (.int .i64 n))
  | fl (x : Nat) : Sh 1 (.iface 82 (.float .f64 x))
  | str (s : ByteArray) : Sh 2 (.iface 9 (.string s))
  | arr (A : Option Addr) (n c : Nat) : Sh 3 (.iface 62 (.slice A n c))
  | obj (b : Nat) : Sh 4 (.iface 85 (.map (some b)))
theorem sh_of {w : World} {ok : Nat → Prop} {a : J} {x : Value} (h : Jr w ok a x) : Sh a.sort x := by
  cases h <;> constructor
set_option maxHeartbeats 8000000 in
theorem sh_fall {x y : Value} {p q : Nat} (ha : Sh p x) (hb : Sh q y) (hs : p = 0 ∨ p ≠ q) (c : Int) (w : World) (H : Calls Tryz.prog 229 #[x, y] w (CmpJPost c w)) :
    Calls Tryz.prog 222 #[x, y, .func (.func 223) #[] #[], .func (.func 224) #[] #[], .func (.func 225) #[] #[], .func (.func 226) #[] #[], .func (.func 227) #[] #[], .func (.func 228) #[] #[], .func (.func 229) #[] #[]] w (CmpJPost c w) := by
  have HH := Lib.hid H
  clear H
  cases ha <;> cases hb
  all_goals first
    | (refine absurd hs ?_; decide)
    | skip
  all_goals clear hs
  all_goals
    go_enter Tryz.func222, Tryz.ntmps222
    go_wp2_with fail
    refine HH.out.mono ?_
    rintro e' w' ⟨rfl, hb⟩
    have HB := Lib.hid hb
    clear hb
    go_wp2_with fail
    go_ret
    exact ⟨rfl, HB.out⟩
theorem cs_fall {w : World} {ok : Nat → Prop} {a b : J} {x y : Value} (ha : Jr w ok a x) (hb : Jr w ok b y) (hs : a.sort = 0 ∨ a.sort ≠ b.sort) (c : Int) (H : Calls Tryz.prog 229 #[x, y] w (CmpJPost c w)) :
    Calls Tryz.prog 222 #[x, y, .func (.func 223) #[] #[], .func (.func 224) #[] #[], .func (.func 225) #[] #[], .func (.func 226) #[] #[], .func (.func 227) #[] #[], .func (.func 228) #[] #[], .func (.func 229) #[] #[]] w (CmpJPost c w) := sh_fall (sh_of ha) (sh_of hb) hs c w H
end Go.Proofs.YtpamlgdcnmcedaaGreatDoor
