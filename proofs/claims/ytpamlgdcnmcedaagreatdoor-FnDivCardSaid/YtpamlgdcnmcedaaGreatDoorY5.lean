/- gojq.funcOpDiv: what it gives of two jq values that are not both strings. -/
import Derived.Test.YtpamlgdcnmcedaaGreatDoorY1
import Derived.Test.YtpamlgdcnmcedaaGreatDoorY2
import Derived.Test.YtpamlgdcnmcedaaGreatDoorY4
import Derived.Test.YtpamlgdcnmcedaaGreatDoorZ1
set_option linter.unusedVariables false
set_option linter.unusedSimpArgs false
set_option maxRecDepth 100000
namespace Go.Proofs.YtpamlgdcnmcedaaGreatDoor
open Go Go.RowKit
def FormI (x : Value) : Prop := x = .nilIface ∨ ∃ t v, x = .iface t v
theorem divNo_any (x y : Value) (hx : FormI x) (hy : FormI y) (w : World) : Calls Tryz.prog 161 #[x, y] w fun e w' => (∃ v, e = .returned (.iface 162 v)) ∧ Below w.heap.size w w' := by
  rcases hx with rfl | ⟨t, v, rfl⟩ <;> rcases hy with rfl | ⟨t', v', rfl⟩
  all_goals
    go_enter Tryz.func161, Tryz.ntmps161
    go_wp2_with fail
    go_ret
    exact ⟨⟨_, rfl⟩, (Below.refl _ _).alloc (Nat.le_refl _) _⟩
theorem divArrs_any (A B : Option Addr) (m n c d : Nat) (w : World) : Calls Tryz.prog 159 #[.slice A m c, .slice B n d] w fun e w' => (∃ v, e = .returned (.iface 162 v)) ∧ Below w.heap.size w w' := by
  go_enter Tryz.func159, Tryz.ntmps159
  go_wp2_with fail
  go_ret
  exact ⟨⟨_, rfl⟩, (Below.refl _ _).alloc (Nat.le_refl _) _⟩
theorem divObjs_any (a b : Option Nat) (w : World) : Calls Tryz.prog 160 #[.map a, .map b] w fun e w' => (∃ v, e = .returned (.iface 162 v)) ∧ Below w.heap.size w w' := by
  go_enter Tryz.func160, Tryz.ntmps160
  go_wp2_with fail
  go_ret
  exact ⟨⟨_, rfl⟩, (Below.refl _ _).alloc (Nat.le_refl _) _⟩
/-- Neither both numbers nor both strings. -/
def J.num : J → Bool
  | .int _ => true
  | .hf _ => true
  | _ => false
def J.txt : J → Bool
  | .str _ => true
  | _ => false
def GivesErr (w : World) (e : Ending) (w' : World) : Prop := (∃ v, e = .returned (.iface 162 v)) ∧ Below w.heap.size w w'
set_option maxHeartbeats 8000000 in
theorem switch_err {w : World} {ok : Nat → Prop} {a b : J} {x y : Value} (ha : Jr w ok a x) (hb : Jr w ok b y) (h1 : ¬ (a.num = true ∧ b.num = true)) (h2 : ¬ (a.txt = true ∧ b.txt = true)) (f4 f5 : Value) :
    Calls Tryz.prog 149 #[x, y, .func (.func 150) #[] #[], .func (.func 152) #[] #[], f4, f5, .func (.func 159) #[] #[], .func (.func 160) #[] #[], .func (.func 161) #[] #[]] w (GivesErr w) := by
  have hno := Lib.hid (fun x y hx hy => divNo_any x y hx hy w)
  have harr := Lib.hid (fun A B m n c d => divArrs_any A B m n c d w)
  have hobj := Lib.hid (fun a b => divObjs_any a b w)
  cases ha <;> cases hb
  all_goals first
    | exact absurd ⟨rfl, rfl⟩ h1
    | exact absurd ⟨rfl, rfl⟩ h2
    | skip
  all_goals clear h1 h2
  all_goals
    go_enter Tryz.func149, Tryz.ntmps149
    go_wp2_with fail
    first
      | refine (hno.out _ _ (by first | exact .inl rfl | exact .inr ⟨_, _, rfl⟩) (by first | exact .inl rfl | exact .inr ⟨_, _, rfl⟩)).mono ?_
      | refine (harr.out _ _ _ _ _ _).mono ?_
      | refine (hobj.out _ _).mono ?_
    rintro e' w' ⟨⟨v, rfl⟩, hb⟩
    go_wp2_with fail
    go_ret
    exact ⟨⟨_, rfl⟩, hb⟩
/-- What funcOpDiv gives. -/
def DivR (a b : V) (x : Value) (w : World) : Prop :=
  ((¬ (a.kind = 3 ∧ b.kind = 3) ∨ b.half = 0) ∧ IsErr x) ∨
  (a.kind = 3 ∧ b.kind = 3 ∧ b.half ≠ 0 ∧ ((∃ n : Int, x = .iface 3 (.int .i64 n) ∧ (-4611686018427387904 ≤ n ∧ n ≤ 4611686018427387903) ∧ ∀ q, FineQ a.half b.half q → q = 2 * n) ∨
    ∃ z, x = .iface 82 (.float .f64 z) ∧ (Ieee.double.read z).isNaN = false ∧ ∀ q, FineQ a.half b.half q → z = Fl.hw q))
def DivPost (a b : V) (w : World) (e : Ending) (w' : World) : Prop := ∃ x, e = .returned x ∧ Below w.heap.size w w' ∧ DivR a b x w'
theorem err144 (v : Value) : IsErr (.iface 144 v) := ⟨_, _, rfl, fun W => err_144 v W⟩
theorem err162 (v : Value) : IsErr (.iface 162 v) := ⟨_, _, rfl, fun W => err_162 v W⟩
/-- The numbers: in integers. -/
theorem ints_any (l r : Int) (hl : -9007199254740992 ≤ l ∧ l ≤ 9007199254740992) (hr : -9007199254740992 ≤ r ∧ r ≤ 9007199254740992) (w : World) :
    Calls Tryz.prog 150 #[.int .i64 l, .int .i64 r] w (GivesI fun x w' => Below w.heap.size w w' ∧
      ((r = 0 ∧ IsErr x) ∨ (r ≠ 0 ∧ ((∃ n : Int, x = .iface 3 (.int .i64 n) ∧ (-4611686018427387904 ≤ n ∧ n ≤ 4611686018427387903) ∧ ∀ q, FineQ (2 * l) (2 * r) q → q = 2 * n) ∨
        ∃ z, x = .iface 82 (.float .f64 z) ∧ (Ieee.double.read z).isNaN = false ∧ ∀ q, FineQ (2 * l) (2 * r) q → z = Fl.hw q)))) := by
  by_cases h0 : r = 0
  · subst h0
    refine (divInts_zero l w).mono ?_
    rintro e w' ⟨⟨v, rfl⟩, hb⟩
    exact ⟨_, _, rfl, hb, .inl ⟨rfl, err144 v⟩⟩
  · by_cases h1 : r = -1
    · subst h1
      refine (divInts_neg l hl w).mono ?_
      rintro e w' ⟨rfl, rfl⟩
      refine ⟨_, _, rfl, Below.refl _ _, .inr ⟨h0, .inl ⟨-l, rfl, by omega, fun q hq => ?_⟩⟩⟩
      have := hq.2.1
      omega
    · by_cases hm : l.tmod r = 0
      · refine (divInts_whole l r hl hr h0 h1 hm w).mono ?_
        rintro e w' ⟨rfl, rfl⟩
        have hn := Int.natAbs_tdiv_le_natAbs l r
        have hq0 := Int.tmod_add_mul_tdiv l r
        rw [hm, Int.zero_add] at hq0
        refine ⟨_, _, rfl, Below.refl _ _, .inr ⟨h0, .inl ⟨l.tdiv r, rfl, by omega, fun q hq => ?_⟩⟩⟩
        have h2 := hq.2.1
        have h3 : q * r = (2 * l.tdiv r) * r := by
          have e1 : q * (2 * r) = 2 * (q * r) := by rw [Int.mul_left_comm]
          have e2 : (2 * l.tdiv r) * r = 2 * l := by rw [Int.mul_assoc, Int.mul_comm (l.tdiv r) r, hq0]
          rw [e1] at h2
          omega
        exact Int.eq_of_mul_eq_mul_right h0 h3
      · have ha : Fl.Hb (2 * l) := Fl.hb_two (by omega)
        have hb : Fl.Hb (2 * r) := Fl.hb_two (by omega)
        have el := Fl.fl_hwx l ha
        have er := Fl.fl_hwx r hb
        obtain ⟨z, hz, hn⟩ := Fl.div_some (2 * l) (2 * r) ha hb (by omega)
        have l0 : l ≠ 0 := by rintro rfl; exact hm (by simp)
        refine (divInts_float l r hl hr h0 h1 hm z (by rw [el, er]; exact hz) w).mono ?_
        rintro e w' ⟨rfl, rfl⟩
        refine ⟨_, _, rfl, Below.refl _ _, .inr ⟨h0, .inr ⟨z, rfl, hn, fun q hq => ?_⟩⟩⟩
        have := Fl.div_hw (2 * l) (2 * r) q ha hb hq.1 (by omega) (by omega) hq.2.1
        rw [hz] at this
        exact Option.some.inj this
/-- The numbers: in floats. -/
theorem floats_any (a b : Int) (ha : Fl.Hb a) (hb : Fl.Hb b) (w : World) :
    Calls Tryz.prog 152 #[.float .f64 (Fl.hw a), .float .f64 (Fl.hw b)] w (GivesI fun x w' => Below w.heap.size w w' ∧
      ((b = 0 ∧ IsErr x) ∨ (b ≠ 0 ∧ ∃ z, x = .iface 82 (.float .f64 z) ∧ (Ieee.double.read z).isNaN = false ∧ ∀ q, FineQ a b q → z = Fl.hw q))) := by
  by_cases h0 : b = 0
  · subst h0
    rw [Fl.hw_zero]
    refine (divFloats_zero _ w).mono ?_
    rintro e w' ⟨⟨v, rfl⟩, hb⟩
    exact ⟨_, _, rfl, hb, .inl ⟨rfl, err144 v⟩⟩
  · obtain ⟨z, hz, hn⟩ := Fl.div_some a b ha hb h0
    refine (divFloats _ _ z (Fl.order_zero b hb h0) hz w).mono ?_
    rintro e w' ⟨rfl, rfl⟩
    refine ⟨_, _, rfl, Below.refl _ _, .inr ⟨h0, z, rfl, hn, fun q hq => ?_⟩⟩
    by_cases a0 : a = 0
    · subst a0
      have h1 := Fl.div_zero b hb (hq.2.2 rfl)
      rw [hz] at h1
      have h2 : q * b = 0 := by have := hq.2.1; omega
      have h3 : q = 0 := (Int.mul_eq_zero.1 h2).resolve_right h0
      rw [h3, Fl.hw_zero]
      exact Option.some.inj h1
    · have := Fl.div_hw a b q ha hb hq.1 a0 h0 hq.2.1
      rw [hz] at this
      exact Option.some.inj this
theorem hb_of {v : V} (hw : WF v) : Fl.Hb v.half := by
  obtain ⟨_, _, _, _, _, _, _, _, _, _, _, _, hb, ho, _, _, _⟩ := hw
  exact ⟨hb, ho⟩
theorem j_num {v : V} (h3 : v.kind = 3) : (v.half.tmod 2 = 0 ∧ v.j = .int (v.half.tdiv 2) ∧ 2 * v.half.tdiv 2 = v.half) ∨ (¬ v.half.tmod 2 = 0 ∧ v.j = .hf v.half) := by
  cases v with
  | mk k h t l ks vs =>
    have hk : k = 3 := h3
    subst hk
    by_cases he : h.tmod 2 = 0
    · have e := Int.tmod_add_mul_tdiv h 2
      exact .inl ⟨he, by simp [V.j, V.half, he], by show 2 * h.tdiv 2 = h; omega⟩
    · exact .inr ⟨he, by simp [V.j, V.half, he]⟩
theorem num_kind {v : V} (hw : WF v) (h : v.j.num = true) : v.kind = 3 := by
  cases v with
  | mk k h' t l ks vs =>
    by_cases h3 : k = 3
    · exact h3
    · rw [V.j, if_neg h3] at h
      split at h
      · cases h
      split at h
      · cases h
      split at h
      · cases h
      split at h
      · cases h
      split at h <;> cases h
theorem txt_kind {v : V} (hw : WF v) (h : v.j.txt = true) : v.kind = 4 := by
  cases v with
  | mk k h' t l ks vs =>
    by_cases h4 : k = 4
    · exact h4
    · rw [V.j, if_neg h4] at h
      split at h
      · cases h
      split at h
      · cases h
      split at h
      · cases h
      split at h
      · split at h <;> cases h
      split at h <;> cases h
/-- The switch. -/
theorem switch_any (a b : V) (wa : WF a) (wb : WF b) (hnt : ¬ (a.kind = 4 ∧ b.kind = 4)) {ok : Nat → Prop} {x y : Value} {w : World} (ha : Jr w ok a.j x) (hb : Jr w ok b.j y) (f4 f5 : Value) :
    Calls Tryz.prog 149 #[x, y, .func (.func 150) #[] #[], .func (.func 152) #[] #[], f4, f5, .func (.func 159) #[] #[], .func (.func 160) #[] #[], .func (.func 161) #[] #[]] w (GivesI fun x w' => Below w.heap.size w w' ∧ DivR a b x w') := by
  by_cases hn : a.kind = 3 ∧ b.kind = 3
  · obtain ⟨ka, kb⟩ := hn
    have Ha := hb_of wa
    have Hb' := hb_of wb
    rcases j_num ka with ⟨ea, ja, da⟩ | ⟨ea, ja⟩
    · rw [ja] at ha
      obtain _ | _ | _ := ha
      rcases j_num kb with ⟨eb, jb, db⟩ | ⟨eb, jb⟩
      · rw [jb] at hb
        obtain _ | _ | _ := hb
        refine switch_ints _ _ _ _ _ _ _ _ w _ ((ints_any _ _ (by have := Ha.1; omega) (by have := Hb'.1; omega) w).mono ?_)
        rintro e w' ⟨t, u, rfl, hbl, h⟩
        refine ⟨t, u, rfl, hbl, ?_⟩
        rw [da, db] at h
        rcases h with ⟨h0, h⟩ | ⟨h0, h⟩
        · exact .inl ⟨.inr (by omega), h⟩
        · exact .inr ⟨ka, kb, by omega, h⟩
      · rw [jb] at hb
        obtain _ | _ | _ | _ := hb
        refine switch_intFloat _ _ _ _ _ _ _ _ w _ ?_
        rw [Fl.fl_hwx _ (by rw [da]; exact Ha), da]
        refine (floats_any _ _ Ha Hb' w).mono ?_
        rintro e w' ⟨t, u, rfl, hbl, h⟩
        refine ⟨t, u, rfl, hbl, ?_⟩
        rcases h with ⟨h0, h⟩ | ⟨h0, h⟩
        · exact .inl ⟨.inr h0, h⟩
        · exact .inr ⟨ka, kb, h0, .inr h⟩
    · rw [ja] at ha
      obtain _ | _ | _ | _ := ha
      rcases j_num kb with ⟨eb, jb, db⟩ | ⟨eb, jb⟩
      · rw [jb] at hb
        obtain _ | _ | _ := hb
        refine switch_floatInt _ _ _ _ _ _ _ _ w _ ?_
        rw [Fl.fl_hwx _ (by rw [db]; exact Hb'), db]
        refine (floats_any _ _ Ha Hb' w).mono ?_
        rintro e w' ⟨t, u, rfl, hbl, h⟩
        refine ⟨t, u, rfl, hbl, ?_⟩
        rcases h with ⟨h0, h⟩ | ⟨h0, h⟩
        · exact .inl ⟨.inr h0, h⟩
        · exact .inr ⟨ka, kb, h0, .inr h⟩
      · rw [jb] at hb
        obtain _ | _ | _ | _ := hb
        refine switch_floats _ _ _ _ _ _ _ _ w _ ((floats_any _ _ Ha Hb' w).mono ?_)
        rintro e w' ⟨t, u, rfl, hbl, h⟩
        refine ⟨t, u, rfl, hbl, ?_⟩
        rcases h with ⟨h0, h⟩ | ⟨h0, h⟩
        · exact .inl ⟨.inr h0, h⟩
        · exact .inr ⟨ka, kb, h0, .inr h⟩
  · refine (switch_err ha hb (fun h => hn ⟨num_kind wa h.1, num_kind wb h.2⟩) (fun h => hnt ⟨txt_kind wa h.1, txt_kind wb h.2⟩) f4 f5).mono ?_
    rintro e w' ⟨⟨v, rfl⟩, hbl⟩
    exact ⟨_, _, rfl, hbl, .inl ⟨.inl hn, err162 v⟩⟩
theorem funcDiv_any (a b : V) (wa : WF a) (wb : WF b) (hnt : ¬ (a.kind = 4 ∧ b.kind = 4)) {ok : Nat → Prop} {x y : Value} {w : World} (ha : Jr w ok a.j x) (hb : Jr w ok b.j y) :
    Calls Tryz.prog 110 #[.nilIface, x, y] w (DivPost a b w) := by
  have HS := Lib.hid (fun f4 f5 => switch_any a b wa wb hnt ha hb f4 f5)
  clear ha hb hnt
  go_enter Tryz.func110, Tryz.ntmps110
  go_wp2_with fail
  refine (HS.out _ _).mono ?_
  rintro e' w' ⟨t, u, rfl, hbl, h⟩
  have H := Lib.hid h
  clear h
  go_wp2_with fail
  go_ret
  exact ⟨_, rfl, hbl, H.out⟩
theorem zzDiv_any (a b : V) (wa : WF a) (wb : WF b) (hnt : ¬ (a.kind = 4 ∧ b.kind = 4)) {ok : Nat → Prop} {x y : Value} {w : World} (ha : Jr w ok a.j x) (hb : Jr w ok b.j y) :
    Calls Tryz.prog 59 #[x, y] w (DivPost a b w) := by
  have HS := Lib.hid (funcDiv_any a b wa wb hnt ha hb)
  clear ha hb hnt
  go_enter Tryz.func59, Tryz.ntmps59
  go_wp2_with fail
  refine HS.out.mono ?_
  rintro e' w' ⟨u, rfl, hbl, h⟩
  have H := Lib.hid h
  clear h
  go_wp2_with fail
  go_ret
  exact ⟨_, rfl, hbl, H.out⟩
/-- The result of it. -/
def DivT (a b : V) (v : V) (c : Int) : Prop := ((¬ (a.kind = 3 ∧ b.kind = 3) ∨ b.half = 0) ∧ v = zeroV0 ∧ c = 1) ∨
  (a.kind = 3 ∧ b.kind = 3 ∧ b.half ≠ 0 ∧ ∀ q, FineQ a.half b.half q → v = V.mk 3 q ⟨#[]⟩ [] [] [] ∧ c = 0)
theorem fineQ_eq {a b q q' : Int} (hb : b ≠ 0) (h : FineQ a b q) (h' : FineQ a b q') : q = q' :=
  Int.eq_of_mul_eq_mul_right hb (h.2.1.symm.trans h'.2.1)
theorem result_div (a b : V) (x : Value) (w : World) (h : DivR a b x w) : Calls Tryz.prog 48 #[x] w (ResPost (DivT a b) w) := by
  rcases h with ⟨h1, h2⟩ | ⟨ka, kb, h0, h⟩
  · exact (result_errG h2 w).mono fun e w' h => resPost_mono (resPost_err h) fun v c h => .inl ⟨h1, h⟩
  · rcases h with ⟨n, rfl, hn, hq⟩ | ⟨z, rfl, hz, hq⟩
    · refine (result_any (.int n) (fun _ => True) _ w (.int n hn) (.int n)).mono fun e w' h => resPost_mono (resPost_ok h) fun v c h => .inr ⟨ka, kb, h0, fun q hq' => ?_⟩
      obtain ⟨rfl, rfl⟩ := h
      rw [hq q hq']
      exact ⟨rfl, rfl⟩
    · by_cases hf : ∃ q, FineQ a.half b.half q
      · obtain ⟨q, hq'⟩ := hf
        rw [hq q hq']
        refine (result_hw q hq'.1 w).mono fun e w' h => resPost_mono h fun v c h => .inr ⟨ka, kb, h0, fun q' hq2 => ?_⟩
        rw [← fineQ_eq h0 hq' hq2]
        exact h
      · exact (result_nn z hz w).mono fun e w' h => resPost_mono h fun v c h => .inr ⟨ka, kb, h0, fun q hq' => absurd ⟨q, hq'⟩ hf⟩
end Go.Proofs.YtpamlgdcnmcedaaGreatDoor
