/- gojq.funcFlatten, ZzFlatten, impl.FlattenTo. -/
import Derived.Test.YtpamlgdcnmcedaaGreatDoorF1
import Derived.Test.YtpamlgdcnmcedaaGreatDoorR1
set_option linter.unusedVariables false
set_option linter.unusedSimpArgs false
set_option maxRecDepth 100000
namespace Go.Proofs.YtpamlgdcnmcedaaGreatDoor
open Go Go.RowKit
theorem jr_own_arr {w : World} {ok ok0 : Nat → Prop} {base k c : Nat} {A : Option Addr} {l : List J} (h : Own kJ 20 w base ok0 (.slice A k c) l) (h0 : ∀ b, ok0 b → ok b) (hb : ∀ b, base ≤ b → b < w.heap.size → ok b) (hk : l.length = k) (hc : k ≤ c) :
    Jr w ok (.arr l) (.iface 62 (.slice A k c)) := by
  obtain ⟨f, hr, hf⟩ := h.reads h0 hb (by decide)
  subst hk
  refine .arr l A c (fun i => (f i).getD 0 undef) hc (fun hn => ?_) (fun i j hj => ?_)
  · obtain ⟨ad, e, ho, hcc⟩ := hr hn
    refine ⟨ad, e, ho, fun i j u hi hu => hcc i j u hi ?_⟩
    obtain ⟨jj, hjj⟩ := at_lt (l := l) (p := i) hi
    obtain ⟨x, hx, _⟩ := hf i jj hjj
    simp only [hx] at hu ⊢
    exact hu
  · obtain ⟨x, hx, hJ⟩ := hf i j hj
    simp only [hx]
    exact hJ
def FlatPost (n : Nat) (l : List J) (w : World) (e : Ending) (w' : World) : Prop := ∃ x, e = .returned x ∧ Jr w' (fun _ => True) (.arr (flatJ n l)) x ∧ Below w.heap.size w w'
theorem funcFlatten_arr (n : Nat) (hn : n ≤ 2 ^ 53) (l : List J) (ok : Nat → Prop) (x : Value) (ad : Addr) (c : Nat) (w : World) (hJ : Jr w ok (.arr l) x) (hG : GJ (.arr l)) (hlen : (flatJ n l).length ≤ 1000000) (hd : w.cell? ad = some (.iface 3 (.int .i64 n))) :
    Calls Tryz.prog 94 #[x, .slice (some ad) 1 c] w (FlatPost n l w) := by
  have hJ := hJ.bound
  obtain _ | _ | _ | _ | _ | ⟨_, A, c', f, hc, r, e⟩ := hJ
  obtain _ | _ | _ | _ | _ | ⟨_, hmax, hGl⟩ := hG
  have HLEN := Lib.hid hlen
  clear hlen
  have h1 : FloatKind.f64.format.order (Fl.fl n) (Fl.fl n) = some .eq := by
    have := Fl.stands_order (Fl.stands_le n hn) (Fl.stands_le n hn)
    rw [show FloatKind.f64.format = Ieee.double from rfl, this]
    simp
  have h2 : (FloatKind.f64.format.order (Fl.fl n) 0 == some .lt) = false := by
    have := Fl.stands_order (Fl.stands_le n hn) Fl.stands_zero
    rw [show FloatKind.f64.format = Ieee.double from rfl, this, Int.compare_eq_ite_lt, if_neg (by omega)]
    split <;> rfl
  go_enter Tryz.func94, Tryz.ntmps94
  go_wp2_with fail
  refine (values_arr _ _).mono ?_
  rintro e' w' ⟨rfl, hw⟩
  rw [hw]
  clear hw
  go_wp2_with fail
  refine (toFloat_int _ _).mono ?_
  rintro e' w' ⟨rfl, hw⟩
  rw [← hw]
  clear hw
  go_wp2_with fail
  refine (lt_no _ _ _ h1 h2).mono ?_
  rintro e' w' ⟨rfl, hw⟩
  rw [← hw]
  clear hw
  go_wp2_with fail
  have hb1 : Below w.heap.size w (w.alloc (.cells #[] 20)) := (Below.refl _ _).alloc (Nat.le_refl _) _
  have hown : Own kJ 20 (w.alloc (.cells #[] 20)) w.heap.size (fun b => b < w.heap.size) (.slice (some ⟨w.heap.size, 0, none⟩) 0 0) [] :=
    ⟨[], rfl, fun c hc => by simp at hc, ⟨by simp, .inr ⟨w.heap.size, 0, #[], rfl, Nat.le_refl _, heap_alloc_new w _, by simp, by simp, by simp, by simp⟩⟩, fun i x c hx => by simp at hx⟩
  refine (flatten_any n hn l l.length rfl [] _ A c' w.heap.size f _ hown hb1.size ((r.mono fun b hb => hb.2).move fun b hb => hb1.block b hb) (fun i j hj => ((e i j hj).mono fun b hb => hb.2).move fun b hb => hb1.block b hb) hmax hGl (by simpa using HLEN.out)).mono ?_
  rintro e' w' ⟨v', rfl, hown', hb'⟩
  rw [List.nil_append] at hown'
  obtain ⟨A2, c2, hv2, hle2⟩ := hown'.form
  have hj := jr_own_arr (ok := fun _ => True) (A := A2) (k := (flatJ n l).length) (c := c2) (by rw [← hv2]; exact hown') (fun _ _ => trivial) (fun _ _ _ => trivial) rfl hle2
  obtain ⟨q, hq⟩ : ∃ q, q = (flatJ n l).length := ⟨_, rfl⟩
  rw [← hq] at hv2 hj
  have HJ := Lib.hid hj
  have HB := Lib.hid (hb1.trans hb')
  clear hq hown' hj hb' hown hle2 hb1
  subst hv2
  go_wp2_with fail
  go_ret
  exact ⟨_, rfl, HJ.out, HB.out⟩
theorem funcFlatten_no (w : World) {ok : Nat → Prop} {j : J} {x : Value} (h : Jr w ok j x) (h1 : ∀ l, j ≠ .arr l) (h2 : ∀ ks vs, j ≠ .obj ks vs) (s : Value) : Calls Tryz.prog 94 #[x, s] w fun e w' => (∃ v, e = .returned (.iface 132 v)) ∧ Below w.heap.size w w' := by
  have hv := values_no h h1 h2
  clear h1 h2
  cases h
  all_goals
    have HV := Lib.hid hv
    clear hv
    go_enter Tryz.func94, Tryz.ntmps94
    go_wp2_with fail
    refine HV.out.mono ?_
    rintro e' w' ⟨rfl, hw⟩
    rw [hw]
    clear hw
    go_wp2_with fail
    go_ret
    exact ⟨⟨_, rfl⟩, (Below.refl _ _).alloc (Nat.le_refl _) _⟩
end Go.Proofs.YtpamlgdcnmcedaaGreatDoor
