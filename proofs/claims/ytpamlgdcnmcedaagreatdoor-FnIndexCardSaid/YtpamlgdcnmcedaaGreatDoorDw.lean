/- Floats: all halves of impl.Value (up to 2^53; odd ones below 2^52): quotient, double, trunc, int; and what holds of any float that is no NaN. -/
import Derived.Test.YtpamlgdcnmcedaaGreatDoorFl
set_option linter.unusedVariables false
namespace Go.Proofs.YtpamlgdcnmcedaaGreatDoor
namespace Fl
open Ieee
/-- The halves that impl.Value has. -/
def Hb (h : Int) : Prop := (-18014398509481984 ≤ h ∧ h ≤ 18014398509481984) ∧ (h.tmod 2 = 0 ∨ (-9007199254740992 < h ∧ h < 9007199254740992))
theorem hb_small {h : Int} (hb : h.natAbs ≤ 9007199254740992) : Hb h := by
  refine ⟨by omega, ?_⟩
  by_cases h1 : h.natAbs = 9007199254740992
  · have h2 : h = 9007199254740992 ∨ h = -9007199254740992 := by omega
    rcases h2 with rfl | rfl
    · exact .inl (by decide)
    · exact .inl (by decide)
  · exact .inr (by omega)
theorem hb_two {h : Int} (hb : h.natAbs ≤ 9007199254740992) : Hb (2 * h) := ⟨by omega, .inl (Int.mul_tmod_right 2 h)⟩
theorem odd_part (n : Nat) : n ≠ 0 → ∃ m k, n = m * 2 ^ k ∧ m % 2 = 1 := by
  induction n using Nat.strongRecOn with
  | _ n ih =>
    intro h0
    by_cases h : n % 2 = 1
    · exact ⟨n, 0, by simp, h⟩
    · obtain ⟨m, k, e, ho⟩ := ih (n / 2) (by omega) (by omega)
      refine ⟨m, k + 1, ?_, ho⟩
      rw [Nat.pow_succ, ← Nat.mul_assoc, ← e]
      omega
theorem odd_unique (a b x : Nat) : ∀ (y : Nat), a % 2 = 1 → b % 2 = 1 → a * 2 ^ x = b * 2 ^ y → a = b ∧ x = y := by
  induction x with
  | zero =>
    intro y ha hb h
    cases y with
    | zero => exact ⟨by simpa using h, rfl⟩
    | succ y =>
      rw [Nat.pow_zero, Nat.mul_one, Nat.pow_succ, ← Nat.mul_assoc] at h
      generalize b * 2 ^ y = z at h
      omega
  | succ x ih =>
    intro y ha hb h
    cases y with
    | zero =>
      rw [Nat.pow_zero, Nat.mul_one, Nat.pow_succ, ← Nat.mul_assoc] at h
      generalize a * 2 ^ x = z at h
      omega
    | succ y =>
      rw [Nat.pow_succ, Nat.pow_succ, ← Nat.mul_assoc, ← Nat.mul_assoc] at h
      obtain ⟨e1, e2⟩ := ih y ha hb (by omega)
      exact ⟨e1, by rw [e2]⟩
theorem odd_mul {a b : Nat} (ha : a % 2 = 1) (hb : b % 2 = 1) : (a * b) % 2 = 1 := by rw [Nat.mul_mod, ha, hb]
theorem rep (h : Int) (h0 : h ≠ 0) (hb : Hb h) : ∃ m k, h.natAbs = m <<< k ∧ m % 2 = 1 ∧ m < 2 ^ 53 ∧ k ≤ 54 := by
  obtain ⟨m, k, e, ho⟩ := odd_part h.natAbs (by omega)
  obtain ⟨hb1, hb2⟩ := hb
  refine ⟨m, k, by rw [Nat.shiftLeft_eq]; exact e, ho, ?_, ?_⟩
  · have hpk := Nat.two_pow_pos k
    cases k with
    | zero =>
      rw [Nat.pow_zero, Nat.mul_one] at e
      have h2 := Int.tmod_add_mul_tdiv h 2
      rcases hb2 with h3 | h3
      · omega
      · omega
    | succ k =>
      have hpk := Nat.two_pow_pos k
      rw [Nat.pow_succ, ← Nat.mul_assoc] at e
      have h1 : m ≤ m * 2 ^ k := Nat.le_mul_of_pos_right _ hpk
      generalize m * 2 ^ k = z at e h1
      omega
  · rcases Nat.lt_or_ge k 55 with hk | hk
    · omega
    · have h1 : 2 ^ 55 ≤ 2 ^ k := Nat.pow_le_pow_right (by decide) hk
      have h2 : 2 ^ k ≤ m * 2 ^ k := Nat.le_mul_of_pos_left _ (by omega)
      generalize m * 2 ^ k = z at e h2
      generalize 2 ^ k = y at h1 h2
      omega
theorem read_rep (neg : Bool) (m k : Nat) (p : Int) (ho : m % 2 = 1) (hm : m < 2 ^ 53) (hk : k ≤ 55) (hp : -2 ≤ p ∧ p ≤ 2) : double.read (double.nearest neg (m <<< k) p) = .number neg (keep m) (p + k + m.log2 - 52) := by
  have hl := log2_lt53 hm
  exact read_nearest neg m k p (by omega) hm (by omega) (by omega)
theorem shl_succ (m k : Nat) : m <<< (k + 1) = 2 * (m <<< k) := by
  rw [Nat.shiftLeft_eq, Nat.shiftLeft_eq, Nat.pow_succ, ← Nat.mul_assoc, Nat.mul_comm]
theorem fl_hwx (n : Int) (hb : Hb (2 * n)) : fl n = hw (2 * n) := by
  unfold fl hw
  have e1 : decide (2 * n < 0) = decide (n < 0) := by simp; omega
  rw [e1]
  by_cases h0 : n = 0
  · subst h0; rfl
  · obtain ⟨m, k, em, om, lm, hk⟩ := rep (2 * n) (by omega) hb
    have hl := log2_lt53 lm
    cases k with
    | zero => rw [Nat.shiftLeft_zero] at em; omega
    | succ k =>
      have e2 := shl_succ m k
      rw [em, show n.natAbs = m <<< k from by omega]
      exact nearest_same _ _ _ _ _ _ (by omega) lm (by omega) (by omega) (by omega)
theorem stands_flx (n : Int) (hb : Hb n) : Stands (fl n) (2 * n) := by
  by_cases h0 : n = 0
  · subst h0; exact stands_fl 0 (by decide)
  · obtain ⟨m, k, em, om, lm, hk⟩ := rep n h0 hb
    have hl := log2_lt53 lm
    have hr := read_rep (decide (n < 0)) m k 0 om lm (by omega) (by omega)
    refine ⟨decide (n < 0), keep m, 0 + (k : Int) + m.log2 - 52, by unfold fl; rw [em]; exact hr, by omega, ?_⟩
    rw [signed_eq]
    have hkk := keep_unit m (m.log2 + 1021) lm rfl
    have e1 : (0 + (k : Int) + m.log2 - 52 + 1074).toNat = m.log2 + 1021 + (k + 1) := by omega
    have hk' : (keep m : Int) * ((2 ^ (0 + (k : Int) + m.log2 - 52 + 1074).toNat : Nat) : Int) = 2 * ((n.natAbs : Int) * (unit : Int)) := by
      rw [e1, Nat.pow_add, ← Int.natCast_mul, ← Nat.mul_assoc, hkk, em, Nat.shiftLeft_eq, Nat.pow_succ]
      rw [show (2 : Int) = ((2 : Nat) : Int) from rfl, ← Int.natCast_mul, ← Int.natCast_mul]
      refine congrArg (fun n : Nat => (n : Int)) ?_
      generalize unit = u
      generalize 2 ^ k = p
      rw [Nat.mul_comm p 2, Nat.mul_left_comm, Nat.mul_assoc, Nat.mul_assoc, Nat.mul_comm u p]
    by_cases hs : n < 0
    · simp only [hs, decide_true, if_true]
      have e9 : -(2 * (n.natAbs : Int)) = 2 * n := by omega
      rw [Int.neg_mul, hk', ← Int.mul_assoc, ← Int.neg_mul, e9]
    · simp only [hs, decide_false, Bool.false_eq_true, if_false]
      have e9 : 2 * (n.natAbs : Int) = 2 * n := by omega
      rw [hk', ← Int.mul_assoc, e9]
theorem hw_zero : hw 0 = 0 := by decide
theorem stands_hwx (h : Int) (hb : Hb h) : Stands (hw h) h := by
  by_cases hs : h.natAbs < 2 ^ 53
  · exact stands_hw h hs
  · have h2 := Int.tmod_add_mul_tdiv h 2
    have he : h = 2 * h.tdiv 2 := by
      rcases hb.2 with h3 | h3
      · omega
      · omega
    have hq : (h.tdiv 2).natAbs ≤ 9007199254740992 := by have := hb.1; omega
    have hh : Hb (2 * h.tdiv 2) := by rw [← he]; exact hb
    have := stands_flx (h.tdiv 2) (hb_small hq)
    rw [fl_hwx _ hh, ← he] at this
    exact this
/-- 2 * x of a half. -/
theorem two_mulx (h : Int) (hb : Hb h) : double.mul 4611686018427387904 (hw h) = some (fl h) := by
  by_cases h0 : h = 0
  · subst h0; decide +kernel
  · obtain ⟨m, k, em, om, lm, hk⟩ := rep h h0 hb
    have hl := log2_lt53 lm
    have hr := read_rep (decide (h < 0)) m k (-1) om lm (by omega) (by omega)
    unfold Format.mul hw fl
    rw [em, hr, read_two]
    simp only [Datum.product, Option.map_some, Format.write, Bool.false_xor]
    refine congrArg some ?_
    have e5 : 2 ^ 52 * keep m = m <<< (104 - m.log2) := by
      unfold keep
      rw [Nat.shiftLeft_eq, Nat.shiftLeft_eq]
      rw [show 104 - m.log2 = (52 - m.log2) + 52 from by omega, Nat.pow_add, Nat.mul_comm, Nat.mul_assoc]
    rw [e5]
    exact nearest_same _ _ _ _ _ _ (by omega) lm (by omega) (by omega) (by omega)
theorem integral_flx (n : Int) (hb : Hb n) : (double.read (fl n)).integral .zero = .number (decide (n < 0)) n.natAbs 0 := by
  by_cases h0 : n = 0
  · subst h0; exact integral_fl 0 (by decide)
  · obtain ⟨m, k, em, om, lm, hk⟩ := rep n h0 hb
    have hl := log2_lt53 lm
    have hr := read_rep (decide (n < 0)) m k 0 om lm (by omega) (by omega)
    unfold fl
    rw [em, hr]
    simp only [Datum.integral]
    have key : Toward.zero.cut (decide (n < 0)) (keep m <<< (0 + (k : Int) + m.log2 - 52).toNat) (-(0 + (k : Int) + m.log2 - 52)).toNat = m <<< k := by
      by_cases hc : 52 ≤ k + m.log2
      · have e1 : (0 + (k : Int) + m.log2 - 52).toNat = k + m.log2 - 52 := by omega
        have e2 : (-(0 + (k : Int) + m.log2 - 52)).toNat = 0 := by omega
        rw [e1, e2, cut_zero_drop]
        unfold keep
        rw [← Nat.shiftLeft_add]
        congr 1
        omega
      · have e1 : (0 + (k : Int) + m.log2 - 52).toNat = 0 := by omega
        have e2 : (-(0 + (k : Int) + m.log2 - 52)).toNat = 52 - m.log2 - k := by omega
        rw [e1, e2, Nat.shiftLeft_zero]
        have e3 : keep m = (m <<< k) <<< (52 - m.log2 - k) := by
          unfold keep
          rw [← Nat.shiftLeft_add]
          congr 1
          omega
        rw [e3, cut_shl]
    rw [key]
theorem trunc_flx (n : Int) (hb : Hb n) : double.write ((double.read (fl n)).integral .zero) = fl n := by rw [integral_flx n hb]; rfl
theorem toInt_flx (n : Int) (hb : Hb n) : (double.read (fl n)).toInt .zero = some n := by
  unfold Datum.toInt
  rw [integral_flx n hb]
  simp only [signed, Nat.shiftLeft_zero]
  refine congrArg some ?_
  by_cases hs : n < 0
  · simp only [hs, decide_true, if_true]; omega
  · simp only [hs, decide_false, Bool.false_eq_true, if_false]; omega
theorem read_flx (n : Int) (hb : Hb n) : ∃ s m i, double.read (fl n) = .number s m i := by
  obtain ⟨s, m, i, h, _⟩ := stands_flx n hb
  exact ⟨s, m, i, h⟩
/-! ### The quotient. -/
theorem div_odd (s t : Bool) (x y m n q : Nat) (a b : Int) (hx : double.read x = .number s (keep m) (m.log2 - 52 + a)) (hy : double.read y = .number t (keep n) (n.log2 - 52 + b))
    (hm0 : m ≠ 0) (hn0 : n ≠ 0) (hm : m < 2 ^ 53) (hn : n < 2 ^ 53) (hq0 : q ≠ 0) (hq : q < 2 ^ 53) (ha : -100 ≤ a ∧ a ≤ 100) (hb : -100 ≤ b ∧ b ≤ 100) (h : m = q * n) :
    double.div x y = some (double.nearest (s ^^ t) q (a - b)) := by
  have hlm := log2_lt53 hm
  have hln := log2_lt53 hn
  have hlq := log2_lt53 hq
  have km := log2_keep hm0 hm
  have kn := log2_keep hn0 hn
  have kn0 : keep n ≠ 0 := by
    intro h0
    have := keep_lo hn0 hn
    omega
  unfold Format.div
  rw [hx, hy]
  have e2 : keep m <<< 54 = (q <<< (54 + n.log2 - m.log2)) * keep n := by
    unfold keep
    simp only [Nat.shiftLeft_eq]
    have p1 : m * 2 ^ (52 - m.log2) * 2 ^ 54 = m * 2 ^ (106 - m.log2) := by
      rw [Nat.mul_assoc, ← Nat.pow_add]
      congr 2
      omega
    have p2 : q * 2 ^ (54 + n.log2 - m.log2) * (n * 2 ^ (52 - n.log2)) = (q * n) * 2 ^ (106 - m.log2) := by
      have : 2 ^ (106 - m.log2) = 2 ^ (54 + n.log2 - m.log2) * 2 ^ (52 - n.log2) := by
        rw [← Nat.pow_add]
        congr 1
        omega
      rw [this]
      ac_rfl
    rw [p1, p2, ← h]
  rw [quot_core _ _ _ _ _ _ _ km kn kn0 e2]
  simp only [Option.map_some, Format.write]
  refine congrArg some ?_
  have e5 : 2 * q <<< (54 + n.log2 - m.log2) = q <<< (55 + n.log2 - m.log2) := by
    simp only [Nat.shiftLeft_eq]
    rw [show 55 + n.log2 - m.log2 = (54 + n.log2 - m.log2) + 1 from by omega]
    generalize 54 + n.log2 - m.log2 = k
    rw [Nat.pow_succ, Nat.mul_comm (2 ^ k) 2, Nat.mul_left_comm]
  rw [e5]
  exact nearest_same0 _ _ _ _ _ hq0 hq (by omega) (by omega) (by omega)
theorem sign_quot (a b q : Int) (a0 : a ≠ 0) (b0 : b ≠ 0) (q0 : q ≠ 0) (h : 2 * a = q * b) : (decide (a < 0) ^^ decide (b < 0)) = decide (q < 0) := by
  have hc : (0 < q ∧ 0 < b) ∨ (0 < q ∧ b < 0) ∨ (q < 0 ∧ 0 < b) ∨ (q < 0 ∧ b < 0) := by omega
  rcases hc with ⟨h1, h2⟩ | ⟨h1, h2⟩ | ⟨h1, h2⟩ | ⟨h1, h2⟩
  · have := Int.mul_pos h1 h2
    have e1 : ¬ a < 0 := by omega
    have e2 : ¬ b < 0 := by omega
    have e3 : ¬ q < 0 := by omega
    simp [e1, e2, e3]
  · have := Int.mul_pos h1 (show 0 < -b by omega)
    rw [Int.mul_neg] at this
    have e1 : a < 0 := by omega
    have e3 : ¬ q < 0 := by omega
    simp [e1, h2, e3]
  · have := Int.mul_pos (show 0 < -q by omega) h2
    rw [Int.neg_mul] at this
    have e1 : a < 0 := by omega
    have e2 : ¬ b < 0 := by omega
    simp [e1, e2, h1]
  · have := Int.mul_pos (show 0 < -q by omega) (show 0 < -b by omega)
    rw [Int.neg_mul_neg] at this
    have e1 : ¬ a < 0 := by omega
    simp [e1, h1, h2]
theorem div_hw (a b q : Int) (ha : Hb a) (hb : Hb b) (hq : Hb q) (a0 : a ≠ 0) (b0 : b ≠ 0) (h : 2 * a = q * b) : double.div (hw a) (hw b) = some (hw q) := by
  have q0 : q ≠ 0 := by rintro rfl; rw [Int.zero_mul] at h; omega
  obtain ⟨m, k, em, om, lm, hk⟩ := rep a a0 ha
  obtain ⟨n, l, en, on, ln, hl⟩ := rep b b0 hb
  obtain ⟨r, j, er, or', lr, hj⟩ := rep q q0 hq
  have hn : 2 * a.natAbs = q.natAbs * b.natAbs := by rw [← Int.natAbs_mul, ← h, Int.natAbs_mul]; rfl
  rw [em, en, er, Nat.shiftLeft_eq, Nat.shiftLeft_eq, Nat.shiftLeft_eq] at hn
  have hu : m * 2 ^ (k + 1) = (r * n) * 2 ^ (j + l) := by
    rw [Nat.pow_succ, Nat.pow_add]
    generalize 2 ^ k = x at *
    generalize 2 ^ j = y at *
    generalize 2 ^ l = z at *
    rw [show m * (x * 2) = 2 * (m * x) from by ac_rfl, hn]
    ac_rfl
  obtain ⟨e1, e2⟩ := odd_unique m (r * n) _ _ om (odd_mul or' on) hu
  have hlr := log2_lt53 lr
  have hra := read_rep (decide (a < 0)) m k (-1) om lm (by omega) (by omega)
  have hrb := read_rep (decide (b < 0)) n l (-1) on ln (by omega) (by omega)
  unfold hw
  rw [em, en, er]
  rw [div_odd (decide (a < 0)) (decide (b < 0)) _ _ m n r ((k : Int) - 1) ((l : Int) - 1) (by rw [hra]; congr 1; omega) (by rw [hrb]; congr 1; omega) (by omega) (by omega) lm ln (by omega) lr (by omega) (by omega) e1, sign_quot a b q a0 b0 q0 h]
  refine congrArg some ?_
  exact (nearest_same0 _ _ _ _ _ (by omega) lr (by omega) (by omega) (by omega)).symm
/-! ### Any float that is no NaN. -/
theorem word_nn (neg : Bool) (r : Nat) (h : r ≤ double.infRung) : (double.read (double.word neg r)).isNaN = false := by
  rw [infRung_double] at h
  have h2 : double.word neg r % double.signWeight = r := by
    rw [signWeight_double]; unfold Format.word; rw [signWeight_double]
    cases neg
    · simp; omega
    · simp; omega
  unfold Format.read
  simp only [h2, binade_double, infRung_double]
  split
  · rfl
  · split
    · rfl
    · split
      · rfl
      · omega
theorem nearest_nn (neg : Bool) (m : Nat) (p : Int) : (double.read (double.nearest neg m p)).isNaN = false := by
  unfold Format.nearest
  split
  · exact word_nn _ _ (Nat.zero_le _)
  · exact word_nn _ _ (Nat.min_le_right _ _)
theorem write_nn (d : Datum) (h : d.isNaN = false) : (double.read (double.write d)).isNaN = false := by
  cases d with
  | number s m i => exact nearest_nn _ _ _
  | infinity s => exact word_nn _ _ (Nat.le_refl _)
  | nan s t => cases h
theorem order_some (x y : Nat) (hx : (double.read x).isNaN = false) (hy : (double.read y).isNaN = false) : ∃ o, double.order x y = some o := by
  unfold Format.order
  cases h1 : double.read x with
  | nan s t => rw [h1] at hx; cases hx
  | infinity s =>
    cases h2 : double.read y with
    | nan s t => rw [h2] at hy; cases hy
    | infinity t => exact ⟨_, rfl⟩
    | number t n j => exact ⟨_, rfl⟩
  | number s m i =>
    cases h2 : double.read y with
    | nan s t => rw [h2] at hy; cases hy
    | infinity t => exact ⟨_, rfl⟩
    | number t n j => exact ⟨_, rfl⟩
theorem mul_some (x : Nat) (hx : (double.read x).isNaN = false) : ∃ z, double.mul 4611686018427387904 x = some z ∧ (double.read z).isNaN = false := by
  unfold Format.mul
  rw [read_two]
  cases h1 : double.read x with
  | nan s t => rw [h1] at hx; cases hx
  | infinity s => exact ⟨_, rfl, write_nn _ rfl⟩
  | number s m i => exact ⟨_, rfl, write_nn _ rfl⟩
theorem div_some (a b : Int) (ha : Hb a) (hb : Hb b) (b0 : b ≠ 0) : ∃ z, double.div (hw a) (hw b) = some z ∧ (double.read z).isNaN = false := by
  obtain ⟨s, m, i, ra, _⟩ := stands_hwx a ha
  obtain ⟨n, l, en, on, ln, hl⟩ := rep b b0 hb
  have hrb := read_rep (decide (b < 0)) n l (-1) on ln (by omega) (by omega)
  have kn0 : keep n ≠ 0 := by
    intro h0
    have := keep_lo (show n ≠ 0 by omega) ln
    omega
  have hrb' : double.read (hw b) = .number (decide (b < 0)) (keep n) (-1 + l + n.log2 - 52) := by unfold hw; rw [en]; exact hrb
  unfold Format.div
  rw [ra, hrb']
  simp only [Datum.quotient, if_neg kn0, Option.map_some]
  exact ⟨_, rfl, write_nn _ rfl⟩
theorem div_zero (b : Int) (hb : Hb b) (b0 : 0 < b) : double.div (hw 0) (hw b) = some 0 := by
  obtain ⟨n, l, en, on, ln, hl⟩ := rep b (by omega) hb
  have hrb := read_rep (decide (b < 0)) n l (-1) on ln (by omega) (by omega)
  have kn0 : keep n ≠ 0 := by
    intro h0
    have := keep_lo (show n ≠ 0 by omega) ln
    omega
  have hrb' : double.read (hw b) = .number (decide (b < 0)) (keep n) (-1 + l + n.log2 - 52) := by unfold hw; rw [en]; exact hrb
  have hs : decide (b < 0) = false := by simp; omega
  have hr0 : double.read (hw 0) = .number false 0 (-1074) := by rw [hw_zero]; exact read_zero
  unfold Format.div
  rw [hr0, hrb', hs]
  simp only [Datum.quotient, if_neg kn0, Option.map_some]
  refine congrArg some ?_
  simp [Format.write, Format.nearest]
  rfl
theorem cut_lt (s : Bool) (n d c : Nat) (h : n < c * 2 ^ d) (hc : 0 < c) : Toward.zero.cut s n d < c := by
  unfold Toward.cut
  simp only [Bool.toNat_false, Nat.add_zero]
  rw [Nat.shiftLeft_eq, Nat.one_mul]
  rcases Nat.le_total d (n.log2 + 2) with h1 | h1
  · rw [Nat.min_eq_left h1]
    exact (Nat.div_lt_iff_lt_mul (Nat.two_pow_pos d)).2 h
  · rw [Nat.min_eq_right h1]
    have h2 : n < 2 ^ (n.log2 + 2) := Nat.lt_trans Nat.lt_log2_self (Nat.pow_lt_pow_right (by decide) (by omega))
    rw [Nat.div_eq_of_lt h2]
    exact hc
theorem mag_lt (m : Nat) (i : Int) (h : m * 2 ^ (i - min i 10).toNat < 2 ^ 52 * 2 ^ (10 - min i 10).toNat) : m * 2 ^ i.toNat < 2 ^ 62 * 2 ^ (-i).toNat := by
  by_cases h1 : 10 ≤ i
  · obtain ⟨k, hk⟩ : ∃ k : Nat, i = 10 + k := ⟨(i - 10).toNat, by omega⟩
    subst hk
    have e1 : ((10 : Int) + k - min (10 + (k : Int)) 10).toNat = k := by omega
    have e2 : ((10 : Int) - min (10 + (k : Int)) 10).toNat = 0 := by omega
    have e3 : ((10 : Int) + k).toNat = 10 + k := by omega
    have e4 : (-((10 : Int) + k)).toNat = 0 := by omega
    rw [e1, e2] at h
    rw [e3, e4, Nat.pow_add]
    rw [show m * (2 ^ 10 * 2 ^ k) = 2 ^ 10 * (m * 2 ^ k) from by ac_rfl]
    generalize m * 2 ^ k = z at *
    omega
  · by_cases h2 : 0 ≤ i
    · obtain ⟨k, hk⟩ : ∃ k : Nat, i = k := ⟨i.toNat, by omega⟩
      subst hk
      have e1 : ((k : Int) - min (k : Int) 10).toNat = 0 := by omega
      have e2 : ((10 : Int) - min (k : Int) 10).toNat = 10 - k := by omega
      have e3 : (k : Int).toNat = k := by omega
      have e4 : (-(k : Int)).toNat = 0 := by omega
      rw [e1, e2] at h
      rw [e3, e4]
      have h5 : 2 ^ (10 - k) * 2 ^ k = 2 ^ 10 := by rw [← Nat.pow_add]; congr 1; omega
      have h6 := Nat.mul_lt_mul_of_pos_right h (Nat.two_pow_pos k)
      rw [Nat.pow_zero, Nat.mul_one, Nat.mul_assoc, h5] at h6
      rw [Nat.pow_zero, Nat.mul_one]
      generalize m * 2 ^ k = z at *
      omega
    · obtain ⟨k, hk⟩ : ∃ k : Nat, i = -(k : Int) := ⟨(-i).toNat, by omega⟩
      subst hk
      have e1 : (-(k : Int) - min (-(k : Int)) 10).toNat = 0 := by omega
      have e2 : ((10 : Int) - min (-(k : Int)) 10).toNat = 10 + k := by omega
      have e3 : (-(k : Int)).toNat = 0 := by omega
      have e4 : (- -(k : Int)).toNat = k := by omega
      rw [e1, e2] at h
      rw [e3, e4]
      rw [Nat.pow_add, ← Nat.mul_assoc] at h
      simpa using h
theorem toInt_range (x : Nat) (h2 : double.order x 14109777632551763968 = some .gt) (h3 : double.order x 4886405595696988160 = some .lt) : ∃ n : Int, (double.read x).toInt .zero = some n ∧ -4611686018427387904 ≤ n ∧ n ≤ 4611686018427387904 := by
  unfold Format.order at h2 h3
  rw [read_small] at h2
  rw [read_big] at h3
  cases hx : double.read x with
  | nan s t => rw [hx] at h2; cases h2
  | infinity s =>
    rw [hx] at h2 h3
    cases s
    · cases h3
    · cases h2
  | number s m i =>
    rw [hx] at h2 h3
    simp only [Datum.order, Option.some.injEq] at h2 h3
    rw [Int.compare_eq_ite_lt] at h2 h3
    rw [signed_eq, signed_eq] at h2 h3
    have hm : m * 2 ^ (i - min i 10).toNat < 2 ^ 52 * 2 ^ (10 - min i 10).toNat := by
      cases s
      · simp only [Bool.false_eq_true, if_false] at h3
        split at h3
        · rename_i hlt
          rw [← Int.natCast_mul, ← Int.natCast_mul] at hlt
          exact Int.ofNat_lt.1 hlt
        · split at h3 <;> cases h3
      · simp only [if_true] at h2
        split at h2
        · cases h2
        · split at h2
          · rename_i hlt
            rw [Int.neg_mul, Int.neg_mul, ← Int.natCast_mul, ← Int.natCast_mul] at hlt
            exact Int.ofNat_lt.1 (by omega)
          · cases h2
    have hc := cut_lt s _ _ (2 ^ 62) (mag_lt m i hm) (by decide)
    unfold Datum.toInt
    simp only [Datum.integral, signed_eq, Nat.shiftLeft_eq]
    refine ⟨_, rfl, ?_⟩
    generalize Toward.zero.cut s (m * 2 ^ i.toNat) (-i).toNat = c at hc
    cases s
    · simp; omega
    · simp; omega
theorem order_zero (b : Int) (hb : Hb b) (b0 : b ≠ 0) : (double.order (hw b) 0 == some .eq) = false := by
  rw [stands_order (stands_hwx b hb) stands_zero, Int.compare_eq_ite_lt]
  by_cases h : b < 0
  · rw [if_pos h]; rfl
  · rw [if_neg h, if_pos (by omega)]; rfl
end Fl
end Go.Proofs.YtpamlgdcnmcedaaGreatDoor
