import GoSem.Core.Float
namespace Go.Proofs.YtpamlgdcnmcedaaGreatDoor
namespace Fl
open Ieee

theorem log2_shl (m k : Nat) (hm : m ≠ 0) : (m <<< k).log2 = m.log2 + k := by
  rw [Nat.shiftLeft_eq]
  have hp : 0 < 2 ^ k := Nat.two_pow_pos k
  have h0 : m * 2 ^ k ≠ 0 := by
    have := Nat.mul_pos (Nat.pos_of_ne_zero hm) hp
    omega
  apply Nat.le_antisymm
  · have h1 : m < 2 ^ (m.log2 + 1) := Nat.lt_log2_self
    have h2 : m * 2 ^ k < 2 ^ (m.log2 + k + 1) := by
      have := Nat.mul_lt_mul_of_pos_right h1 hp
      rw [← Nat.pow_add] at this
      rw [show m.log2 + k + 1 = m.log2 + 1 + k from by omega]
      exact this
    exact Nat.lt_succ_iff.1 ((Nat.log2_lt h0).2 h2)
  · rw [Nat.le_log2 h0, Nat.pow_add]
    exact Nat.mul_le_mul_right _ (Nat.log2_self_le hm)

theorem cut_shl (way : Toward) (neg : Bool) (m d : Nat) : way.cut neg (m <<< d) d = m := by
  rcases Nat.eq_zero_or_pos m with h | h
  · subst h
    cases way <;> simp [Toward.cut, Nat.shiftLeft_eq]
  · have hl := log2_shl m d (by omega)
    have hmin : min d ((m <<< d).log2 + 2) = d := by rw [hl]; omega
    have h1 : m <<< d / 1 <<< d = m := by
      rw [Nat.shiftLeft_eq, Nat.shiftLeft_eq, Nat.one_mul]
      exact Nat.mul_div_cancel _ (Nat.two_pow_pos d)
    have h2 : m <<< d % 1 <<< d = 0 := by
      rw [Nat.shiftLeft_eq, Nat.shiftLeft_eq, Nat.one_mul]
      exact Nat.mul_mod_left _ _
    have h3 : (1 <<< d == 0) = false := by
      rw [Nat.shiftLeft_eq, Nat.one_mul]
      have := Nat.two_pow_pos d
      simp
    unfold Toward.cut
    simp only [hmin, h1, h2]
    cases way <;> simp [Nat.shiftLeft_eq]

theorem cut_zero_drop (way : Toward) (neg : Bool) (n : Nat) : way.cut neg n 0 = n := by
  have := cut_shl way neg n 0
  simpa using this

theorem log2_lt53 {m : Nat} (h : m < 2 ^ 53) : m.log2 ≤ 52 := by
  rcases Nat.eq_zero_or_pos m with h0 | h0
  · subst h0; simp
  · exact Nat.lt_succ_iff.1 ((Nat.log2_lt (by omega)).2 h)

/-- The kept digits. -/
def keep (m : Nat) : Nat := m <<< (52 - m.log2)
theorem keep_lo {m : Nat} (h0 : m ≠ 0) (h : m < 2 ^ 53) : 2 ^ 52 ≤ keep m := by
  have hl := log2_lt53 h
  unfold keep
  rw [Nat.shiftLeft_eq]
  calc 2 ^ 52 = 2 ^ m.log2 * 2 ^ (52 - m.log2) := by rw [← Nat.pow_add]; congr 1; omega
    _ ≤ m * 2 ^ (52 - m.log2) := Nat.mul_le_mul_right _ (Nat.log2_self_le h0)
theorem keep_hi {m : Nat} (h : m < 2 ^ 53) : keep m < 2 ^ 53 := by
  have hl := log2_lt53 h
  unfold keep
  rw [Nat.shiftLeft_eq]
  calc m * 2 ^ (52 - m.log2) < 2 ^ (m.log2 + 1) * 2 ^ (52 - m.log2) := Nat.mul_lt_mul_of_pos_right Nat.lt_log2_self (Nat.two_pow_pos _)
    _ = 2 ^ 53 := by rw [← Nat.pow_add]; congr 1; omega

theorem leastPlace_double : double.leastPlace = -1074 := by decide
theorem binade_double : double.binade = 2 ^ 52 := by decide
theorem fraction_double : double.fractionBits = 52 := rfl
theorem infRung_double : double.infRung = 2047 * 2 ^ 52 := by decide
theorem signWeight_double : double.signWeight = 2 ^ 63 := by decide

theorem nearest_eq (neg : Bool) (m k : Nat) (p : Int) (hm : m ≠ 0) (h53 : m < 2 ^ 53) (hlo : -1074 ≤ p + k + m.log2 - 52) (hhi : p + k + m.log2 ≤ 1000) :
    double.nearest neg (m <<< k) p = double.word neg ((p + k + m.log2 + 1022).toNat * 2 ^ 52 + keep m) := by
  have hl := log2_lt53 h53
  have hne : m <<< k ≠ 0 := by
    rw [Nat.shiftLeft_eq]
    have := Nat.mul_pos (Nat.pos_of_ne_zero hm) (Nat.two_pow_pos k)
    omega
  have hlast : max (p + ((m <<< k).log2 : Int) - (52 : Nat)) (-1074) = p + k + m.log2 - 52 := by
    rw [log2_shl m k hm]
    omega
  unfold Format.nearest
  rw [if_neg hne]
  simp only [leastPlace_double, fraction_double, binade_double, hlast, infRung_double]
  have hkept : Toward.even.cut neg ((m <<< k) <<< (p - (p + k + m.log2 - 52)).toNat) (p + k + m.log2 - 52 - p).toNat = keep m := by
    by_cases hc : 52 ≤ k + m.log2
    · have e1 : (p - (p + (k : Int) + m.log2 - 52)).toNat = 0 := by omega
      have e2 : (p + (k : Int) + m.log2 - 52 - p).toNat = k + m.log2 - 52 := by omega
      rw [e1, e2, Nat.shiftLeft_zero]
      have e3 : m <<< k = keep m <<< (k + m.log2 - 52) := by
        unfold keep
        rw [← Nat.shiftLeft_add]
        congr 1
        omega
      rw [e3, cut_shl]
    · have e1 : (p - (p + (k : Int) + m.log2 - 52)).toNat = 52 - k - m.log2 := by omega
      have e2 : (p + (k : Int) + m.log2 - 52 - p).toNat = 0 := by omega
      rw [e1, e2, cut_zero_drop, ← Nat.shiftLeft_add]
      unfold keep
      congr 1
      omega
  have hk := keep_hi h53
  have e4 : (p + (k : Int) + m.log2 - 52 - -1074).toNat = (p + k + m.log2 + 1022).toNat := by omega
  have e5 : (p + (k : Int) + m.log2 + 1022).toNat ≤ 2022 := by omega
  rw [hkept, e4]
  generalize (p + (k : Int) + m.log2 + 1022).toNat = E at e5
  rw [Nat.min_eq_left (by omega)]

theorem read_word (neg : Bool) (E K : Nat) (hlo : 2 ^ 52 ≤ K) (hhi : K < 2 ^ 53) (hE : E ≤ 2022) :
    double.read (double.word neg (E * 2 ^ 52 + K)) = .number neg K (-1074 + E) := by
  have hr : E * 2 ^ 52 + K < 2 ^ 63 := by omega
  have h1 : double.word neg (E * 2 ^ 52 + K) / double.signWeight % 2 = neg.toNat := by
    rw [signWeight_double]; unfold Format.word; rw [signWeight_double]
    cases neg
    · simp; omega
    · simp; omega
  have h2 : double.word neg (E * 2 ^ 52 + K) % double.signWeight = E * 2 ^ 52 + K := by
    rw [signWeight_double]; unfold Format.word; rw [signWeight_double]
    cases neg
    · simp; omega
    · simp; omega
  unfold Format.read
  simp only [h1, h2, binade_double, infRung_double, leastPlace_double]
  rw [if_neg (by omega), if_pos (by omega)]
  have e1 : 2 ^ 52 + (E * 2 ^ 52 + K) % 2 ^ 52 = K := by omega
  have e2 : (E * 2 ^ 52 + K) / 2 ^ 52 - 1 = E := by omega
  rw [e1, e2]
  cases neg <;> rfl

theorem read_nearest (neg : Bool) (m k : Nat) (p : Int) (hm : m ≠ 0) (h53 : m < 2 ^ 53) (hlo : -1074 ≤ p + k + m.log2 - 52) (hhi : p + k + m.log2 ≤ 1000) :
    double.read (double.nearest neg (m <<< k) p) = .number neg (keep m) (p + k + m.log2 - 52) := by
  rw [nearest_eq neg m k p hm h53 hlo hhi, read_word neg _ _ (keep_lo hm h53) (keep_hi h53) (by omega)]
  congr 1
  omega

theorem nearest_same (neg : Bool) (m k k' : Nat) (p p' : Int) (hm : m ≠ 0) (h53 : m < 2 ^ 53) (hlo : -1074 ≤ p + k + m.log2 - 52) (hhi : p + k + m.log2 ≤ 1000) (he : p + k = p' + k') :
    double.nearest neg (m <<< k) p = double.nearest neg (m <<< k') p' := by
  rw [nearest_eq neg m k p hm h53 hlo hhi, nearest_eq neg m k' p' hm h53 (by omega) (by omega), show p' + (k' : Int) + m.log2 + 1022 = p + k + m.log2 + 1022 from by omega]
theorem nearest_same0 (neg : Bool) (m k : Nat) (p p' : Int) (hm : m ≠ 0) (h53 : m < 2 ^ 53) (hlo : -1074 ≤ p + k + m.log2 - 52) (hhi : p + k + m.log2 ≤ 1000) (he : p + k = p') :
    double.nearest neg (m <<< k) p = double.nearest neg m p' := by
  have := nearest_same neg m k 0 p p' hm h53 hlo hhi (by omega)
  rwa [Nat.shiftLeft_zero] at this
theorem nearest_zero (neg : Bool) (p : Int) : double.nearest neg 0 p = double.word neg 0 := by simp [Format.nearest]
theorem read_zero : double.read (double.word false 0) = .number false 0 (-1074) := by decide

/-! ### The halves: 'hw h' is the double of h / 2; 'fl n' that of n. -/
def hw (h : Int) : Nat := double.nearest (decide (h < 0)) h.natAbs (-1)
def fl (n : Int) : Nat := double.nearest (decide (n < 0)) n.natAbs 0

theorem fl_hw (n : Int) (h : n.natAbs < 2 ^ 53) : fl n = hw (2 * n) := by
  unfold fl hw
  have e1 : decide (2 * n < 0) = decide (n < 0) := by simp; omega
  have e2 : (2 * n).natAbs = n.natAbs <<< 1 := by rw [Nat.shiftLeft_eq]; omega
  rw [e1, e2]
  by_cases h0 : n.natAbs = 0
  · rw [h0]; simp [Format.nearest]
  · have hl := log2_lt53 h
    exact (nearest_same0 _ _ 1 (-1) 0 h0 h (by omega) (by omega) (by omega)).symm

theorem read_fl (n : Int) (h0 : n ≠ 0) (h : n.natAbs < 2 ^ 53) : double.read (fl n) = .number (decide (n < 0)) (keep n.natAbs) (n.natAbs.log2 - 52) := by
  have hl := log2_lt53 h
  have := read_nearest (decide (n < 0)) n.natAbs 0 0 (by omega) h (by omega) (by omega)
  rw [Nat.shiftLeft_zero] at this
  unfold fl
  rw [this]
  congr 1
  omega
theorem read_hw (n : Int) (h0 : n ≠ 0) (h : n.natAbs < 2 ^ 53) : double.read (hw n) = .number (decide (n < 0)) (keep n.natAbs) (n.natAbs.log2 - 53) := by
  have hl := log2_lt53 h
  have := read_nearest (decide (n < 0)) n.natAbs 0 (-1) (by omega) h (by omega) (by omega)
  rw [Nat.shiftLeft_zero] at this
  unfold hw
  rw [this]
  congr 1
  omega
theorem read_fl_zero : double.read (fl 0) = .number false 0 (-1074) := by decide

theorem read_two : double.read 4611686018427387904 = .number false (2 ^ 52) (-51) := by
  have := read_word false 1023 (2 ^ 52) (by omega) (by omega) (by omega)
  exact this
def D52 : Nat := 2 ^ 52
/-- 'float64(h) / 2'. -/
theorem quot_core (s t : Bool) (m N q : Nat) (i j : Int) (hm : m.log2 = 52) (hN : N.log2 = 52) (hN0 : N ≠ 0) (hq : m <<< 54 = q * N) :
    Datum.quotient (double.fractionBits + 2) (.number s m i) (.number t N j) = some (.number (s ^^ t) (2 * q) (i - j - (54 : Nat) - 1)) := by
  have e1 : double.fractionBits + 2 + N.log2 - m.log2 = 54 := by rw [hm, hN]; rfl
  simp only [Datum.quotient]
  rw [if_neg hN0, e1, hq, Nat.mul_div_cancel _ (Nat.pos_of_ne_zero hN0), Nat.mul_mod_left]
  rfl
theorem log2_keep {m : Nat} (h0 : m ≠ 0) (h : m < 2 ^ 53) : (keep m).log2 = 52 := by
  have hl := log2_lt53 h
  unfold keep
  rw [log2_shl _ _ h0]
  omega
theorem div_two (h : Int) (h0 : h ≠ 0) (hb : h.natAbs < 2 ^ 53) : double.div (fl h) 4611686018427387904 = some (hw h) := by
  have hl := log2_lt53 hb
  have hk := log2_keep (m := h.natAbs) (by omega) hb
  unfold Format.div
  rw [read_fl h h0 hb, read_two]
  have e2 : keep h.natAbs <<< 54 = (keep h.natAbs <<< 2) * 2 ^ 52 := by
    rw [Nat.shiftLeft_eq, Nat.shiftLeft_eq, Nat.mul_assoc, ← Nat.pow_add]
  rw [quot_core _ _ _ _ _ _ _ hk Nat.log2_two_pow (by decide) e2]
  simp only [Option.map_some, Format.write, Bool.xor_false]
  refine congrArg some ?_
  have e5 : 2 * keep h.natAbs <<< 2 = h.natAbs <<< (55 - h.natAbs.log2) := by
    unfold keep
    simp only [Nat.shiftLeft_eq]
    rw [show 55 - h.natAbs.log2 = (52 - h.natAbs.log2) + 3 from by omega, Nat.pow_add, ← Nat.mul_assoc h.natAbs]
    omega
  rw [e5]
  exact nearest_same0 _ _ _ _ _ (by omega) hb (by omega) (by omega) (by omega)

/-- '2 * x' of a half. -/
theorem two_mul (h : Int) (h0 : h ≠ 0) (hb : h.natAbs < 2 ^ 53) : double.mul 4611686018427387904 (hw h) = some (fl h) := by
  have hl := log2_lt53 hb
  unfold Format.mul
  rw [read_hw h h0 hb, read_two]
  simp only [Datum.product, Option.map_some, Format.write, Bool.false_xor]
  refine congrArg some ?_
  have e5 : 2 ^ 52 * keep h.natAbs = h.natAbs <<< (104 - h.natAbs.log2) := by
    unfold keep
    rw [Nat.shiftLeft_eq, Nat.shiftLeft_eq]
    rw [show 104 - h.natAbs.log2 = (52 - h.natAbs.log2) + 52 from by omega, Nat.pow_add, Nat.mul_comm, Nat.mul_assoc]
  rw [e5]
  exact nearest_same0 _ _ _ _ _ (by omega) hb (by omega) (by omega) (by omega)

/-! ### Order: two numbers of the format stand as what they are the halves of. -/
theorem compare_scale (a b : Int) (c : Int) (hc : 0 < c) : compare (a * c) (b * c) = compare a b := by
  rw [Int.compare_eq_ite_lt, Int.compare_eq_ite_lt]
  have h1 : a * c < b * c ↔ a < b := ⟨fun h => Int.lt_of_mul_lt_mul_right h (Int.le_of_lt hc), fun h => Int.mul_lt_mul_of_pos_right h hc⟩
  have h2 : b * c < a * c ↔ b < a := ⟨fun h => Int.lt_of_mul_lt_mul_right h (Int.le_of_lt hc), fun h => Int.mul_lt_mul_of_pos_right h hc⟩
  simp only [h1, h2]

theorem signed_eq (neg : Bool) (m k : Nat) : signed neg m k = (if neg then -(m : Int) else m) * ((2 ^ k : Nat) : Int) := by
  unfold signed
  rw [Nat.shiftLeft_eq]
  cases neg
  · simp
  · simp [Int.neg_mul]

@[irreducible] def uexp : Nat := 1073
theorem uexp_eq : uexp = 1073 := by unfold uexp; rfl
def unit : Nat := 2 ^ uexp
theorem unit_pos : (0 : Int) < (unit : Int) := Int.natCast_pos.2 (Nat.two_pow_pos uexp)
/-- 'x stands for h / 2' (or is a zero). -/
def Stands (x : Nat) (h : Int) : Prop := ∃ s m i, double.read x = .number s m i ∧ -1074 ≤ i ∧ signed s m (i + 1074).toNat = h * (unit : Int)

theorem stands_order {x y : Nat} {a b : Int} (hx : Stands x a) (hy : Stands y b) : double.order x y = some (compare a b) := by
  obtain ⟨s, m, i, rx, hi, ex⟩ := hx
  obtain ⟨t, n, j, ry, hj, ey⟩ := hy
  unfold Format.order
  rw [rx, ry]
  simp only [Datum.order]
  refine congrArg some ?_
  obtain ⟨base, hbase⟩ : ∃ base, base = min i j := ⟨_, rfl⟩
  rw [← hbase]
  have hb1 : base ≤ i := by omega
  have hb2 : base ≤ j := by omega
  have hb3 : -1074 ≤ base := by omega
  have sc : ∀ (s : Bool) (m : Nat) (i : Int), base ≤ i → signed s m (i + 1074).toNat = signed s m (i - base).toNat * ((2 ^ (base + 1074).toNat : Nat) : Int) := by
    intro s m i hi
    rw [signed_eq, signed_eq, Int.mul_assoc, ← Int.natCast_mul, ← Nat.pow_add]
    congr 4
    omega
  rw [sc s m i hb1] at ex
  rw [sc t n j hb2] at ey
  have p1 : (0 : Int) < ((2 ^ (base + 1074).toNat : Nat) : Int) := Int.natCast_pos.2 (Nat.two_pow_pos _)
  rw [← compare_scale _ _ _ p1, ex, ey, compare_scale _ _ _ unit_pos]

theorem keep_unit (m e : Nat) (h : m < 2 ^ 53) (he : e = m.log2 + 1021) : keep m * 2 ^ e = m * unit := by
  have hl := log2_lt53 h
  have hu := uexp_eq
  unfold keep unit
  rw [Nat.shiftLeft_eq, Nat.mul_assoc, ← Nat.pow_add, show 52 - m.log2 + e = uexp from by omega]
theorem stands_hw (h : Int) (hb : h.natAbs < 2 ^ 53) : Stands (hw h) h := by
  by_cases h0 : h = 0
  · subst h0
    exact ⟨false, 0, -1074, by unfold hw; rw [show (0 : Int).natAbs = 0 from rfl, nearest_zero]; exact read_zero, by omega, by simp [signed]⟩
  · have hl := log2_lt53 hb
    refine ⟨_, _, _, read_hw h h0 hb, by omega, ?_⟩
    rw [signed_eq]
    have hk := keep_unit h.natAbs (((h.natAbs.log2 : Int) - 53 + 1074).toNat) hb (by omega)
    have hk' : (keep h.natAbs : Int) * ((2 ^ ((h.natAbs.log2 : Int) - 53 + 1074).toNat : Nat) : Int) = (h.natAbs : Int) * (unit : Int) := by
      rw [← Int.natCast_mul, hk, Int.natCast_mul]
    by_cases hs : h < 0
    · simp only [hs, decide_true, if_true]
      rw [Int.neg_mul, hk', ← Int.neg_mul]
      congr 1
      omega
    · simp only [hs, decide_false, Bool.false_eq_true, if_false]
      rw [hk']
      congr 1
      omega
theorem stands_fl (n : Int) (hb : n.natAbs < 2 ^ 53) : Stands (fl n) (2 * n) := by
  by_cases h0 : n = 0
  · subst h0
    exact ⟨false, 0, -1074, read_fl_zero, by omega, by simp [signed]⟩
  · have hl := log2_lt53 hb
    refine ⟨_, _, _, read_fl n h0 hb, by omega, ?_⟩
    rw [signed_eq]
    have hk := keep_unit n.natAbs (n.natAbs.log2 + 1021) hb rfl
    have e1 : ((n.natAbs.log2 : Int) - 52 + 1074).toNat = n.natAbs.log2 + 1021 + 1 := by omega
    have hk' : (keep n.natAbs : Int) * ((2 ^ ((n.natAbs.log2 : Int) - 52 + 1074).toNat : Nat) : Int) = 2 * ((n.natAbs : Int) * (unit : Int)) := by
      rw [e1, Nat.pow_succ, ← Int.natCast_mul, ← Nat.mul_assoc, hk, Nat.mul_comm, Int.natCast_mul, Int.natCast_mul]
      rfl
    by_cases hs : n < 0
    · simp only [hs, decide_true, if_true]
      have e9 : -(2 * (n.natAbs : Int)) = 2 * n := by omega
      rw [Int.neg_mul, hk', ← Int.mul_assoc, ← Int.neg_mul, e9]
    · simp only [hs, decide_false, Bool.false_eq_true, if_false]
      have e9 : 2 * (n.natAbs : Int) = 2 * n := by omega
      rw [hk', ← Int.mul_assoc, e9]
theorem stands_zero : Stands 0 0 := ⟨false, 0, -1074, read_zero, by omega, by simp [signed]⟩
/-- 2^62 and its opposite, as the text writes them. -/
theorem big_unit : 2 ^ 52 * 2 ^ (10 + 1074 : Int).toNat = 2 ^ 63 * unit := by
  have h : ∀ u : Nat, 2 ^ 52 * (2 ^ 11 * u) = 2 ^ 63 * u := by intro u; omega
  have e : (10 + 1074 : Int).toNat = 11 + uexp := by have := uexp_eq; omega
  have e2 := Nat.pow_add 2 11 uexp
  rw [e, e2]
  exact h unit
theorem read_big : double.read 4886405595696988160 = .number false (2 ^ 52) 10 := by
  have := read_word false 1084 (2 ^ 52) (by omega) (by omega) (by omega)
  exact this
theorem read_small : double.read 14109777632551763968 = .number true (2 ^ 52) 10 := by
  have := read_word true 1084 (2 ^ 52) (by omega) (by omega) (by omega)
  exact this
theorem read_one : double.read 4607182418800017408 = .number false (2 ^ 52) (-52) := by
  have := read_word false 1022 (2 ^ 52) (by omega) (by omega) (by omega)
  exact this
theorem stands_big : Stands 4886405595696988160 (2 ^ 63) := by
  refine ⟨false, 2 ^ 52, 10, read_big, by omega, ?_⟩
  rw [signed_eq]
  simp only [Bool.false_eq_true, if_false]
  rw [show (2 ^ 63 : Int) = ((2 ^ 63 : Nat) : Int) from rfl, ← Int.natCast_mul, ← Int.natCast_mul]
  exact congrArg (fun n : Nat => (n : Int)) big_unit
theorem stands_small : Stands 14109777632551763968 (-2 ^ 63) := by
  refine ⟨true, 2 ^ 52, 10, read_small, by omega, ?_⟩
  rw [signed_eq]
  simp only [if_true]
  rw [Int.neg_mul, Int.neg_mul, show (2 ^ 63 : Int) = ((2 ^ 63 : Nat) : Int) from rfl, ← Int.natCast_mul, ← Int.natCast_mul]
  exact congrArg (fun n : Nat => -(n : Int)) big_unit

/-! ### Trunc and int -/
theorem integral_fl (n : Int) (hb : n.natAbs < 2 ^ 53) : (double.read (fl n)).integral .zero = .number (decide (n < 0)) n.natAbs 0 := by
  by_cases h0 : n = 0
  · subst h0
    rw [read_fl_zero]
    rfl
  · have hl := log2_lt53 hb
    rw [read_fl n h0 hb]
    simp only [Datum.integral]
    have e1 : ((n.natAbs.log2 : Int) - 52).toNat = 0 := by omega
    have e2 : (-((n.natAbs.log2 : Int) - 52)).toNat = 52 - n.natAbs.log2 := by omega
    rw [e1, e2, Nat.shiftLeft_zero]
    unfold keep
    rw [cut_shl]
theorem trunc_fl (n : Int) (hb : n.natAbs < 2 ^ 53) : double.write ((double.read (fl n)).integral .zero) = fl n := by rw [integral_fl n hb]; rfl
theorem toInt_fl (n : Int) (hb : n.natAbs < 2 ^ 53) : (double.read (fl n)).toInt .zero = some n := by
  unfold Datum.toInt
  rw [integral_fl n hb]
  simp only [signed, Nat.shiftLeft_zero]
  refine congrArg some ?_
  by_cases hs : n < 0
  · simp only [hs, decide_true, if_true]; omega
  · simp only [hs, decide_false, Bool.false_eq_true, if_false]; omega

/-- 'depth - 1'. -/
theorem sub_one (n : Int) (h1 : 1 ≤ n) (hb : n.natAbs < 2 ^ 53) : double.sub (fl n) 4607182418800017408 = some (fl (n - 1)) := by
  have hl := log2_lt53 hb
  unfold Format.sub
  rw [read_fl n (by omega) hb, read_one]
  have hbase : min ((n.natAbs.log2 : Int) - 52) (-52) = -52 := by omega
  simp only [Datum.opposite, Datum.sum, hbase, Option.map_some, Format.write, Bool.not_false]
  refine congrArg some ?_
  have ds : decide (n < 0) = false := by simp; omega
  have e1 : ((n.natAbs.log2 : Int) - 52 - -52).toNat = n.natAbs.log2 := by omega
  have e2 : signed false (keep n.natAbs) n.natAbs.log2 = n * ((2 ^ 52 : Nat) : Int) := by
    rw [signed_eq]
    simp only [Bool.false_eq_true, if_false]
    unfold keep
    rw [← Int.natCast_mul, Nat.shiftLeft_eq, Nat.mul_assoc, ← Nat.pow_add, show 52 - n.natAbs.log2 + n.natAbs.log2 = 52 from by omega, Int.natCast_mul]
    congr 1
    omega
  have e3 : signed true (2 ^ 52) (-52 - -52 : Int).toNat = -1 * ((2 ^ 52 : Nat) : Int) := by decide
  rw [ds, e1, e2, e3, ← Int.add_mul]
  have e4 : (n + -1) * ((2 ^ 52 : Nat) : Int) = ((n - 1).natAbs * 2 ^ 52 : Nat) := by
    rw [Int.natCast_mul]
    congr 1
    omega
  rw [e4]
  by_cases h0 : n - 1 = 0
  · rw [h0]
    rfl
  · have hp : (n - 1).natAbs * 2 ^ 52 ≠ 0 := by omega
    rw [if_neg (by omega)]
    have e5 : decide ((((n - 1).natAbs * 2 ^ 52 : Nat) : Int) < 0) = decide (n - 1 < 0) := by
      rw [Bool.eq_iff_iff]
      simp only [decide_eq_true_eq]
      omega
    rw [e5, Int.natAbs_natCast, ← Nat.shiftLeft_eq]
    have hl2 := log2_lt53 (show (n - 1).natAbs < 2 ^ 53 by omega)
    exact nearest_same0 _ _ _ _ _ (by omega) (by omega) (by omega) (by omega) (by omega)
/-! ### 2^53 itself -/
theorem fl_top : fl 9007199254740992 = 4845873199050653696 := by decide +kernel
theorem read_top : double.read 4845873199050653696 = .number false (2 ^ 52) 1 := by
  have := read_word false 1075 (2 ^ 52) (by omega) (by omega) (by omega)
  exact this
theorem top_unit : 2 ^ 52 * 2 ^ (1 + 1074 : Int).toNat = 2 ^ 54 * unit := by
  have h : ∀ u : Nat, 2 ^ 52 * (2 ^ 2 * u) = 2 ^ 54 * u := by intro u; omega
  have e : (1 + 1074 : Int).toNat = 2 + uexp := by have := uexp_eq; omega
  have e2 := Nat.pow_add 2 2 uexp
  rw [e, e2]
  exact h unit
theorem stands_top : Stands 4845873199050653696 (2 ^ 54) := by
  refine ⟨false, 2 ^ 52, 1, read_top, by omega, ?_⟩
  rw [signed_eq]
  simp only [Bool.false_eq_true, if_false]
  rw [show (2 ^ 54 : Int) = ((2 ^ 54 : Nat) : Int) from rfl, ← Int.natCast_mul, ← Int.natCast_mul]
  exact congrArg (fun n : Nat => (n : Int)) top_unit
theorem stands_le (n : Nat) (hb : n ≤ 2 ^ 53) : Stands (fl n) (2 * n) := by
  by_cases h : n < 2 ^ 53
  · exact stands_fl n (by omega)
  · have e : n = 9007199254740992 := by omega
    subst e
    have := stands_top
    rw [← fl_top] at this
    exact this
theorem sub_top : double.sub 4845873199050653696 4607182418800017408 = some (fl 9007199254740991) := by decide +kernel
theorem sub_le (n : Nat) (h1 : 1 ≤ n) (hb : n ≤ 2 ^ 53) : double.sub (fl n) 4607182418800017408 = some (fl ((n : Int) - 1)) := by
  by_cases h : n < 2 ^ 53
  · exact sub_one n (by omega) (by omega)
  · have e : n = 9007199254740992 := by omega
    subst e
    have := sub_top
    rw [← fl_top] at this
    exact this
end Fl
end Go.Proofs.YtpamlgdcnmcedaaGreatDoor
