/- Floats: a quotient of two integers or halves that is an integer or a half is found exactly (for FnDiv). -/
import Derived.Test.YtpamlgdcnmcedaaGreatDoorFl
namespace Go.Proofs.YtpamlgdcnmcedaaGreatDoor
namespace Fl
open Ieee
theorem div_core (s t : Bool) (x y m n q d : Nat) (a b : Int) (hx : double.read x = .number s (keep m) (m.log2 - 52 + a)) (hy : double.read y = .number t (keep n) (n.log2 - 52 + b))
    (hm0 : m ≠ 0) (hn0 : n ≠ 0) (hm : m < 2 ^ 53) (hn : n < 2 ^ 53) (hq0 : q ≠ 0) (hq : q < 2 ^ 53) (hd : d ≤ 3) (hk : m.log2 + d ≤ 54 + n.log2) (had : a - b + 1 = d) (h : m * 2 ^ d = q * n) :
    double.div x y = some (double.nearest (s ^^ t) q (-1)) := by
  have hlm := log2_lt53 hm
  have hln := log2_lt53 hn
  have hlq := log2_lt53 hq
  have km := log2_keep hm0 hm
  have kn := log2_keep hn0 hn
  have kn0 : keep n ≠ 0 := by
    intro h0
    have := keep_lo hn0 hn
    omega
  unfold Format.div
  rw [hx, hy]
  have e2 : keep m <<< 54 = (q <<< (54 + n.log2 - m.log2 - d)) * keep n := by
    unfold keep
    simp only [Nat.shiftLeft_eq]
    have p1 : m * 2 ^ (52 - m.log2) * 2 ^ 54 = (m * 2 ^ d) * 2 ^ (106 - m.log2 - d) := by
      rw [Nat.mul_assoc, Nat.mul_assoc, ← Nat.pow_add, ← Nat.pow_add]
      congr 2
      omega
    have p2 : q * 2 ^ (54 + n.log2 - m.log2 - d) * (n * 2 ^ (52 - n.log2)) = (q * n) * 2 ^ (106 - m.log2 - d) := by
      have : 2 ^ (106 - m.log2 - d) = 2 ^ (54 + n.log2 - m.log2 - d) * 2 ^ (52 - n.log2) := by
        rw [← Nat.pow_add]
        congr 1
        omega
      rw [this]
      ac_rfl
    rw [p1, p2, h]
  rw [quot_core _ _ _ _ _ _ _ km kn kn0 e2]
  simp only [Option.map_some, Format.write]
  refine congrArg some ?_
  have e5 : 2 * q <<< (54 + n.log2 - m.log2 - d) = q <<< (55 + n.log2 - m.log2 - d) := by
    simp only [Nat.shiftLeft_eq]
    rw [show 55 + n.log2 - m.log2 - d = (54 + n.log2 - m.log2 - d) + 1 from by omega]
    generalize 54 + n.log2 - m.log2 - d = k
    rw [Nat.pow_succ, Nat.mul_comm (2 ^ k) 2, Nat.mul_left_comm]
  rw [e5]
  exact nearest_same0 _ _ _ _ _ hq0 hq (by omega) (by omega) (by omega)
/-- What reads as m * 2^a / 2, m below 2^53. -/
theorem reads_fl (n : Int) (h0 : n ≠ 0) (h : n.natAbs < 2 ^ 53) : double.read (fl n) = .number (decide (n < 0)) (keep n.natAbs) (n.natAbs.log2 - 52 + 0) := by
  rw [read_fl n h0 h, Int.add_zero]
theorem reads_hw (n : Int) (h0 : n ≠ 0) (h : n.natAbs < 2 ^ 53) : double.read (hw n) = .number (decide (n < 0)) (keep n.natAbs) (n.natAbs.log2 - 52 + (-1)) := by
  rw [read_hw n h0 h]
  congr 1
  omega
theorem reads_top : double.read (fl 9007199254740992) = .number false (keep (2 ^ 52)) ((2 ^ 52 : Nat).log2 - 52 + 1) := by
  rw [fl_top, read_top]
  have e : (2 ^ 52 : Nat).log2 = 52 := by decide
  have k : keep (2 ^ 52) = 2 ^ 52 := by unfold keep; rw [e]; rfl
  rw [k, e]
  rfl
end Fl
end Go.Proofs.YtpamlgdcnmcedaaGreatDoor
