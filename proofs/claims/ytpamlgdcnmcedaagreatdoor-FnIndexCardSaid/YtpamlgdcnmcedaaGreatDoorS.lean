/- Strings in the order of their bytes; lists of keys that rise. -/
import Derived.Test.YtpamlgdcnmcedaaGreatDoorW
import Derived.Sort.Walk0
set_option linter.unusedVariables false
namespace Go.Proofs.YtpamlgdcnmcedaaGreatDoor
open Go Go.RowKit
def bl (a b : ByteArray) : Bool := Op.bytesLess a.toList b.toList
theorem bl_lt (a b : ByteArray) : bl a b = decide (a.toList < b.toList) := bytesLess_eq _ _
theorem bl_irrefl (a : ByteArray) : bl a a = false := by
  rw [bl_lt]
  simp
theorem bl_trans {a b c : ByteArray} (h1 : bl a b = true) (h2 : bl b c = true) : bl a c = true := by
  rw [bl_lt, decide_eq_true_eq] at *
  exact List.lt_trans h1 h2
theorem sortedS_lt {ks : List ByteArray} (h : sortedS ks) (i : Nat) (a : ByteArray) (ha : ks[i]? = some a) : ∀ (d : Nat) (b : ByteArray), ks[i + 1 + d]? = some b → bl a b = true
  | 0, b, hb => h i a b ha hb
  | d + 1, b, hb => by
    have hlt : i + 1 + d < ks.length := by
      have := (List.getElem?_eq_some_iff.1 hb).1
      omega
    have hc : ks[i + 1 + d]? = some ks[i + 1 + d] := List.getElem?_eq_getElem hlt
    exact bl_trans (sortedS_lt h i a ha d _ hc) (h (i + 1 + d) _ b hc hb)
theorem sortedS_nodup {ks : List ByteArray} (h : sortedS ks) : ks.Nodup := by
  rw [List.Nodup, List.pairwise_iff_getElem]
  intro i j hi hj hij he
  have := sortedS_lt h i ks[i] (List.getElem?_eq_getElem hi) (j - i - 1) ks[j] (by rw [show i + 1 + (j - i - 1) = j from by omega]; exact List.getElem?_eq_getElem hj)
  rw [he, bl_irrefl] at this
  cases this
end Go.Proofs.YtpamlgdcnmcedaaGreatDoor
