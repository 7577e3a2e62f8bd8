/- Plain: the code points of a text that is valid UTF-8, and the bytes of each. gojq.funcIndex2 at any key: errors, null, objects; toInt, toIntCeil. gojq.funcIndex2 at an object: funcSlice, slice. gojq.sliceString: code points. spec.place, spec.Has, spec.Get. spec.Get. spec.bounds. gojq.funcIndex2 of any two values, against what the reference says of them: sliceString's errors, and the join. -/
import Derived.Lib.MapLaws
import Derived.Lib.ValidLaws
import Derived.Laws.IdiomStrings
import Derived.Laws.Cover4
import Derived.Test.YtpamlgdcnmcedaaGreatDoorI2
import Derived.Test.YtpamlgdcnmcedaaGreatDoorUs
import Derived.Test.YtpamlgdcnmcedaaGreatDoorMa
import Derived.Lib.OthersKept
import Derived.Laws.RangeString
import Derived.Test.YtpamlgdcnmcedaaGreatDoorN1
import Derived.Test.YtpamlgdcnmcedaaGreatDoorP2
import Derived.Deep.RegionHeld3
import Derived.Deep.QuietTactic
import Derived.BigQuiet
import Derived.Test.YtpamlgdcnmcedaaGreatDoorS1
import Derived.Test.YtpamlgdcnmcedaaGreatDoorI1
import Derived.Test.YtpamlgdcnmcedaaGreatDoorRA
set_option linter.unusedVariables false
set_option linter.unusedSimpArgs false
namespace Go.Proofs.YtpamlgdcnmcedaaGreatDoor
open Go
/-- The code points of a text, and the bytes of each. -/
def pcs : Nat → List UInt8 → List (Nat × List UInt8)
  | 0, _ => []
  | n + 1, l => if l = [] then [] else ((Lib.decodeL l).1, l.take (Lib.decodeL l).2) :: pcs n (l.drop (Lib.decodeL l).2)
theorem pcs_nil (n : Nat) : pcs n [] = [] := by cases n <;> simp [pcs]
theorem drop_len {n : Nat} {l : List UInt8} (h : l.length ≤ n + 1) (hne : l ≠ []) : (l.drop (Lib.decodeL l).2).length ≤ n := by
  have := Lib.decodeL_width l
  rw [List.length_drop]
  omega
theorem pcs_flat : ∀ (n : Nat) (l : List UInt8), l.length ≤ n → ((pcs n l).map (·.2)).flatten = l
  | 0, l, h => by
    have : l = [] := List.eq_nil_of_length_eq_zero (by omega)
    rw [this]; rfl
  | n + 1, l, h => by
    rw [pcs]
    split
    · rename_i e; rw [e]; rfl
    · rename_i e
      rw [List.map_cons, List.flatten_cons, pcs_flat n _ (drop_len h e), List.take_append_drop]
theorem pcs_enc : ∀ (n : Nat) (l : List UInt8), l.length ≤ n → Lib.validD l = true → ∀ p, p ∈ pcs n l → Lib.encodeRune (p.1 : Int) = p.2
  | 0, l, h, hv, p, hp => by simp [pcs] at hp
  | n + 1, l, h, hv, p, hp => by
    rw [pcs] at hp
    split at hp
    · cases hp
    · rename_i e
      rw [Lib.validD_step l e] at hv
      split at hv
      · cases hv
      · rename_i hb
        rcases List.mem_cons.1 hp with rfl | hp
        · exact Lib.encode_decode l e hb
        · exact pcs_enc n _ (drop_len h e) hv p hp
theorem pcs_pos : ∀ (n : Nat) (l : List UInt8), l.length ≤ n → ∀ p, p ∈ pcs n l → 1 ≤ p.2.length
  | 0, l, h, p, hp => by simp [pcs] at hp
  | n + 1, l, h, p, hp => by
    rw [pcs] at hp
    split at hp
    · cases hp
    · rename_i e
      rcases List.mem_cons.1 hp with rfl | hp
      · have := Lib.decodeL_width l
        have h0 : 0 < l.length := List.length_pos_iff.2 e
        show 1 ≤ (l.take _).length
        rw [List.length_take]; omega
      · exact pcs_pos n _ (drop_len h e) p hp
theorem pcs_rune : ∀ (n : Nat) (l : List UInt8) (p : Nat × List UInt8), p ∈ pcs n l → p.1 ≤ 1114111
  | 0, l, p, hp => by simp [pcs] at hp
  | n + 1, l, p, hp => by
    rw [pcs] at hp
    split at hp
    · cases hp
    · rcases List.mem_cons.1 hp with rfl | hp
      · exact Lib.decodeL_rune l
      · exact pcs_rune n _ p hp
theorem pcs_len : ∀ (n : Nat) (l : List UInt8), (pcs n l).length ≤ n
  | 0, l => by simp [pcs]
  | n + 1, l => by
    rw [pcs]
    split
    · simp
    · have := pcs_len n (l.drop (Lib.decodeL l).2)
      rw [List.length_cons]; omega
theorem runesFrom_pcs (s : ByteArray) : ∀ (n i : Nat) (acc : Array Value), Conv.runesFrom s n i acc = acc ++ ((pcs n (s.data.toList.drop i)).map fun p => Value.int .i32 (Int.ofNat p.1)).toArray
  | 0, i, acc => by simp [Conv.runesFrom, pcs]
  | n + 1, i, acc => by
    rw [Conv.runesFrom, pcs]
    by_cases hi : i < s.size
    · have hne : ¬ s.data.toList.drop i = [] := by
        intro h
        have := congrArg List.length h
        rw [List.length_drop, Array.length_toList] at this
        have h2 : s.data.size = s.size := rfl
        simp at this
        omega
      rw [if_pos hi, if_neg hne, Lib.decodeL_drop]
      generalize Utf8.decode s i = d
      obtain ⟨r, k⟩ := d
      show Conv.runesFrom s n (i + k) (acc.push (.int .i32 (Int.ofNat r))) = acc ++ (((r, (s.data.toList.drop i).take k) :: pcs n ((s.data.toList.drop i).drop k)).map fun p => Value.int .i32 (Int.ofNat p.1)).toArray
      rw [runesFrom_pcs s n _ _, List.drop_drop, List.map_cons]
      simp
    · have hn : s.data.toList.drop i = [] := List.drop_of_length_le (by rw [Array.length_toList]; show s.size ≤ i; omega)
      rw [if_neg hi, if_pos hn]
      simp
theorem encode_rune (r : Nat) : (Utf8.encode (r : Int)).data.toList = Lib.encodeRune (r : Int) := by
  have key : ∀ (a : List UInt8), ((⟨a.toArray⟩ : ByteArray)).data.toList = a := fun a => by simp
  unfold Utf8.encode Lib.encodeRune
  by_cases hv : Utf8.valid (r : Int) = true
  · simp only [hv, if_true, Int.toNat_natCast]
    simp only [Utf8.valid, Bool.or_eq_true, Bool.and_eq_true, decide_eq_true_eq] at hv
    split
    · rw [Lib.encodeRuneZ_one (by omega) (by omega)]
      simp
    split
    · rw [Lib.encodeRuneZ_two (by omega) (by omega), List.map_cons, List.map_cons, List.map_nil, show (192 + (r : Int) / 64).toNat = 192 + r / 64 by omega, show (128 + (r : Int) % 64).toNat = 128 + r % 64 by omega]
    split
    · rw [Lib.encodeRuneZ_three (by omega), List.map_cons, List.map_cons, List.map_cons, List.map_nil, show (224 + (r : Int) / 4096).toNat = 224 + r / 4096 by omega, show (128 + (r : Int) / 64 % 64).toNat = 128 + r / 64 % 64 by omega, show (128 + (r : Int) % 64).toNat = 128 + r % 64 by omega]
    · rw [Lib.encodeRuneZ_four (by omega) (by omega), List.map_cons, List.map_cons, List.map_cons, List.map_cons, List.map_nil, show (240 + (r : Int) / 262144).toNat = 240 + r / 262144 by omega, show (128 + (r : Int) / 4096 % 64).toNat = 128 + r / 4096 % 64 by omega, show (128 + (r : Int) / 64 % 64).toNat = 128 + r / 64 % 64 by omega, show (128 + (r : Int) % 64).toNat = 128 + r % 64 by omega]
  · have hv' := hv
    simp only [Utf8.valid, Bool.or_eq_true, Bool.and_eq_true, decide_eq_true_eq] at hv'
    rw [Lib.encodeRuneZ_bad (by omega)]
    simp [hv, Utf8.runeError]
theorem runesBytes_list : ∀ (ns : List Nat) (s : ByteArray), ((ns.map fun (n : Nat) => (n : Int)).foldl (fun r n => r ++ Utf8.encode n) s).data.toList = s.data.toList ++ (ns.map fun (n : Nat) => Lib.encodeRune (n : Int)).flatten
  | [], s => by simp
  | n :: ns, s => by
    rw [List.map_cons, List.foldl_cons, runesBytes_list ns, List.map_cons, List.flatten_cons, ByteArray.data_append, Array.toList_append, encode_rune, List.append_assoc]
/-- The bytes of the code points from a on, up to b. -/
theorem runes_back (s : ByteArray) (hv : Lib.validD s.data.toList = true) (ps : List (Nat × List UInt8)) (hp : ∀ p, p ∈ ps → p ∈ pcs s.size s.data.toList) :
    (runesBytes (ps.map fun p => (p.1 : Int))).data.toList = (ps.map (·.2)).flatten := by
  have := runesBytes_list (ps.map (·.1)) ByteArray.empty
  rw [List.map_map] at this
  unfold runesBytes
  rw [show (ps.map fun p => (p.1 : Int)) = ps.map ((fun n : Nat => (n : Int)) ∘ (·.1)) from rfl, this, List.map_map]
  have e : ps.map ((fun (n : Nat) => Lib.encodeRune (n : Int)) ∘ (·.1)) = ps.map (·.2) := List.map_congr_left fun p hp' => pcs_enc s.size _ (by show s.data.toList.length ≤ s.size; simp) hv p (hp p hp')
  rw [e]
  rfl
/-- Where the k-th code point begins. -/
def offP (ps : List (Nat × List UInt8)) (k : Nat) : Nat := ((ps.take k).map (·.2)).flatten.length
theorem offP_zero (ps : List (Nat × List UInt8)) : offP ps 0 = 0 := rfl
theorem offP_all (ps : List (Nat × List UInt8)) (k : Nat) (h : ps.length ≤ k) : offP ps k = (ps.map (·.2)).flatten.length := by unfold offP; rw [List.take_of_length_le h]
theorem offP_succ (ps : List (Nat × List UInt8)) (k : Nat) (p : Nat × List UInt8) (h : ps[k]? = some p) : offP ps (k + 1) = offP ps k + p.2.length := by
  unfold offP
  rw [List.take_add_one, h]
  simp
theorem offP_mono (ps : List (Nat × List UInt8)) (a b : Nat) (h : a ≤ b) : offP ps a ≤ offP ps b := by
  unfold offP
  have : ps.take b = ps.take a ++ (ps.take b).drop a := by
    have e := (List.take_append_drop a (ps.take b)).symm
    rw [List.take_take, Nat.min_eq_left h] at e
    exact e
  rw [this, List.map_append, List.flatten_append, List.length_append]
  omega
/-- The bytes between two places. -/
theorem bytes_between (ps : List (Nat × List UInt8)) (a b : Nat) (h : a ≤ b) : ((ps.map (·.2)).flatten.take (offP ps b)).drop (offP ps a) = ((((ps.take b).drop a)).map (·.2)).flatten := by
  have e1 : (ps.map (·.2)).flatten = ((ps.take b).map (·.2)).flatten ++ ((ps.drop b).map (·.2)).flatten := by
    rw [← List.flatten_append, ← List.map_append, List.take_append_drop]
  have e2 : ((ps.take b).map (·.2)).flatten = ((ps.take a).map (·.2)).flatten ++ (((ps.take b).drop a).map (·.2)).flatten := by
    have e := (List.take_append_drop a (ps.take b)).symm
    rw [List.take_take, Nat.min_eq_left h] at e
    rw [← List.flatten_append, ← List.map_append, ← e]
  rw [e1, show offP ps b = ((ps.take b).map (·.2)).flatten.length from rfl, List.take_left, e2, show offP ps a = ((ps.take a).map (·.2)).flatten.length from rfl, List.drop_left]
theorem offP_cons (h : Nat × List UInt8) (ps : List (Nat × List UInt8)) (q : Nat) : offP (h :: ps) (q + 1) = h.2.length + offP ps q := by
  unfold offP
  rw [List.take_succ_cons, List.map_cons, List.flatten_cons, List.length_append]
theorem pcs_at : ∀ (n : Nat) (l : List UInt8) (q : Nat) (p : Nat × List UInt8), l.length ≤ n → (pcs n l)[q]? = some p →
    offP (pcs n l) q < l.length ∧ Lib.decodeL (l.drop (offP (pcs n l) q)) = (p.1, p.2.length)
  | 0, l, q, p, h, hp => by simp [pcs] at hp
  | n + 1, l, q, p, h, hp => by
    rw [pcs] at hp ⊢
    split at hp
    · simp at hp
    · rename_i e
      rw [if_neg e]
      have hlen : 0 < l.length := List.length_pos_iff.2 e
      have hle := Lib.decodeL_le l e
      cases q with
      | zero =>
        simp at hp
        subst hp
        rw [offP_zero, List.drop_zero]
        refine ⟨hlen, ?_⟩
        show Lib.decodeL l = ((Lib.decodeL l).1, (l.take (Lib.decodeL l).2).length)
        rw [List.length_take, Nat.min_eq_left hle]
      | succ q =>
        rw [List.getElem?_cons_succ] at hp
        obtain ⟨h1, h2⟩ := pcs_at n (l.drop (Lib.decodeL l).2) q p (drop_len h e) hp
        rw [offP_cons]
        rw [show (((Lib.decodeL l).1, l.take (Lib.decodeL l).2) : Nat × List UInt8).2.length = (Lib.decodeL l).2 from by rw [List.length_take, Nat.min_eq_left hle]]
        rw [List.drop_drop] at h2
        rw [List.length_drop] at h1
        exact ⟨by omega, h2⟩
/-- The code points of a text. -/
def ptsS (s : ByteArray) : List (Nat × List UInt8) := pcs s.size s.data.toList
theorem pts_size (s : ByteArray) : s.data.toList.length ≤ s.size := by simp
theorem pts_at (s : ByteArray) (q : Nat) (p : Nat × List UInt8) (h : (ptsS s)[q]? = some p) : offP (ptsS s) q < s.size ∧ Utf8.decode s (offP (ptsS s) q) = (p.1, p.2.length) := by
  obtain ⟨h1, h2⟩ := pcs_at s.size s.data.toList q p (pts_size s) h
  rw [Lib.decodeL_drop] at h2
  refine ⟨?_, h2⟩
  have : s.data.toList.length = s.size := by simp
  rw [← this]
  exact h1
theorem pts_all (s : ByteArray) : offP (ptsS s) (ptsS s).length = s.size := by
  rw [offP_all _ _ (Nat.le_refl _), ptsS, pcs_flat _ _ (pts_size s)]
  simp
theorem pts_len (s : ByteArray) : (ptsS s).length ≤ s.size := pcs_len _ _
/-- The bytes between two code points. -/
theorem pts_between (s : ByteArray) (a b : Nat) (h : a ≤ b) : (s.extract (offP (ptsS s) a) (offP (ptsS s) b)).data.toList = ((((ptsS s).take b).drop a).map (·.2)).flatten := by
  have e := bytes_between (ptsS s) a b h
  rw [show ((ptsS s).map (·.2)).flatten = s.data.toList from pcs_flat _ _ (pts_size s)] at e
  rw [← e, List.drop_take, ByteArray.data_extract, Array.toList_extract, List.extract_eq_take_drop]
end Go.Proofs.YtpamlgdcnmcedaaGreatDoor

set_option linter.unusedVariables false
set_option linter.unusedSimpArgs false
set_option maxRecDepth 100000
namespace Go.Proofs.YtpamlgdcnmcedaaGreatDoor
namespace Fl
open Ieee
theorem big_unit2 : 2 ^ 52 * 2 ^ (11 + 1074 : Int).toNat = 2 ^ 64 * unit := by
  have h : ∀ u : Nat, 2 ^ 52 * (2 ^ 12 * u) = 2 ^ 64 * u := by intro u; omega
  have e : (11 + 1074 : Int).toNat = 12 + uexp := by have := uexp_eq; omega
  have e2 := Nat.pow_add 2 12 uexp
  rw [e, e2]
  exact h unit
theorem read_big2 : double.read 4890909195324358656 = .number false (2 ^ 52) 11 := by
  have := read_word false 1085 (2 ^ 52) (by omega) (by omega) (by omega)
  exact this
theorem read_small2 : double.read 14114281232179134464 = .number true (2 ^ 52) 11 := by
  have := read_word true 1085 (2 ^ 52) (by omega) (by omega) (by omega)
  exact this
theorem stands_big2 : Stands 4890909195324358656 (2 ^ 64) := by
  refine ⟨false, 2 ^ 52, 11, read_big2, by omega, ?_⟩
  rw [signed_eq]
  simp only [Bool.false_eq_true, if_false]
  rw [show (2 ^ 64 : Int) = ((2 ^ 64 : Nat) : Int) from rfl, ← Int.natCast_mul, ← Int.natCast_mul]
  exact congrArg (fun n : Nat => (n : Int)) big_unit2
theorem stands_small2 : Stands 14114281232179134464 (-2 ^ 64) := by
  refine ⟨true, 2 ^ 52, 11, read_small2, by omega, ?_⟩
  rw [signed_eq]
  simp only [if_true]
  rw [Int.neg_mul, Int.neg_mul, show (2 ^ 64 : Int) = ((2 ^ 64 : Nat) : Int) from rfl, ← Int.natCast_mul, ← Int.natCast_mul]
  exact congrArg (fun n : Nat => -(n : Int)) big_unit2
end Fl
open Go Go.RowKit
theorem floatToInt_hw (h : Int) (hb : Fl.Hb h) (w : World) : Calls Tryz.prog 205 #[.float .f64 (Fl.hw h)] w fun e w' => (∃ n, e = .returned (.int .i64 n)) ∧ w' = w := by
  have hr := hb.1
  have o1 : FloatKind.f64.format.order 14114281232179134464 (Fl.hw h) = some .lt := by
    have := Fl.stands_order Fl.stands_small2 (Fl.stands_hwx h hb)
    rw [show compare (-2 ^ 64 : Int) h = .lt by have : (-2 ^ 64 : Int) < h := by omega
                                                simp only [compare, compareOfLessAndEq, if_pos this]] at this
    exact this
  have o2 : FloatKind.f64.format.order (Fl.hw h) 4890909195324358656 = some .lt := by
    have := Fl.stands_order (Fl.stands_hwx h hb) Fl.stands_big2
    rw [show compare h (2 ^ 64 : Int) = .lt by have : h < (2 ^ 64 : Int) := by omega
                                               simp only [compare, compareOfLessAndEq, if_pos this]] at this
    exact this
  have o3 : Ieee.double.order (Fl.hw h) 14109777632551763968 = some .gt := by
    have := Fl.stands_order (Fl.stands_hwx h hb) Fl.stands_small
    rw [show compare h (-2 ^ 63 : Int) = .gt by have a1 : ¬ h < (-2 ^ 63 : Int) := by omega
                                                have a2 : ¬ h = (-2 ^ 63 : Int) := by omega
                                                simp only [compare, compareOfLessAndEq, if_neg a1, if_neg a2]] at this
    exact this
  have o4 : Ieee.double.order (Fl.hw h) 4886405595696988160 = some .lt := by
    have := Fl.stands_order (Fl.stands_hwx h hb) Fl.stands_big
    rw [show compare h (2 ^ 63 : Int) = .lt by have : h < (2 ^ 63 : Int) := by omega
                                               simp only [compare, compareOfLessAndEq, if_pos this]] at this
    exact this
  obtain ⟨n, hn, hn1, hn2⟩ := Fl.toInt_range _ o3 o4
  have h5 : ∀ W, (convert 82 3 (.float .f64 (Fl.hw h))).run Tryz.prog W = .ok (.int .i64 n) W := fun W => by
    refine run_convert_float_int W 82 3 .f64 .i64 _ n (by rw [Tryz.underlying82]; rfl) Tryz.underlying3 ?_
    unfold floatToIntVal
    rw [show FloatKind.f64.decode (Fl.hw h) = Ieee.double.read (Fl.hw h) from rfl, hn]
    refine if_pos ?_
    have e1 : IntKind.i64.min = -9223372036854775808 := by decide
    have e2 : IntKind.i64.max = 9223372036854775807 := by decide
    omega
  clear o3 o4 hn hr
  go_enter Tryz.func205, Tryz.ntmps205
  go_wp2_with fail
  go_ret
  exact ⟨⟨_, rfl⟩, rfl⟩
theorem toInt_hw (h : Int) (hb : Fl.Hb h) (w : World) : Calls Tryz.prog 162 #[.iface 82 (.float .f64 (Fl.hw h))] w fun e w' => (∃ n, e = .returned (.tuple #[.int .i64 n, .bool true])) ∧ w' = w := by
  go_enter Tryz.func162, Tryz.ntmps162
  go_wp2_with fail
  refine (floatToInt_hw h hb w).mono ?_
  rintro e' w' ⟨⟨n, rfl⟩, rfl⟩
  go_wp2_with fail
  go_ret2
  exact ⟨⟨_, rfl⟩, rfl⟩
theorem toInt_bad {p : Nat} {x : Value} (hx : Sh p x) (hp : p ≠ 1) (w : World) : Calls Tryz.prog 162 #[x] w fun e w' => e = .returned (.tuple #[.int .i64 0, .bool false]) ∧ w' = w := by
  cases hx
  all_goals first
    | exact absurd rfl hp
    | skip
  all_goals
    clear hp
    go_enter Tryz.func162, Tryz.ntmps162
    go_wp2_with fail
    go_ret2
    exact ⟨rfl, rfl⟩
theorem toIntCeil_int (n : Int) (w : World) : Calls Tryz.prog 249 #[.iface 3 (.int .i64 n)] w fun e w' => e = .returned (.tuple #[.int .i64 n, .bool true]) ∧ w' = w := by
  go_enter Tryz.func249, Tryz.ntmps249
  go_wp2_with fail
  refine (toInt_any n w).mono ?_
  rintro e' w' ⟨rfl, rfl⟩
  go_wp2_with fail
  go_ret2
  exact ⟨rfl, rfl⟩
theorem toIntCeil_bad {p : Nat} {x : Value} (hx : Sh p x) (hp : p ≠ 1) (w : World) : Calls Tryz.prog 249 #[x] w fun e w' => e = .returned (.tuple #[.int .i64 0, .bool false]) ∧ w' = w := by
  have H := Lib.hid (toInt_bad hx hp w)
  cases hx
  all_goals first
    | exact absurd rfl hp
    | skip
  all_goals
    clear hp
    go_enter Tryz.func249, Tryz.ntmps249
    go_wp2_with fail
    refine H.out.mono ?_
    rintro e' w' ⟨rfl, rfl⟩
    go_wp2_with fail
    go_ret2
    exact ⟨rfl, rfl⟩
/-- An error comes back. -/
def ErrRet (w : World) (e : Ending) (w' : World) : Prop := ∃ x, e = .returned x ∧ IsErr x ∧ Below w.heap.size w w'
theorem isErr_169 (v : Value) : IsErr (.iface 169 v) := ⟨_, _, rfl, fun W => err_169 v W⟩
theorem isErr_176 (v : Value) : IsErr (.iface 176 v) := ⟨_, _, rfl, fun W => err_176 v W⟩
theorem isErr_178 (v : Value) : IsErr (.iface 178 v) := ⟨_, _, rfl, fun W => err_178 v W⟩
theorem isErr_181 (v : Value) : IsErr (.iface 181 v) := ⟨_, _, rfl, fun W => err_181 v W⟩
theorem isErr_183 (v : Value) : IsErr (.iface 183 v) := ⟨_, _, rfl, fun W => err_183 v W⟩
theorem isErr_185 (v : Value) : IsErr (.iface 185 v) := ⟨_, _, rfl, fun W => err_185 v W⟩
set_option maxHeartbeats 8000000 in
theorem index2_k0 {p q : Nat} {x y : Value} (hx : Sh p x) (hy : Sh q y) (hq : q = 0) (w : World) : Calls Tryz.prog 114 #[.nilIface, x, y] w (ErrRet w) := by
  cases hx <;> cases hy
  all_goals first
    | (refine absurd hq ?_; decide)
    | skip
  all_goals
    clear hq
    go_enter Tryz.func114, Tryz.ntmps114
    go_wp2_with fail
    go_ret
    refine ⟨_, rfl, ?_, (Below.refl _ _).alloc (Nat.le_refl _) _⟩
    first | exact isErr_181 _ | exact isErr_183 _ | exact isErr_185 _
theorem index2_k3 {p : Nat} {x : Value} (hx : Sh p x) (hp : p ≠ 3) (hn : x ≠ .nilIface) (A : Option Addr) (n c : Nat) (w : World) : Calls Tryz.prog 114 #[.nilIface, x, .iface 62 (.slice A n c)] w (ErrRet w) := by
  cases hx
  all_goals first
    | exact absurd rfl hp
    | exact absurd rfl hn
    | skip
  all_goals
    clear hp hn
    go_enter Tryz.func114, Tryz.ntmps114
    go_wp2_with fail
    go_ret
    exact ⟨_, rfl, isErr_176 _, (Below.refl _ _).alloc (Nat.le_refl _) _⟩
/-- A number as a key. -/
inductive NumK : Value → Prop
  | int (n : Int) : NumK (.iface 3 (.int .i64 n))
  | hw (h : Int) (hb : Fl.Hb h) : NumK (.iface 82 (.float .f64 (Fl.hw h)))
theorem toInt_num {y : Value} (hy : NumK y) (w : World) : Calls Tryz.prog 162 #[y] w fun e w' => (∃ n, e = .returned (.tuple #[.int .i64 n, .bool true])) ∧ w' = w := by
  cases hy with
  | int n => exact (toInt_any n w).mono fun e w' h => ⟨⟨_, h.1⟩, h.2⟩
  | hw h hb => exact toInt_hw h hb w
theorem index2_num {p : Nat} {x y : Value} (hx : Sh p x) (hp : p ≠ 2 ∧ p ≠ 3) (hn : x ≠ .nilIface) (hy : NumK y) (w : World) : Calls Tryz.prog 114 #[.nilIface, x, y] w (ErrRet w) := by
  have H := Lib.hid (toInt_num hy w)
  cases hx
  all_goals first
    | exact absurd rfl hp.1
    | exact absurd rfl hp.2
    | exact absurd rfl hn
    | skip
  all_goals
    clear hp hn
    cases hy
  all_goals
    go_enter Tryz.func114, Tryz.ntmps114
    go_wp2_with fail
    refine H.out.mono ?_
    rintro e' w' ⟨⟨n, rfl⟩, rfl⟩
    go_wp2_with fail
    go_ret
    exact ⟨_, rfl, isErr_176 _, (Below.refl _ _).alloc (Nat.le_refl _) _⟩
theorem index2_nilnum {y : Value} (hy : NumK y) (w : World) : Calls Tryz.prog 114 #[.nilIface, .nilIface, y] w fun e w' => e = .returned .nilIface ∧ w' = w := by
  have H := Lib.hid (toInt_num hy w)
  cases hy
  all_goals
    go_enter Tryz.func114, Tryz.ntmps114
    go_wp2_with fail
    refine H.out.mono ?_
    rintro e' w' ⟨⟨n, rfl⟩, rfl⟩
    go_wp2_with fail
    go_ret
    exact ⟨rfl, rfl⟩
theorem index2_nilobj (b : Option Nat) (w : World) : Calls Tryz.prog 114 #[.nilIface, .nilIface, .iface 85 (.map b)] w fun e w' => e = .returned .nilIface ∧ w' = w := by
  go_enter Tryz.func114, Tryz.ntmps114
  go_wp2_with fail
  go_ret
  exact ⟨rfl, rfl⟩
end Go.Proofs.YtpamlgdcnmcedaaGreatDoor

set_option linter.unusedVariables false
set_option linter.unusedSimpArgs false
set_option maxRecDepth 100000
namespace Go.Proofs.YtpamlgdcnmcedaaGreatDoor
open Go Go.RowKit
def FormX (x : Value) : Prop := x = .nilIface ∨ ∃ t v, x = .iface t v
def kStart : ByteArray := { data := #[115, 116, 97, 114, 116] }
def kEnd : ByteArray := { data := #[101, 110, 100] }
/-- 'v, ok := m[k]' of an object in memory. -/
theorem jr_lookok {w : World} {ok : Nat → Prop} {ks : List ByteArray} {vs : List J} {x : Value} (h : Jr w ok (.obj ks vs) x) (s : ByteArray) :
    ∃ b, x = .iface 85 (.map (some b)) ∧ b < w.heap.size ∧ ((lookO ks vs s = none ∧ ∀ W, W.heap[b]? = w.heap[b]? → (Instr.lookup 85 (.map (some b)) (.string s) true).run Tryz.prog W = .ok (.tuple #[.nilIface, .bool false]) W) ∨
      ∃ j y, lookO ks vs s = some j ∧ Jr w ok j y ∧ ∀ W, W.heap[b]? = w.heap[b]? → (Instr.lookup 85 (.map (some b)) (.string s) true).run Tryz.prog W = .ok (.tuple #[y, .bool true]) W) := by
  cases h with
  | obj _ _ b es clock f ho hb hn hv hnd he hg hst e =>
    have hall : AllS es.toList := fun e hee => by
      obtain ⟨s, h1, _⟩ := he e hee
      exact ⟨s, h1⟩
    refine ⟨b, rfl, heap_lt hb, ?_⟩
    cases hl : lookO ks vs s with
    | none =>
      have hno := lookO_none ks vs s hv.symm hl
      refine .inl ⟨rfl, fun W hW => ?_⟩
      rw [run_lookup_ok (hW.trans hb) hall s, getS_none fun e hee hk => by
        obtain ⟨s', h1, h2⟩ := he e hee
        rw [h1] at hk
        injection hk with hk
        exact hno (hk ▸ h2)]
      rfl
    | some j =>
      obtain ⟨i, h1, h2⟩ := lookO_some ks vs s j hl
      refine .inr ⟨j, f i, rfl, e i j h2, fun W hW => ?_⟩
      rw [run_lookup_ok (hW.trans hb) hall s, hg i s h1]
      rfl
/-- A missing end. -/
theorem index2_miss {p : Nat} {x y : Value} (hx : Sh p x) (hn : x ≠ .nilIface) (ks : List ByteArray) (vs : List J) (ok : Nat → Prop) (w : World) (hy : Jr w ok (.obj ks vs) y) (hm : lookO ks vs kStart = none ∨ lookO ks vs kEnd = none) :
    Calls Tryz.prog 114 #[.nilIface, x, y] w (ErrRet w) := by
  obtain ⟨b, rfl, _, h1⟩ := jr_lookok hy kStart
  obtain ⟨b', hb', _, h2⟩ := jr_lookok hy kEnd
  cases hb'
  rcases h1 with ⟨e1, r1⟩ | ⟨j1, y1, e1, _, r1⟩
  · have l1 := r1 w rfl
    rw [show kStart = { data := #[115, 116, 97, 114, 116] } from rfl] at l1
    clear h2 r1 hm hy e1
    cases hx
    all_goals first
      | exact absurd rfl hn
      | skip
    all_goals
      clear hn
      go_enter Tryz.func114, Tryz.ntmps114
      go_wp2_with fail
      go_ret
      exact ⟨_, rfl, isErr_178 _, (Below.refl _ _).alloc (Nat.le_refl _) _⟩
  · rcases h2 with ⟨e2, r2⟩ | ⟨j2, y2, e2, _, r2⟩
    · have l1 := r1 w rfl
      have l2 := r2 w rfl
      rw [show kStart = { data := #[115, 116, 97, 114, 116] } from rfl] at l1
      rw [show kEnd = { data := #[101, 110, 100] } from rfl] at l2
      clear r1 r2 hm hy e1 e2
      cases hx
      all_goals first
        | exact absurd rfl hn
        | skip
      all_goals
        clear hn
        go_enter Tryz.func114, Tryz.ntmps114
        go_wp2_with fail
        go_ret
        exact ⟨_, rfl, isErr_178 _, (Below.refl _ _).alloc (Nat.le_refl _) _⟩
    · rw [e1, e2] at hm
      rcases hm with hm | hm <;> cases hm
def RetX (R : Value → World → Prop) (e : Ending) (w' : World) : Prop := ∃ x, e = .returned x ∧ R x w'
set_option maxHeartbeats 8000000 in
/-- Both ends are there. -/
theorem index2_both {p : Nat} {x y : Value} (hx : Sh p x) (hn : x ≠ .nilIface) (ks : List ByteArray) (vs : List J) (ok : Nat → Prop) (w : World) (hy : Jr w ok (.obj ks vs) y) (js je : J) (h1 : lookO ks vs kStart = some js) (h2 : lookO ks vs kEnd = some je) (R : Value → World → Prop)
    (H : ∀ ys ye, Jr w ok js ys → Jr w ok je ye → Calls Tryz.prog 166 #[.nilIface, x, ye, ys] w (RetX R)) : Calls Tryz.prog 114 #[.nilIface, x, y] w (RetX R) := by
  obtain ⟨b, rfl, _, g1⟩ := jr_lookok hy kStart
  obtain ⟨b', hb', _, g2⟩ := jr_lookok hy kEnd
  cases hb'
  rcases g1 with ⟨e1, r1⟩ | ⟨j1, y1, e1, q1, r1⟩
  · rw [h1] at e1; cases e1
  rcases g2 with ⟨e2, r2⟩ | ⟨j2, y2, e2, q2, r2⟩
  · rw [h2] at e2; cases e2
  rw [h1] at e1
  rw [h2] at e2
  cases e1
  cases e2
  have HC := Lib.hid (H y1 y2 q1 q2)
  have l1 := r1 w rfl
  have l2 := r2 w rfl
  rw [show kStart = { data := #[115, 116, 97, 114, 116] } from rfl] at l1
  rw [show kEnd = { data := #[101, 110, 100] } from rfl] at l2
  have f1 := q1.form
  have f2 := q2.form
  clear r1 r2 hy h1 h2 H q1 q2
  cases hx
  all_goals first
    | exact absurd rfl hn
    | skip
  all_goals
    clear hn
    rcases f1 with rfl | ⟨t1, z1, rfl⟩ <;> rcases f2 with rfl | ⟨t2, z2, rfl⟩
  all_goals
    go_enter Tryz.func114, Tryz.ntmps114
    go_wp2_with fail
    refine HC.out.mono ?_
    rintro e' w' ⟨u, rfl, hr⟩
    have HR := Lib.hid hr
    clear hr
    go_wp2_with fail
    go_ret
    exact ⟨_, rfl, HR.out⟩
theorem funcSlice_err {p : Nat} {x ys ye : Value} (hx : Sh p x) (hp : p ≠ 2 ∧ p ≠ 3) (hn : x ≠ .nilIface) (f1 : FormX ys) (f2 : FormX ye) (w : World) : Calls Tryz.prog 166 #[.nilIface, x, ye, ys] w (ErrRet w) := by
  cases hx
  all_goals first
    | exact absurd rfl hp.1
    | exact absurd rfl hp.2
    | exact absurd rfl hn
    | skip
  all_goals
    clear hp hn
    rcases f1 with rfl | ⟨t1, z1, rfl⟩ <;> rcases f2 with rfl | ⟨t2, z2, rfl⟩
  all_goals
    go_enter Tryz.func166, Tryz.ntmps166
    go_wp2_with fail
    go_ret
    exact ⟨_, rfl, isErr_176 _, (Below.refl _ _).alloc (Nat.le_refl _) _⟩

theorem funcSlice_arr (A : Option Addr) (m c : Nat) {ys ye : Value} (f1 : FormX ys) (f2 : FormX ye) (w : World) (R : Value → World → Prop) (H : Calls Tryz.prog 207 #[.slice A m c, ye, ys] w (RetX R)) : Calls Tryz.prog 166 #[.nilIface, .iface 62 (.slice A m c), ye, ys] w (RetX R) := by
  have HC := Lib.hid H
  clear H
  rcases f1 with rfl | ⟨t1, z1, rfl⟩ <;> rcases f2 with rfl | ⟨t2, z2, rfl⟩
  all_goals
    go_enter Tryz.func166, Tryz.ntmps166
    go_wp2_with fail
    refine HC.out.mono ?_
    rintro e' w' ⟨u, rfl, hr⟩
    have HR := Lib.hid hr
    clear hr
    go_wp2_with fail
    go_ret
    exact ⟨_, rfl, HR.out⟩
theorem funcSlice_str (t : ByteArray) {ys ye : Value} (f1 : FormX ys) (f2 : FormX ye) (w : World) (R : Value → World → Prop) (H : Calls Tryz.prog 208 #[.string t, ye, ys] w (RetX R)) : Calls Tryz.prog 166 #[.nilIface, .iface 9 (.string t), ye, ys] w (RetX R) := by
  have HC := Lib.hid H
  clear H
  rcases f1 with rfl | ⟨t1, z1, rfl⟩ <;> rcases f2 with rfl | ⟨t2, z2, rfl⟩
  all_goals
    go_enter Tryz.func166, Tryz.ntmps166
    go_wp2_with fail
    refine HC.out.mono ?_
    rintro e' w' ⟨u, rfl, hr⟩
    have HR := Lib.hid hr
    clear hr
    go_wp2_with fail
    go_ret
    exact ⟨_, rfl, HR.out⟩
/-- A bound: null, or an integer. -/
inductive BK : Value → Option Int → Prop
  | nil : BK .nilIface none
  | int (n : Int) (hn : -9007199254740992 ≤ n ∧ n ≤ 9007199254740992) : BK (.iface 3 (.int .i64 n)) (some n)
def frB (o : Option Int) (m : Int) : Int := match o with
  | none => 0
  | some n => clampZ n 0 m
def toB (o : Option Int) (f m : Int) : Int := match o with
  | none => m
  | some n => clampZ n f m
theorem clampZ_in (n f m : Int) (h : 0 ≤ f ∧ f ≤ m) : f ≤ clampZ n f m ∧ clampZ n f m ≤ m := by
  unfold clampZ
  split
  · omega
  · split <;> omega
theorem frB_in (o : Option Int) (m : Int) (h : 0 ≤ m) : 0 ≤ frB o m ∧ frB o m ≤ m := by
  cases o with
  | none => exact ⟨Int.le_refl 0, h⟩
  | some n => exact clampZ_in n 0 m ⟨Int.le_refl 0, h⟩
theorem toB_in (o : Option Int) (f m : Int) (h : 0 ≤ f ∧ f ≤ m) : f ≤ toB o f m ∧ toB o f m ≤ m := by
  cases o with
  | none => exact ⟨h.2, Int.le_refl m⟩
  | some n => exact clampZ_in n f m h
/-- A bound that is none. -/
def NoB (x : Value) : Prop := ∃ p, Sh p x ∧ p ≠ 1 ∧ x ≠ .nilIface
theorem slice_errS (A : Option Addr) (m c : Nat) {ys ye : Value} (hs : NoB ys) (f2 : FormX ye) (w : World) : Calls Tryz.prog 207 #[.slice A m c, ye, ys] w (ErrRet w) := by
  obtain ⟨p, hx, hp, hn⟩ := hs
  have HT := Lib.hid (toInt_bad hx hp w)
  cases hx
  all_goals first
    | exact absurd rfl hp
    | exact absurd rfl hn
    | skip
  all_goals
    clear hp hn
    rcases f2 with rfl | ⟨t2, z2, rfl⟩
  all_goals
    go_enter Tryz.func207, Tryz.ntmps207
    go_wp2_with fail
    refine HT.out.mono ?_
    rintro e' w' ⟨rfl, rfl⟩
    go_wp2_with fail
    go_ret
    exact ⟨_, rfl, isErr_181 _, (Below.refl _ _).alloc (Nat.le_refl _) _⟩
theorem slice_errE (A : Option Addr) (m c : Nat) (hm : m ≤ 1000000) {ys ye : Value} {os : Option Int} (hs : BK ys os) (he : NoB ye) (w : World) : Calls Tryz.prog 207 #[.slice A m c, ye, ys] w (ErrRet w) := by
  obtain ⟨p, hx, hp, hn⟩ := he
  have HT := Lib.hid (toIntCeil_bad hx hp w)
  cases hs with
  | nil =>
    cases hx
    all_goals first
      | exact absurd rfl hp
      | exact absurd rfl hn
      | skip
    all_goals
      clear hp hn
      go_enter Tryz.func207, Tryz.ntmps207
      go_wp2_with fail
      refine HT.out.mono ?_
      rintro e' w' ⟨rfl, rfl⟩
      go_wp2_with fail
      go_ret
      exact ⟨_, rfl, isErr_181 _, (Below.refl _ _).alloc (Nat.le_refl _) _⟩
  | int n hr =>
    have HI := Lib.hid (toInt_any n w)
    have HC := Lib.hid (clamp_any n 0 m (by omega) (by omega) w)
    clear hr
    cases hx
    all_goals first
      | exact absurd rfl hp
      | exact absurd rfl hn
      | skip
    all_goals
      clear hp hn
      go_enter Tryz.func207, Tryz.ntmps207
      go_wp2_with fail
      refine HI.out.mono ?_
      rintro e' w' ⟨rfl, rfl⟩
      go_wp2_with fail
      refine HC.out.mono ?_
      rintro e' w' ⟨rfl, rfl⟩
      go_wp2_with fail
      refine HT.out.mono ?_
      rintro e' w' ⟨rfl, rfl⟩
      go_wp2_with fail
      go_ret
      exact ⟨_, rfl, isErr_181 _, (Below.refl _ _).alloc (Nat.le_refl _) _⟩
theorem slice_mid (A : Option Addr) (m c : Nat) (hc : m ≤ c) (hm : m ≤ 1000000) (hA : A = none → m = 0) {ys ye : Value} {os oe : Option Int} (hs : BK ys os) (he : BK ye oe) (w : World) (f t : Nat) (hf : (f : Int) = frB os m) (ht : (t : Int) = toB oe f m) :
    Calls Tryz.prog 207 #[.slice A m c, ye, ys] w fun e w' => (∃ B n' c', e = .returned (.iface 62 (.slice B n' c')) ∧ n' = t - f ∧ n' ≤ c' ∧ (f < t → ∃ ad, A = some ad ∧ B = some (ad.add f))) ∧ w' = w := by
  have h1 := frB_in os m (by omega)
  have h2 := toB_in oe f m (by omega)
  have g1 : f ≤ t := by omega
  have g2 : t ≤ m := by omega
  clear h1 h2
  have q1 : (0 : Int) ≤ (f : Int) := Int.natCast_nonneg _
  have q2 : (f : Int) ≤ (t : Int) := by omega
  have q3 : (t : Int) ≤ (m : Int) := by omega
  have q4 : (t : Int) ≤ (c : Int) := by omega
  have q5 : (m : Int) ≤ (c : Int) := by omega
  cases hs with
  | nil =>
    have hf0 : f = 0 := by have : (f : Int) = 0 := hf; omega
    clear hf
    cases he with
    | nil =>
      have htm : t = m := by have : (t : Int) = m := ht; omega
      clear ht
      subst hf0
      subst htm
      cases A with
      | none =>
        have hm0 : t = 0 := hA rfl
        subst hm0
        go_enter Tryz.func207, Tryz.ntmps207
        go_wp2_with fail
        go_ret
        refine ⟨⟨_, _, _, rfl, ?_⟩, rfl⟩
        first | (refine ⟨?_, ?_, fun h => absurd h ?_⟩ <;> omega) | (refine ⟨?_, ?_⟩ <;> omega) | (simp; done) | (simp; omega)
      | some ad =>
        by_cases hfc : 0 = c
        · have htf : t = 0 := by omega
          subst hfc
          subst htf
          go_enter Tryz.func207, Tryz.ntmps207
          go_wp2_with fail
          go_ret
          refine ⟨⟨_, _, _, rfl, ?_⟩, rfl⟩
          first | (refine ⟨?_, ?_, fun h => absurd h ?_⟩ <;> omega) | (refine ⟨?_, ?_⟩ <;> omega) | (simp; done) | (simp; omega)
        · have hfc1 : ¬ ((0 : Nat) : Int) = (c : Int) := by omega
          have hfc2 : ¬ (0 : Int) = (c : Int) := by omega
          go_enter Tryz.func207, Tryz.ntmps207
          go_wp2_with fail
          go_ret
          exact ⟨⟨_, _, _, rfl, by omega, by omega, fun h => ⟨ad, rfl, by simp [Addr.add]⟩⟩, rfl⟩
    | int n hn =>
      have HJ := Lib.hid (toIntCeil_int n w)
      have hcl := clamp_any n f m (by omega) (by omega) w
      have ht' : clampZ n f m = (t : Int) := ht.symm
      rw [ht'] at hcl
      subst hf0
      have HD := Lib.hid hcl
      clear ht ht' hcl hn
      cases A with
      | none =>
        have hm0 : m = 0 := hA rfl
        have ht0 : t = 0 := by omega
        subst hm0
        subst ht0
        go_enter Tryz.func207, Tryz.ntmps207
        go_wp2_with fail
        refine HJ.out.mono ?_
        rintro e' w' ⟨rfl, rfl⟩
        go_wp2_with fail
        refine HD.out.mono ?_
        rintro e' w' ⟨rfl, rfl⟩
        go_wp2_with fail
        go_ret
        refine ⟨⟨_, _, _, rfl, ?_⟩, rfl⟩
        first | (refine ⟨?_, ?_, fun h => absurd h ?_⟩ <;> omega) | (refine ⟨?_, ?_⟩ <;> omega) | (simp; done) | (simp; omega)
      | some ad =>
        by_cases hfc : 0 = c
        · have htf : t = 0 := by omega
          have hmf : m = 0 := by omega
          subst hfc
          subst htf
          subst hmf
          go_enter Tryz.func207, Tryz.ntmps207
          go_wp2_with fail
          refine HJ.out.mono ?_
          rintro e' w' ⟨rfl, rfl⟩
          go_wp2_with fail
          refine HD.out.mono ?_
          rintro e' w' ⟨rfl, rfl⟩
          go_wp2_with fail
          go_ret
          refine ⟨⟨_, _, _, rfl, ?_⟩, rfl⟩
          first | (refine ⟨?_, ?_, fun h => absurd h ?_⟩ <;> omega) | (refine ⟨?_, ?_⟩ <;> omega) | (simp; done) | (simp; omega)
        · have hfc1 : ¬ ((0 : Nat) : Int) = (c : Int) := by omega
          have hfc2 : ¬ (0 : Int) = (c : Int) := by omega
          go_enter Tryz.func207, Tryz.ntmps207
          go_wp2_with fail
          refine HJ.out.mono ?_
          rintro e' w' ⟨rfl, rfl⟩
          go_wp2_with fail
          refine HD.out.mono ?_
          rintro e' w' ⟨rfl, rfl⟩
          go_wp2_with fail
          go_ret
          exact ⟨⟨_, _, _, rfl, by omega, by omega, fun h => ⟨ad, rfl, by simp [Addr.add]⟩⟩, rfl⟩
  | int k hk =>
    have HI := Lib.hid (toInt_any k w)
    have hck := clamp_any k 0 m (by omega) (by omega) w
    have hf' : clampZ k 0 m = (f : Int) := hf.symm
    rw [hf'] at hck
    have HC := Lib.hid hck
    clear hf hf' hck hk
    cases he with
    | nil =>
      have htm : t = m := by have : (t : Int) = m := ht; omega
      clear ht
      subst htm
      cases A with
      | none =>
        have hm0 : t = 0 := hA rfl
        have hf0 : f = 0 := by omega
        subst hm0
        subst hf0
        go_enter Tryz.func207, Tryz.ntmps207
        go_wp2_with fail
        refine HI.out.mono ?_
        rintro e' w' ⟨rfl, rfl⟩
        go_wp2_with fail
        refine HC.out.mono ?_
        rintro e' w' ⟨rfl, rfl⟩
        go_wp2_with fail
        go_ret
        refine ⟨⟨_, _, _, rfl, ?_⟩, rfl⟩
        first | (refine ⟨?_, ?_, fun h => absurd h ?_⟩ <;> omega) | (refine ⟨?_, ?_⟩ <;> omega) | (simp; done) | (simp; omega)
      | some ad =>
        by_cases hfc : f = c
        · have htf : t = f := by omega
          subst hfc
          subst htf
          go_enter Tryz.func207, Tryz.ntmps207
          go_wp2_with fail
          refine HI.out.mono ?_
          rintro e' w' ⟨rfl, rfl⟩
          go_wp2_with fail
          refine HC.out.mono ?_
          rintro e' w' ⟨rfl, rfl⟩
          go_wp2_with fail
          go_ret
          refine ⟨⟨_, _, _, rfl, ?_⟩, rfl⟩
          first | (refine ⟨?_, ?_, fun h => absurd h ?_⟩ <;> omega) | (refine ⟨?_, ?_⟩ <;> omega) | (simp; done) | (simp; omega)
        · have hfc1 : ¬ ((f : Nat) : Int) = (c : Int) := by omega
          go_enter Tryz.func207, Tryz.ntmps207
          go_wp2_with fail
          refine HI.out.mono ?_
          rintro e' w' ⟨rfl, rfl⟩
          go_wp2_with fail
          refine HC.out.mono ?_
          rintro e' w' ⟨rfl, rfl⟩
          go_wp2_with fail
          go_ret
          exact ⟨⟨_, _, _, rfl, by omega, by omega, fun h => ⟨ad, rfl, rfl⟩⟩, rfl⟩
    | int n hn =>
      have HJ := Lib.hid (toIntCeil_int n w)
      have hcl := clamp_any n f m (by omega) (by omega) w
      have ht' : clampZ n f m = (t : Int) := ht.symm
      rw [ht'] at hcl
      have HD := Lib.hid hcl
      clear ht ht' hcl hn
      cases A with
      | none =>
        have hm0 : m = 0 := hA rfl
        have hf0 : f = 0 := by omega
        have ht0 : t = 0 := by omega
        subst hm0
        subst hf0
        subst ht0
        go_enter Tryz.func207, Tryz.ntmps207
        go_wp2_with fail
        refine HI.out.mono ?_
        rintro e' w' ⟨rfl, rfl⟩
        go_wp2_with fail
        refine HC.out.mono ?_
        rintro e' w' ⟨rfl, rfl⟩
        go_wp2_with fail
        refine HJ.out.mono ?_
        rintro e' w' ⟨rfl, rfl⟩
        go_wp2_with fail
        refine HD.out.mono ?_
        rintro e' w' ⟨rfl, rfl⟩
        go_wp2_with fail
        go_ret
        refine ⟨⟨_, _, _, rfl, ?_⟩, rfl⟩
        first | (refine ⟨?_, ?_, fun h => absurd h ?_⟩ <;> omega) | (refine ⟨?_, ?_⟩ <;> omega) | (simp; done) | (simp; omega)
      | some ad =>
        by_cases hfc : f = c
        · have htf : t = f := by omega
          have hmf : m = f := by omega
          subst hfc
          subst htf
          subst hmf
          go_enter Tryz.func207, Tryz.ntmps207
          go_wp2_with fail
          refine HI.out.mono ?_
          rintro e' w' ⟨rfl, rfl⟩
          go_wp2_with fail
          refine HC.out.mono ?_
          rintro e' w' ⟨rfl, rfl⟩
          go_wp2_with fail
          refine HJ.out.mono ?_
          rintro e' w' ⟨rfl, rfl⟩
          go_wp2_with fail
          refine HD.out.mono ?_
          rintro e' w' ⟨rfl, rfl⟩
          go_wp2_with fail
          go_ret
          refine ⟨⟨_, _, _, rfl, ?_⟩, rfl⟩
          first | (refine ⟨?_, ?_, fun h => absurd h ?_⟩ <;> omega) | (refine ⟨?_, ?_⟩ <;> omega) | (simp; done) | (simp; omega)
        · have hfc1 : ¬ ((f : Nat) : Int) = (c : Int) := by omega
          go_enter Tryz.func207, Tryz.ntmps207
          go_wp2_with fail
          refine HI.out.mono ?_
          rintro e' w' ⟨rfl, rfl⟩
          go_wp2_with fail
          refine HC.out.mono ?_
          rintro e' w' ⟨rfl, rfl⟩
          go_wp2_with fail
          refine HJ.out.mono ?_
          rintro e' w' ⟨rfl, rfl⟩
          go_wp2_with fail
          refine HD.out.mono ?_
          rintro e' w' ⟨rfl, rfl⟩
          go_wp2_with fail
          go_ret
          exact ⟨⟨_, _, _, rfl, by omega, by omega, fun h => ⟨ad, rfl, rfl⟩⟩, rfl⟩
end Go.Proofs.YtpamlgdcnmcedaaGreatDoor

set_option linter.unusedVariables false
set_option linter.unusedSimpArgs false
set_option maxRecDepth 100000
namespace Go.Proofs.YtpamlgdcnmcedaaGreatDoor
open Go Go.RowKit
/-- '[]rune(s)'. -/
theorem conv_runes (s : ByteArray) (hs : s.size ≤ 2000) (w : World) : ∃ (W : World) (cap : Nat), (convert 9 108 (.string s)).run Tryz.prog w = .ok (.slice (some ⟨w.heap.size, 0, none⟩) (ptsS s).length cap) W ∧ (ptsS s).length ≤ cap ∧ Below w.heap.size w W ∧
    ∀ (j : Nat) (p : Nat × List UInt8), (ptsS s)[j]? = some p → W.cell? ⟨w.heap.size, j, none⟩ = some (.int .i32 (Int.ofNat p.1)) := by
  have hr := runesFrom_pcs s s.size 0 #[]
  rw [List.drop_zero] at hr
  have hrl : (Conv.runesFrom s s.size 0 #[]).size = (ptsS s).length := by rw [hr]; simp [ptsS]
  have hl := pts_len s
  have hc := run_runes_of_string w 9 108 21 s Tryz.underlying9 Tryz.underlying108 Tryz.underlying21 (by rw [hrl]; omega)
  rw [hrl] at hc
  refine ⟨_, _, hc, grownCap_ge w _ 0 21, (Below.refl _ _).drew.alloc (Nat.le_refl _) _, fun j p hp => ?_⟩
  have hj := (List.getElem?_eq_some_iff.1 hp).1
  simp only [World.cell?]
  rw [show w.heap.size = w.drew.heap.size from rfl, heap_alloc_new]
  simp only
  rw [hr]
  have hj' : j < (pcs s.size s.data.toList).length := hj
  have hp' : (pcs s.size s.data.toList)[j]? = some p := hp
  rw [List.getElem?_eq_getElem hj'] at hp'
  have e := Option.some.inj hp'
  simp [Array.getElem?_append, hj']
  rw [e]
theorem below_iterAt {B k : Nat} {a W : World} {s : ByteArray} {p : Nat} (h : Below B a W) (hk : B ≤ k) : Below B a (W.iterAt k s p) :=
  ⟨h.os, h.tape, h.output, by rw [Lib.iterAt_size]; exact h.size, fun b hb => by rw [Lib.iterAt_other _ _ _ _ _ (by omega)]; exact h.block b hb⟩
theorem below_iter {B : Nat} {a W : World} {s : ByteArray} (h : Below B a W) (hB : B ≤ a.heap.size) : Below B a (W.iter s 0) := h.alloc (Nat.le_trans hB h.size) _
/-- One step over a text. -/
theorem next_pts (s : ByteArray) (q : Nat) (hq : q < (ptsS s).length) (w : World) (k : Nat) (hk : w.heap[k]? = some (.stringIter s (offP (ptsS s) q))) :
    ∃ r, ∀ ty, (Instr.next (.pointer (some ⟨k, 0, none⟩)) true ty).run Tryz.prog w = .ok (.tuple #[.bool true, .int .i64 (offP (ptsS s) q), .int .i32 r]) (w.iterAt k s (offP (ptsS s) (q + 1))) := by
  obtain ⟨p, hp⟩ := at_lt hq
  obtain ⟨h1, h2⟩ := pts_at s q p hp
  refine ⟨(p.1 : Int), fun ty => ?_⟩
  rw [Lib.run_next_any_at w k s _ ty hk h1, h2, offP_succ _ q p hp]
set_option maxHeartbeats 8000000 in
theorem sliceStr_nn (s : ByteArray) (hsz : s.size ≤ 2000)  (w : World) (f t : Nat) (hf : (f : Int) = frB none ((ptsS s).length : Nat)) (ht : (t : Int) = toB none f ((ptsS s).length : Nat)) :
    Calls Tryz.prog 208 #[.string s, .nilIface, .nilIface] w fun e w' => e = .returned (.iface 9 (.string (s.extract (offP (ptsS s) f) (offP (ptsS s) t)))) ∧ Below w.heap.size w w' := by
  obtain ⟨W1, cap, hconv, _, hbc, _⟩ := conv_runes s hsz w
  have h1 := frB_in none ((ptsS s).length : Nat) (by omega)
  have h2 := toB_in none f ((ptsS s).length : Nat) (by omega)
  have hpl := pts_len s
  have hall := pts_all s
  have hAm := offP_mono (ptsS s) f t (by omega)
  have hBm := offP_mono (ptsS s) t (ptsS s).length (by omega)
  have HNX := Lib.hid (next_pts s)
  obtain ⟨n, hn⟩ : ∃ n, n = (ptsS s).length := ⟨_, rfl⟩
  rw [← hn] at hf ht hconv h1 h2 hpl hall hBm HNX
  have g1 : f ≤ t := by omega
  have g2 : t ≤ n := by omega
  have g3 : n ≤ 2000 := by omega
  obtain ⟨A, hA⟩ : ∃ A, A = offP (ptsS s) f := ⟨_, rfl⟩
  obtain ⟨B, hB⟩ : ∃ B, B = offP (ptsS s) t := ⟨_, rfl⟩
  rw [hall, ← hB] at hBm
  rw [← hA, ← hB] at hAm ⊢
  have HA := Lib.hid hA
  have HB := Lib.hid hB
  have HALL := Lib.hid hall
  have HBC := Lib.hid hbc
  have a1 : (0 : Int) ≤ (A : Int) := Int.natCast_nonneg _
  have a2 : (A : Int) ≤ (B : Int) := by omega
  have a3 : (B : Int) ≤ (s.size : Int) := by omega
  clear hA hB hn hall h1 h2 hbc
  have hf0 : f = 0 := by have : (f : Int) = 0 := hf; omega
  clear hf
  have ht0 : t = n := by have : (t : Int) = n := ht; omega
  clear ht
  subst hf0
  have hBz : B = s.size := by rw [HB.out, ht0]; exact HALL.out
  subst ht0
  subst hBz
  by_cases hfn : 0 < t
  · have hfn1 : (0 : Int) < (t : Int) := by omega
    go_enter Tryz.func208, Tryz.ntmps208
    go_wp2_with fail
    have HW1 := Lib.hid (below_iter (s := s) (HBC.out) (Nat.le_refl _))
    obtain ⟨it1, hit1⟩ : ∃ it, it = (W1).heap.size := ⟨_, rfl⟩
    have HI1 := Lib.hid (show ((W1).iter s 0).heap[it1]? = some (.stringIter s 0) by rw [hit1]; exact World.iter_heap _ _ _)
    have HK1 := Lib.hid (show w.heap.size ≤ it1 by rw [hit1]; exact (HBC.out).size)
    rw [← hit1]
    clear hit1
    go_loopw [7] (fun st wr => ∃ q d : Nat, d + q = 0 ∧ st = .int .i64 d ∧ wr.heap[it1]? = some (.stringIter s (offP (ptsS s) q)) ∧ Below w.heap.size w wr) (fun st _ => (intOf st).toNat)
    case atStart => exact ⟨0, 0, rfl, rfl, HI1.out, HW1.out⟩
    case round =>
      obtain ⟨q, d, hqd, rfl, hst, hbl⟩ := hrel
      obtain ⟨r, hnx⟩ := HNX.out q (by omega) wr it1 hst
      have HST := Lib.hid (Lib.iterAt_heap wr it1 s _ (offP (ptsS s) (q + 1)) hst)
      have HBT := Lib.hid (below_iterAt (s := s) (p := offP (ptsS s) (q + 1)) hbl HK1.out)
      by_cases hd : d = 0
      · subst hd
        have hq1 : offP (ptsS s) q = A := by rw [HA.out, ← hqd, Nat.zero_add]
        rw [hq1] at hnx
        obtain ⟨P1, hP1⟩ : ∃ P1, P1 = offP (ptsS s) (q + 1) := ⟨_, rfl⟩
        rw [← hP1] at hnx HBT HST
        clear hst hbl hq1 hP1
        go_wp2_with fail
        go_ret
        exact ⟨by first | rfl | simp, HBT.out⟩
      · obtain ⟨d1, rfl⟩ : ∃ d1, d = d1 + 1 := ⟨d - 1, by omega⟩
        obtain ⟨P0, hP0⟩ : ∃ P0, P0 = offP (ptsS s) q := ⟨_, rfl⟩
        obtain ⟨P1, hP1⟩ : ∃ P1, P1 = offP (ptsS s) (q + 1) := ⟨_, rfl⟩
        rw [← hP1, ← hP0] at hnx
        have d0 : (0 : Int) ≤ (d1 : Int) := Int.natCast_nonneg _
        have d2 : d1 ≤ 2000 := by omega
        have HP1 := Lib.hid hP1
        rw [← hP1] at HBT HST
        clear hst hbl hd hP0 hP1
        go_wp2_with fail
        first
          | done
          | (go_roundw
             case rel => exact ⟨q + 1, d1, by omega, by go_num, by rw [← HP1.out]; exact HST.out, HBT.out⟩
             case measure => (try simp [intOf]); (try omega))
  · have hfn2 : 0 = t := by omega
    have hfn3 : ¬ (0 : Int) < (t : Int) := by omega
    have hAz : A = s.size := by rw [HA.out, hfn2]; exact HALL.out
    clear hfn2 hfn
    subst hAz
    go_enter Tryz.func208, Tryz.ntmps208
    go_wp2_with fail
    go_ret
    exact ⟨by first | rfl | simp, HBC.out⟩
set_option maxHeartbeats 8000000 in
theorem sliceStr_ni (s : ByteArray) (hsz : s.size ≤ 2000) (k2 : Int) (hk2 : -9007199254740992 ≤ k2 ∧ k2 ≤ 9007199254740992) (w : World) (f t : Nat) (hf : (f : Int) = frB none ((ptsS s).length : Nat)) (ht : (t : Int) = toB (some k2) f ((ptsS s).length : Nat)) :
    Calls Tryz.prog 208 #[.string s, .iface 3 (.int .i64 k2), .nilIface] w fun e w' => e = .returned (.iface 9 (.string (s.extract (offP (ptsS s) f) (offP (ptsS s) t)))) ∧ Below w.heap.size w w' := by
  obtain ⟨W1, cap, hconv, _, hbc, _⟩ := conv_runes s hsz w
  have h1 := frB_in none ((ptsS s).length : Nat) (by omega)
  have h2 := toB_in (some k2) f ((ptsS s).length : Nat) (by omega)
  have hpl := pts_len s
  have hall := pts_all s
  have hAm := offP_mono (ptsS s) f t (by omega)
  have hBm := offP_mono (ptsS s) t (ptsS s).length (by omega)
  have HNX := Lib.hid (next_pts s)
  obtain ⟨n, hn⟩ : ∃ n, n = (ptsS s).length := ⟨_, rfl⟩
  rw [← hn] at hf ht hconv h1 h2 hpl hall hBm HNX
  have g1 : f ≤ t := by omega
  have g2 : t ≤ n := by omega
  have g3 : n ≤ 2000 := by omega
  obtain ⟨A, hA⟩ : ∃ A, A = offP (ptsS s) f := ⟨_, rfl⟩
  obtain ⟨B, hB⟩ : ∃ B, B = offP (ptsS s) t := ⟨_, rfl⟩
  rw [hall, ← hB] at hBm
  rw [← hA, ← hB] at hAm ⊢
  have HA := Lib.hid hA
  have HB := Lib.hid hB
  have HALL := Lib.hid hall
  have HBC := Lib.hid hbc
  have a1 : (0 : Int) ≤ (A : Int) := Int.natCast_nonneg _
  have a2 : (A : Int) ≤ (B : Int) := by omega
  have a3 : (B : Int) ≤ (s.size : Int) := by omega
  clear hA hB hn hall h1 h2 hbc
  have hf0 : f = 0 := by have : (f : Int) = 0 := hf; omega
  clear hf
  have ht1 : clampZ k2 f n = (t : Int) := ht.symm
  have hc2 := clamp_any k2 f n (by omega) (by omega) W1
  rw [ht1] at hc2
  have HJ := Lib.hid (toIntCeil_int k2 W1)
  have HD := Lib.hid hc2
  clear ht ht1 hc2 hk2
  subst hf0
  by_cases hfn : 0 < n
  · have hfn1 : (0 : Int) < (n : Int) := by omega
    by_cases htn : t < n
    · have htn1 : (t : Int) < (n : Int) := by omega
      go_enter Tryz.func208, Tryz.ntmps208
      go_wp2_with fail
      refine HJ.out.mono ?_
      rintro e' w' ⟨rfl, hw⟩
      rw [hw]
      clear hw
      go_wp2_with fail
      refine HD.out.mono ?_
      rintro e' w' ⟨rfl, hw⟩
      rw [hw]
      clear hw
      go_wp2_with fail
      have HW1 := Lib.hid (below_iter (s := s) (HBC.out) (Nat.le_refl _))
      obtain ⟨it1, hit1⟩ : ∃ it, it = (W1).heap.size := ⟨_, rfl⟩
      have HI1 := Lib.hid (show ((W1).iter s 0).heap[it1]? = some (.stringIter s 0) by rw [hit1]; exact World.iter_heap _ _ _)
      have HK1 := Lib.hid (show w.heap.size ≤ it1 by rw [hit1]; exact (HBC.out).size)
      rw [← hit1]
      clear hit1
      go_loopw [7] (fun st wr => ∃ q d : Nat, d + q = 0 ∧ st = .int .i64 d ∧ wr.heap[it1]? = some (.stringIter s (offP (ptsS s) q)) ∧ Below w.heap.size w wr) (fun st _ => (intOf st).toNat)
      case atStart => exact ⟨0, 0, rfl, rfl, HI1.out, HW1.out⟩
      case round =>
        obtain ⟨q, d, hqd, rfl, hst, hbl⟩ := hrel
        obtain ⟨r, hnx⟩ := HNX.out q (by omega) wr it1 hst
        have HST := Lib.hid (Lib.iterAt_heap wr it1 s _ (offP (ptsS s) (q + 1)) hst)
        have HBT := Lib.hid (below_iterAt (s := s) (p := offP (ptsS s) (q + 1)) hbl HK1.out)
        by_cases hd : d = 0
        · subst hd
          have hq1 : offP (ptsS s) q = A := by rw [HA.out, ← hqd, Nat.zero_add]
          rw [hq1] at hnx
          obtain ⟨P1, hP1⟩ : ∃ P1, P1 = offP (ptsS s) (q + 1) := ⟨_, rfl⟩
          rw [← hP1] at hnx HBT HST
          clear hst hbl hq1 hP1
          have HW2 := Lib.hid (below_iter (s := s) (HBT.out) (Nat.le_refl _))
          obtain ⟨it2, hit2⟩ : ∃ it, it = (wr.iterAt it1 s P1).heap.size := ⟨_, rfl⟩
          have HI2 := Lib.hid (show ((wr.iterAt it1 s P1).iter s 0).heap[it2]? = some (.stringIter s 0) by rw [hit2]; exact World.iter_heap _ _ _)
          have HK2 := Lib.hid (show w.heap.size ≤ it2 by rw [hit2]; exact (HBT.out).size)
          go_wp2_with fail
          rw [← hit2]
          clear hit2
          go_loopw [8] (fun st wr => ∃ q d : Nat, d + q = t ∧ st = .int .i64 d ∧ wr.heap[it2]? = some (.stringIter s (offP (ptsS s) q)) ∧ Below w.heap.size w wr) (fun st _ => (intOf st).toNat)
          case atStart => exact ⟨0, t, rfl, rfl, HI2.out, HW2.out⟩
          case round =>
            obtain ⟨q, d, hqd, rfl, hst, hbl⟩ := hrel
            obtain ⟨r, hnx⟩ := HNX.out q (by omega) wr it2 hst
            have HST := Lib.hid (Lib.iterAt_heap wr it2 s _ (offP (ptsS s) (q + 1)) hst)
            have HBT := Lib.hid (below_iterAt (s := s) (p := offP (ptsS s) (q + 1)) hbl HK2.out)
            by_cases hd : d = 0
            · subst hd
              have hq2 : offP (ptsS s) q = B := by rw [HB.out, ← hqd, Nat.zero_add]
              rw [hq2] at hnx
              obtain ⟨P1, hP1⟩ : ∃ P1, P1 = offP (ptsS s) (q + 1) := ⟨_, rfl⟩
              rw [← hP1] at hnx HBT HST
              clear hst hbl hq2 hP1
              go_wp2_with fail
              go_ret
              exact ⟨by first | rfl | simp, HBT.out⟩
            · obtain ⟨d1, rfl⟩ : ∃ d1, d = d1 + 1 := ⟨d - 1, by omega⟩
              obtain ⟨P0, hP0⟩ : ∃ P0, P0 = offP (ptsS s) q := ⟨_, rfl⟩
              obtain ⟨P1, hP1⟩ : ∃ P1, P1 = offP (ptsS s) (q + 1) := ⟨_, rfl⟩
              rw [← hP1, ← hP0] at hnx
              have d0 : (0 : Int) ≤ (d1 : Int) := Int.natCast_nonneg _
              have d2 : d1 ≤ 2000 := by omega
              have HP1 := Lib.hid hP1
              rw [← hP1] at HBT HST
              clear hst hbl hd hP0 hP1
              go_wp2_with fail
              first
                | done
                | (go_roundw
                   case rel => exact ⟨q + 1, d1, by omega, by go_num, by rw [← HP1.out]; exact HST.out, HBT.out⟩
                   case measure => (try simp [intOf]); (try omega))
        · obtain ⟨d1, rfl⟩ : ∃ d1, d = d1 + 1 := ⟨d - 1, by omega⟩
          obtain ⟨P0, hP0⟩ : ∃ P0, P0 = offP (ptsS s) q := ⟨_, rfl⟩
          obtain ⟨P1, hP1⟩ : ∃ P1, P1 = offP (ptsS s) (q + 1) := ⟨_, rfl⟩
          rw [← hP1, ← hP0] at hnx
          have d0 : (0 : Int) ≤ (d1 : Int) := Int.natCast_nonneg _
          have d2 : d1 ≤ 2000 := by omega
          have HP1 := Lib.hid hP1
          rw [← hP1] at HBT HST
          clear hst hbl hd hP0 hP1
          go_wp2_with fail
          first
            | done
            | (go_roundw
               case rel => exact ⟨q + 1, d1, by omega, by go_num, by rw [← HP1.out]; exact HST.out, HBT.out⟩
               case measure => (try simp [intOf]); (try omega))
    · have htn2 : t = n := by omega
      have htn3 : ¬ (t : Int) < (n : Int) := by omega
      have hBz : B = s.size := by rw [HB.out, htn2]; exact HALL.out
      clear htn2 htn
      subst hBz
      go_enter Tryz.func208, Tryz.ntmps208
      go_wp2_with fail
      refine HJ.out.mono ?_
      rintro e' w' ⟨rfl, hw⟩
      rw [hw]
      clear hw
      go_wp2_with fail
      refine HD.out.mono ?_
      rintro e' w' ⟨rfl, hw⟩
      rw [hw]
      clear hw
      go_wp2_with fail
      have HW1 := Lib.hid (below_iter (s := s) (HBC.out) (Nat.le_refl _))
      obtain ⟨it1, hit1⟩ : ∃ it, it = (W1).heap.size := ⟨_, rfl⟩
      have HI1 := Lib.hid (show ((W1).iter s 0).heap[it1]? = some (.stringIter s 0) by rw [hit1]; exact World.iter_heap _ _ _)
      have HK1 := Lib.hid (show w.heap.size ≤ it1 by rw [hit1]; exact (HBC.out).size)
      rw [← hit1]
      clear hit1
      go_loopw [7] (fun st wr => ∃ q d : Nat, d + q = 0 ∧ st = .int .i64 d ∧ wr.heap[it1]? = some (.stringIter s (offP (ptsS s) q)) ∧ Below w.heap.size w wr) (fun st _ => (intOf st).toNat)
      case atStart => exact ⟨0, 0, rfl, rfl, HI1.out, HW1.out⟩
      case round =>
        obtain ⟨q, d, hqd, rfl, hst, hbl⟩ := hrel
        obtain ⟨r, hnx⟩ := HNX.out q (by omega) wr it1 hst
        have HST := Lib.hid (Lib.iterAt_heap wr it1 s _ (offP (ptsS s) (q + 1)) hst)
        have HBT := Lib.hid (below_iterAt (s := s) (p := offP (ptsS s) (q + 1)) hbl HK1.out)
        by_cases hd : d = 0
        · subst hd
          have hq1 : offP (ptsS s) q = A := by rw [HA.out, ← hqd, Nat.zero_add]
          rw [hq1] at hnx
          obtain ⟨P1, hP1⟩ : ∃ P1, P1 = offP (ptsS s) (q + 1) := ⟨_, rfl⟩
          rw [← hP1] at hnx HBT HST
          clear hst hbl hq1 hP1
          go_wp2_with fail
          go_ret
          exact ⟨by first | rfl | simp, HBT.out⟩
        · obtain ⟨d1, rfl⟩ : ∃ d1, d = d1 + 1 := ⟨d - 1, by omega⟩
          obtain ⟨P0, hP0⟩ : ∃ P0, P0 = offP (ptsS s) q := ⟨_, rfl⟩
          obtain ⟨P1, hP1⟩ : ∃ P1, P1 = offP (ptsS s) (q + 1) := ⟨_, rfl⟩
          rw [← hP1, ← hP0] at hnx
          have d0 : (0 : Int) ≤ (d1 : Int) := Int.natCast_nonneg _
          have d2 : d1 ≤ 2000 := by omega
          have HP1 := Lib.hid hP1
          rw [← hP1] at HBT HST
          clear hst hbl hd hP0 hP1
          go_wp2_with fail
          first
            | done
            | (go_roundw
               case rel => exact ⟨q + 1, d1, by omega, by go_num, by rw [← HP1.out]; exact HST.out, HBT.out⟩
               case measure => (try simp [intOf]); (try omega))
  · have hfn2 : 0 = n := by omega
    have hfn3 : ¬ (0 : Int) < (n : Int) := by omega
    have hAz : A = s.size := by rw [HA.out, hfn2]; exact HALL.out
    by_cases htn : t < n
    · have htn1 : (t : Int) < (n : Int) := by omega
      exfalso; omega
    · have htn2 : t = n := by omega
      have htn3 : ¬ (t : Int) < (n : Int) := by omega
      have hBz : B = s.size := by rw [HB.out, htn2]; exact HALL.out
      clear htn2 htn
      subst hBz
      clear hfn2 hfn
      subst hAz
      go_enter Tryz.func208, Tryz.ntmps208
      go_wp2_with fail
      refine HJ.out.mono ?_
      rintro e' w' ⟨rfl, hw⟩
      rw [hw]
      clear hw
      go_wp2_with fail
      refine HD.out.mono ?_
      rintro e' w' ⟨rfl, hw⟩
      rw [hw]
      clear hw
      go_wp2_with fail
      go_ret
      exact ⟨by first | rfl | simp, HBC.out⟩
set_option maxHeartbeats 8000000 in
theorem sliceStr_in (s : ByteArray) (hsz : s.size ≤ 2000) (k1 : Int) (hk1 : -9007199254740992 ≤ k1 ∧ k1 ≤ 9007199254740992) (w : World) (f t : Nat) (hf : (f : Int) = frB (some k1) ((ptsS s).length : Nat)) (ht : (t : Int) = toB none f ((ptsS s).length : Nat)) :
    Calls Tryz.prog 208 #[.string s, .nilIface, .iface 3 (.int .i64 k1)] w fun e w' => e = .returned (.iface 9 (.string (s.extract (offP (ptsS s) f) (offP (ptsS s) t)))) ∧ Below w.heap.size w w' := by
  obtain ⟨W1, cap, hconv, _, hbc, _⟩ := conv_runes s hsz w
  have h1 := frB_in (some k1) ((ptsS s).length : Nat) (by omega)
  have h2 := toB_in none f ((ptsS s).length : Nat) (by omega)
  have hpl := pts_len s
  have hall := pts_all s
  have hAm := offP_mono (ptsS s) f t (by omega)
  have hBm := offP_mono (ptsS s) t (ptsS s).length (by omega)
  have HNX := Lib.hid (next_pts s)
  obtain ⟨n, hn⟩ : ∃ n, n = (ptsS s).length := ⟨_, rfl⟩
  rw [← hn] at hf ht hconv h1 h2 hpl hall hBm HNX
  have g1 : f ≤ t := by omega
  have g2 : t ≤ n := by omega
  have g3 : n ≤ 2000 := by omega
  obtain ⟨A, hA⟩ : ∃ A, A = offP (ptsS s) f := ⟨_, rfl⟩
  obtain ⟨B, hB⟩ : ∃ B, B = offP (ptsS s) t := ⟨_, rfl⟩
  rw [hall, ← hB] at hBm
  rw [← hA, ← hB] at hAm ⊢
  have HA := Lib.hid hA
  have HB := Lib.hid hB
  have HALL := Lib.hid hall
  have HBC := Lib.hid hbc
  have a1 : (0 : Int) ≤ (A : Int) := Int.natCast_nonneg _
  have a2 : (A : Int) ≤ (B : Int) := by omega
  have a3 : (B : Int) ≤ (s.size : Int) := by omega
  clear hA hB hn hall h1 h2 hbc
  have hf1 : clampZ k1 0 n = (f : Int) := hf.symm
  have hc1 := clamp_any k1 0 n (by omega) (by omega) W1
  rw [hf1] at hc1
  have HI := Lib.hid (toInt_any k1 W1)
  have HC := Lib.hid hc1
  clear hf hf1 hc1 hk1
  have ht0 : t = n := by have : (t : Int) = n := ht; omega
  clear ht
  have hBz : B = s.size := by rw [HB.out, ht0]; exact HALL.out
  subst ht0
  subst hBz
  by_cases hfn : f < t
  · have hfn1 : (f : Int) < (t : Int) := by omega
    go_enter Tryz.func208, Tryz.ntmps208
    go_wp2_with fail
    refine HI.out.mono ?_
    rintro e' w' ⟨rfl, hw⟩
    rw [hw]
    clear hw
    go_wp2_with fail
    refine HC.out.mono ?_
    rintro e' w' ⟨rfl, hw⟩
    rw [hw]
    clear hw
    go_wp2_with fail
    have HW1 := Lib.hid (below_iter (s := s) (HBC.out) (Nat.le_refl _))
    obtain ⟨it1, hit1⟩ : ∃ it, it = (W1).heap.size := ⟨_, rfl⟩
    have HI1 := Lib.hid (show ((W1).iter s 0).heap[it1]? = some (.stringIter s 0) by rw [hit1]; exact World.iter_heap _ _ _)
    have HK1 := Lib.hid (show w.heap.size ≤ it1 by rw [hit1]; exact (HBC.out).size)
    rw [← hit1]
    clear hit1
    go_loopw [7] (fun st wr => ∃ q d : Nat, d + q = f ∧ st = .int .i64 d ∧ wr.heap[it1]? = some (.stringIter s (offP (ptsS s) q)) ∧ Below w.heap.size w wr) (fun st _ => (intOf st).toNat)
    case atStart => exact ⟨0, f, rfl, rfl, HI1.out, HW1.out⟩
    case round =>
      obtain ⟨q, d, hqd, rfl, hst, hbl⟩ := hrel
      obtain ⟨r, hnx⟩ := HNX.out q (by omega) wr it1 hst
      have HST := Lib.hid (Lib.iterAt_heap wr it1 s _ (offP (ptsS s) (q + 1)) hst)
      have HBT := Lib.hid (below_iterAt (s := s) (p := offP (ptsS s) (q + 1)) hbl HK1.out)
      by_cases hd : d = 0
      · subst hd
        have hq1 : offP (ptsS s) q = A := by rw [HA.out, ← hqd, Nat.zero_add]
        rw [hq1] at hnx
        obtain ⟨P1, hP1⟩ : ∃ P1, P1 = offP (ptsS s) (q + 1) := ⟨_, rfl⟩
        rw [← hP1] at hnx HBT HST
        clear hst hbl hq1 hP1
        go_wp2_with fail
        go_ret
        exact ⟨by first | rfl | simp, HBT.out⟩
      · obtain ⟨d1, rfl⟩ : ∃ d1, d = d1 + 1 := ⟨d - 1, by omega⟩
        obtain ⟨P0, hP0⟩ : ∃ P0, P0 = offP (ptsS s) q := ⟨_, rfl⟩
        obtain ⟨P1, hP1⟩ : ∃ P1, P1 = offP (ptsS s) (q + 1) := ⟨_, rfl⟩
        rw [← hP1, ← hP0] at hnx
        have d0 : (0 : Int) ≤ (d1 : Int) := Int.natCast_nonneg _
        have d2 : d1 ≤ 2000 := by omega
        have HP1 := Lib.hid hP1
        rw [← hP1] at HBT HST
        clear hst hbl hd hP0 hP1
        go_wp2_with fail
        first
          | done
          | (go_roundw
             case rel => exact ⟨q + 1, d1, by omega, by go_num, by rw [← HP1.out]; exact HST.out, HBT.out⟩
             case measure => (try simp [intOf]); (try omega))
  · have hfn2 : f = t := by omega
    have hfn3 : ¬ (f : Int) < (t : Int) := by omega
    have hAz : A = s.size := by rw [HA.out, hfn2]; exact HALL.out
    clear hfn2 hfn
    subst hAz
    go_enter Tryz.func208, Tryz.ntmps208
    go_wp2_with fail
    refine HI.out.mono ?_
    rintro e' w' ⟨rfl, hw⟩
    rw [hw]
    clear hw
    go_wp2_with fail
    refine HC.out.mono ?_
    rintro e' w' ⟨rfl, hw⟩
    rw [hw]
    clear hw
    go_wp2_with fail
    go_ret
    exact ⟨by first | rfl | simp, HBC.out⟩
set_option maxHeartbeats 8000000 in
theorem sliceStr_ii (s : ByteArray) (hsz : s.size ≤ 2000) (k1 : Int) (hk1 : -9007199254740992 ≤ k1 ∧ k1 ≤ 9007199254740992) (k2 : Int) (hk2 : -9007199254740992 ≤ k2 ∧ k2 ≤ 9007199254740992) (w : World) (f t : Nat) (hf : (f : Int) = frB (some k1) ((ptsS s).length : Nat)) (ht : (t : Int) = toB (some k2) f ((ptsS s).length : Nat)) :
    Calls Tryz.prog 208 #[.string s, .iface 3 (.int .i64 k2), .iface 3 (.int .i64 k1)] w fun e w' => e = .returned (.iface 9 (.string (s.extract (offP (ptsS s) f) (offP (ptsS s) t)))) ∧ Below w.heap.size w w' := by
  obtain ⟨W1, cap, hconv, _, hbc, _⟩ := conv_runes s hsz w
  have h1 := frB_in (some k1) ((ptsS s).length : Nat) (by omega)
  have h2 := toB_in (some k2) f ((ptsS s).length : Nat) (by omega)
  have hpl := pts_len s
  have hall := pts_all s
  have hAm := offP_mono (ptsS s) f t (by omega)
  have hBm := offP_mono (ptsS s) t (ptsS s).length (by omega)
  have HNX := Lib.hid (next_pts s)
  obtain ⟨n, hn⟩ : ∃ n, n = (ptsS s).length := ⟨_, rfl⟩
  rw [← hn] at hf ht hconv h1 h2 hpl hall hBm HNX
  have g1 : f ≤ t := by omega
  have g2 : t ≤ n := by omega
  have g3 : n ≤ 2000 := by omega
  obtain ⟨A, hA⟩ : ∃ A, A = offP (ptsS s) f := ⟨_, rfl⟩
  obtain ⟨B, hB⟩ : ∃ B, B = offP (ptsS s) t := ⟨_, rfl⟩
  rw [hall, ← hB] at hBm
  rw [← hA, ← hB] at hAm ⊢
  have HA := Lib.hid hA
  have HB := Lib.hid hB
  have HALL := Lib.hid hall
  have HBC := Lib.hid hbc
  have a1 : (0 : Int) ≤ (A : Int) := Int.natCast_nonneg _
  have a2 : (A : Int) ≤ (B : Int) := by omega
  have a3 : (B : Int) ≤ (s.size : Int) := by omega
  clear hA hB hn hall h1 h2 hbc
  have hf1 : clampZ k1 0 n = (f : Int) := hf.symm
  have hc1 := clamp_any k1 0 n (by omega) (by omega) W1
  rw [hf1] at hc1
  have HI := Lib.hid (toInt_any k1 W1)
  have HC := Lib.hid hc1
  clear hf hf1 hc1 hk1
  have ht1 : clampZ k2 f n = (t : Int) := ht.symm
  have hc2 := clamp_any k2 f n (by omega) (by omega) W1
  rw [ht1] at hc2
  have HJ := Lib.hid (toIntCeil_int k2 W1)
  have HD := Lib.hid hc2
  clear ht ht1 hc2 hk2
  by_cases hfn : f < n
  · have hfn1 : (f : Int) < (n : Int) := by omega
    by_cases htn : t < n
    · have htn1 : (t : Int) < (n : Int) := by omega
      go_enter Tryz.func208, Tryz.ntmps208
      go_wp2_with fail
      refine HI.out.mono ?_
      rintro e' w' ⟨rfl, hw⟩
      rw [hw]
      clear hw
      go_wp2_with fail
      refine HC.out.mono ?_
      rintro e' w' ⟨rfl, hw⟩
      rw [hw]
      clear hw
      go_wp2_with fail
      refine HJ.out.mono ?_
      rintro e' w' ⟨rfl, hw⟩
      rw [hw]
      clear hw
      go_wp2_with fail
      refine HD.out.mono ?_
      rintro e' w' ⟨rfl, hw⟩
      rw [hw]
      clear hw
      go_wp2_with fail
      have HW1 := Lib.hid (below_iter (s := s) (HBC.out) (Nat.le_refl _))
      obtain ⟨it1, hit1⟩ : ∃ it, it = (W1).heap.size := ⟨_, rfl⟩
      have HI1 := Lib.hid (show ((W1).iter s 0).heap[it1]? = some (.stringIter s 0) by rw [hit1]; exact World.iter_heap _ _ _)
      have HK1 := Lib.hid (show w.heap.size ≤ it1 by rw [hit1]; exact (HBC.out).size)
      rw [← hit1]
      clear hit1
      go_loopw [7] (fun st wr => ∃ q d : Nat, d + q = f ∧ st = .int .i64 d ∧ wr.heap[it1]? = some (.stringIter s (offP (ptsS s) q)) ∧ Below w.heap.size w wr) (fun st _ => (intOf st).toNat)
      case atStart => exact ⟨0, f, rfl, rfl, HI1.out, HW1.out⟩
      case round =>
        obtain ⟨q, d, hqd, rfl, hst, hbl⟩ := hrel
        obtain ⟨r, hnx⟩ := HNX.out q (by omega) wr it1 hst
        have HST := Lib.hid (Lib.iterAt_heap wr it1 s _ (offP (ptsS s) (q + 1)) hst)
        have HBT := Lib.hid (below_iterAt (s := s) (p := offP (ptsS s) (q + 1)) hbl HK1.out)
        by_cases hd : d = 0
        · subst hd
          have hq1 : offP (ptsS s) q = A := by rw [HA.out, ← hqd, Nat.zero_add]
          rw [hq1] at hnx
          obtain ⟨P1, hP1⟩ : ∃ P1, P1 = offP (ptsS s) (q + 1) := ⟨_, rfl⟩
          rw [← hP1] at hnx HBT HST
          clear hst hbl hq1 hP1
          have HW2 := Lib.hid (below_iter (s := s) (HBT.out) (Nat.le_refl _))
          obtain ⟨it2, hit2⟩ : ∃ it, it = (wr.iterAt it1 s P1).heap.size := ⟨_, rfl⟩
          have HI2 := Lib.hid (show ((wr.iterAt it1 s P1).iter s 0).heap[it2]? = some (.stringIter s 0) by rw [hit2]; exact World.iter_heap _ _ _)
          have HK2 := Lib.hid (show w.heap.size ≤ it2 by rw [hit2]; exact (HBT.out).size)
          go_wp2_with fail
          rw [← hit2]
          clear hit2
          go_loopw [8] (fun st wr => ∃ q d : Nat, d + q = t ∧ st = .int .i64 d ∧ wr.heap[it2]? = some (.stringIter s (offP (ptsS s) q)) ∧ Below w.heap.size w wr) (fun st _ => (intOf st).toNat)
          case atStart => exact ⟨0, t, rfl, rfl, HI2.out, HW2.out⟩
          case round =>
            obtain ⟨q, d, hqd, rfl, hst, hbl⟩ := hrel
            obtain ⟨r, hnx⟩ := HNX.out q (by omega) wr it2 hst
            have HST := Lib.hid (Lib.iterAt_heap wr it2 s _ (offP (ptsS s) (q + 1)) hst)
            have HBT := Lib.hid (below_iterAt (s := s) (p := offP (ptsS s) (q + 1)) hbl HK2.out)
            by_cases hd : d = 0
            · subst hd
              have hq2 : offP (ptsS s) q = B := by rw [HB.out, ← hqd, Nat.zero_add]
              rw [hq2] at hnx
              obtain ⟨P1, hP1⟩ : ∃ P1, P1 = offP (ptsS s) (q + 1) := ⟨_, rfl⟩
              rw [← hP1] at hnx HBT HST
              clear hst hbl hq2 hP1
              go_wp2_with fail
              go_ret
              exact ⟨by first | rfl | simp, HBT.out⟩
            · obtain ⟨d1, rfl⟩ : ∃ d1, d = d1 + 1 := ⟨d - 1, by omega⟩
              obtain ⟨P0, hP0⟩ : ∃ P0, P0 = offP (ptsS s) q := ⟨_, rfl⟩
              obtain ⟨P1, hP1⟩ : ∃ P1, P1 = offP (ptsS s) (q + 1) := ⟨_, rfl⟩
              rw [← hP1, ← hP0] at hnx
              have d0 : (0 : Int) ≤ (d1 : Int) := Int.natCast_nonneg _
              have d2 : d1 ≤ 2000 := by omega
              have HP1 := Lib.hid hP1
              rw [← hP1] at HBT HST
              clear hst hbl hd hP0 hP1
              go_wp2_with fail
              first
                | done
                | (go_roundw
                   case rel => exact ⟨q + 1, d1, by omega, by go_num, by rw [← HP1.out]; exact HST.out, HBT.out⟩
                   case measure => (try simp [intOf]); (try omega))
        · obtain ⟨d1, rfl⟩ : ∃ d1, d = d1 + 1 := ⟨d - 1, by omega⟩
          obtain ⟨P0, hP0⟩ : ∃ P0, P0 = offP (ptsS s) q := ⟨_, rfl⟩
          obtain ⟨P1, hP1⟩ : ∃ P1, P1 = offP (ptsS s) (q + 1) := ⟨_, rfl⟩
          rw [← hP1, ← hP0] at hnx
          have d0 : (0 : Int) ≤ (d1 : Int) := Int.natCast_nonneg _
          have d2 : d1 ≤ 2000 := by omega
          have HP1 := Lib.hid hP1
          rw [← hP1] at HBT HST
          clear hst hbl hd hP0 hP1
          go_wp2_with fail
          first
            | done
            | (go_roundw
               case rel => exact ⟨q + 1, d1, by omega, by go_num, by rw [← HP1.out]; exact HST.out, HBT.out⟩
               case measure => (try simp [intOf]); (try omega))
    · have htn2 : t = n := by omega
      have htn3 : ¬ (t : Int) < (n : Int) := by omega
      have hBz : B = s.size := by rw [HB.out, htn2]; exact HALL.out
      clear htn2 htn
      subst hBz
      go_enter Tryz.func208, Tryz.ntmps208
      go_wp2_with fail
      refine HI.out.mono ?_
      rintro e' w' ⟨rfl, hw⟩
      rw [hw]
      clear hw
      go_wp2_with fail
      refine HC.out.mono ?_
      rintro e' w' ⟨rfl, hw⟩
      rw [hw]
      clear hw
      go_wp2_with fail
      refine HJ.out.mono ?_
      rintro e' w' ⟨rfl, hw⟩
      rw [hw]
      clear hw
      go_wp2_with fail
      refine HD.out.mono ?_
      rintro e' w' ⟨rfl, hw⟩
      rw [hw]
      clear hw
      go_wp2_with fail
      have HW1 := Lib.hid (below_iter (s := s) (HBC.out) (Nat.le_refl _))
      obtain ⟨it1, hit1⟩ : ∃ it, it = (W1).heap.size := ⟨_, rfl⟩
      have HI1 := Lib.hid (show ((W1).iter s 0).heap[it1]? = some (.stringIter s 0) by rw [hit1]; exact World.iter_heap _ _ _)
      have HK1 := Lib.hid (show w.heap.size ≤ it1 by rw [hit1]; exact (HBC.out).size)
      rw [← hit1]
      clear hit1
      go_loopw [7] (fun st wr => ∃ q d : Nat, d + q = f ∧ st = .int .i64 d ∧ wr.heap[it1]? = some (.stringIter s (offP (ptsS s) q)) ∧ Below w.heap.size w wr) (fun st _ => (intOf st).toNat)
      case atStart => exact ⟨0, f, rfl, rfl, HI1.out, HW1.out⟩
      case round =>
        obtain ⟨q, d, hqd, rfl, hst, hbl⟩ := hrel
        obtain ⟨r, hnx⟩ := HNX.out q (by omega) wr it1 hst
        have HST := Lib.hid (Lib.iterAt_heap wr it1 s _ (offP (ptsS s) (q + 1)) hst)
        have HBT := Lib.hid (below_iterAt (s := s) (p := offP (ptsS s) (q + 1)) hbl HK1.out)
        by_cases hd : d = 0
        · subst hd
          have hq1 : offP (ptsS s) q = A := by rw [HA.out, ← hqd, Nat.zero_add]
          rw [hq1] at hnx
          obtain ⟨P1, hP1⟩ : ∃ P1, P1 = offP (ptsS s) (q + 1) := ⟨_, rfl⟩
          rw [← hP1] at hnx HBT HST
          clear hst hbl hq1 hP1
          go_wp2_with fail
          go_ret
          exact ⟨by first | rfl | simp, HBT.out⟩
        · obtain ⟨d1, rfl⟩ : ∃ d1, d = d1 + 1 := ⟨d - 1, by omega⟩
          obtain ⟨P0, hP0⟩ : ∃ P0, P0 = offP (ptsS s) q := ⟨_, rfl⟩
          obtain ⟨P1, hP1⟩ : ∃ P1, P1 = offP (ptsS s) (q + 1) := ⟨_, rfl⟩
          rw [← hP1, ← hP0] at hnx
          have d0 : (0 : Int) ≤ (d1 : Int) := Int.natCast_nonneg _
          have d2 : d1 ≤ 2000 := by omega
          have HP1 := Lib.hid hP1
          rw [← hP1] at HBT HST
          clear hst hbl hd hP0 hP1
          go_wp2_with fail
          first
            | done
            | (go_roundw
               case rel => exact ⟨q + 1, d1, by omega, by go_num, by rw [← HP1.out]; exact HST.out, HBT.out⟩
               case measure => (try simp [intOf]); (try omega))
  · have hfn2 : f = n := by omega
    have hfn3 : ¬ (f : Int) < (n : Int) := by omega
    have hAz : A = s.size := by rw [HA.out, hfn2]; exact HALL.out
    by_cases htn : t < n
    · have htn1 : (t : Int) < (n : Int) := by omega
      exfalso; omega
    · have htn2 : t = n := by omega
      have htn3 : ¬ (t : Int) < (n : Int) := by omega
      have hBz : B = s.size := by rw [HB.out, htn2]; exact HALL.out
      clear htn2 htn
      subst hBz
      clear hfn2 hfn
      subst hAz
      go_enter Tryz.func208, Tryz.ntmps208
      go_wp2_with fail
      refine HI.out.mono ?_
      rintro e' w' ⟨rfl, hw⟩
      rw [hw]
      clear hw
      go_wp2_with fail
      refine HC.out.mono ?_
      rintro e' w' ⟨rfl, hw⟩
      rw [hw]
      clear hw
      go_wp2_with fail
      refine HJ.out.mono ?_
      rintro e' w' ⟨rfl, hw⟩
      rw [hw]
      clear hw
      go_wp2_with fail
      refine HD.out.mono ?_
      rintro e' w' ⟨rfl, hw⟩
      rw [hw]
      clear hw
      go_wp2_with fail
      go_ret
      exact ⟨by first | rfl | simp, HBC.out⟩
end Go.Proofs.YtpamlgdcnmcedaaGreatDoor

set_option linter.unusedVariables false
set_option linter.unusedSimpArgs false
set_option maxRecDepth 100000
namespace Go.Proofs.YtpamlgdcnmcedaaGreatDoor
open Go Go.RowKit
theorem belowN {B n : Nat} {a w : World} (h : Below B a w) : Below B a (w.drewN n) := ⟨h.os, h.tape, h.output, h.size, h.block⟩
def PlaceS (ks : List ByteArray) (s : ByteArray) (i : Nat) (b : Bool) : Prop := (b = true ∧ ks[i]? = some s) ∨ (b = false ∧ s ∉ ks)
theorem place_none {ks : List ByteArray} {s : ByteArray} (hs : sortedS ks) (k : Nat) (hlow : ∀ (j : Nat) (t : ByteArray), j < k → ks[j]? = some t → bl t s = true) (hhi : k = ks.length ∨ ∃ t, ks[k]? = some t ∧ bl t s = false ∧ t ≠ s) : s ∉ ks := by
  intro hm
  obtain ⟨j, hj⟩ := List.getElem?_of_mem hm
  have hjl := (List.getElem?_eq_some_iff.1 hj).1
  rcases Nat.lt_or_ge j k with h | h
  · have := hlow j s h hj
    rw [bl_irrefl] at this
    cases this
  · rcases hhi with h2 | ⟨t, ht, h3, h4⟩
    · omega
    · by_cases e : j = k
      · subst e
        rw [hj] at ht
        cases ht
        exact h4 rfl
      · have := sortedS_lt hs k t ht (j - k - 1) s (by rw [show k + 1 + (j - k - 1) = j by omega]; exact hj)
        rw [this] at h3
        cases h3
set_option maxHeartbeats 4000000 in
theorem place_any (v : V) (s : ByteArray) (ok : Nat → Prop) (cs : List Value) (w : World) (hv : Vr w ok v cs) (hs : sortedS v.keys) :
    Calls Tryz.prog 113 #[.agg cs.toArray, .string s] w fun e w' => (∃ (i : Nat) (b : Bool), e = .returned (.tuple #[.int .i64 i, .bool b]) ∧ PlaceS v.keys s i b) ∧ Below w.heap.size w w' := by
  obtain ⟨k, h, t, l, ks, vs, A1, c1, A2, c2, A3, c3, f, g, ht, h1, h2, h3, b1, b2, b3, hk', hh', hs', r1, e1, r2, r3, e3⟩ := hv
  have HS := Lib.hid hs
  have HR := Lib.hid r2
  obtain ⟨n, hn⟩ : ∃ n, n = ks.length := ⟨_, rfl⟩
  have HN := Lib.hid hn
  rw [← hn] at b2 HR h2 ⊢
  obtain ⟨W0, hW0⟩ : ∃ W0, W0 = w.alloc (.cells #[.int .i64 k, .int .i64 h, .string t, .slice A1 l.length c1, .slice A2 n c2, .slice A3 vs.length c3] 26) := ⟨_, rfl⟩
  have hb0 : Below w.heap.size w W0 := by rw [hW0]; exact (Below.refl _ _).alloc (Nat.le_refl _) _
  have hc0 : W0.heap[w.heap.size]? = some (.cells #[.int .i64 k, .int .i64 h, .string t, .slice A1 l.length c1, .slice A2 n c2, .slice A3 vs.length c3] 26 (0, 0)) := by rw [hW0]; exact heap_alloc_new w _
  have z4 : W0.cell? ⟨w.heap.size, 4, none⟩ = some (.slice A2 n c2) := by simp [World.cell?, hc0]
  have HW0 := Lib.hid hW0
  have HB0 := Lib.hid hb0
  clear hs hn r1 e1 r2 r3 e3 hs' hW0 hb0 hc0 h1 h2 h3 b1 b3
  go_enter Tryz.func113, Tryz.ntmps113
  go_wp2_with fail
  rw [← HW0.out]
  go_loopw [6] (fun i wr => W0 = wr ∧ ∃ k : Nat, k ≤ n ∧ i = .int .i64 k ∧ ∀ (j : Nat) (t : ByteArray), j < k → ks[j]? = some t → bl t s = true) (fun i _ => n - (intOf i).toNat)
  case atStart => exact ⟨rfl, 0, Nat.zero_le _, rfl, fun j t hj => absurd hj (Nat.not_lt_zero _)⟩
  case round =>
    obtain ⟨rfl, k9, hk9, rfl, hlow⟩ := hrel

    have HLOW := Lib.hid hlow
    clear hlow
    by_cases hlt : k9 < n
    · obtain ⟨t9, ht9⟩ := at_lt (l := ks) (p := k9) (by rw [← HN.out]; exact hlt)
      obtain ⟨ad, hA, _, hca⟩ := HR.out (by omega)
      subst hA
      have hcell : W0.cell? (ad.add k9) = some (.string t9) := by
        have := cell_kept HB0.out (hca k9 0 _ hlt rfl)
        simpa [List.getD_eq_getElem?_getD, ht9] using this
      have i0 : (0 : Int) ≤ (k9 : Int) := Int.natCast_nonneg _
      have i1 : (k9 : Int) < (n : Int) := by omega
      have HT9 := Lib.hid ht9
      clear hca ht9
      by_cases hb : Op.bytesLess t9.toList s.toList = true
      · have HL2 := Lib.hid (show ∀ (j : Nat) (t : ByteArray), j < k9 + 1 → ks[j]? = some t → bl t s = true from fun j t hj ht => by
          by_cases e : j = k9
          · subst e; rw [HT9.out] at ht; cases ht; exact hb
          · exact HLOW.out j t (by omega) ht)
        go_wp2_with fail
        go_roundw
        case rel => first | exact ⟨rfl, k9 + 1, by omega, by go_num, HL2.out⟩ | exact ⟨trivial, k9 + 1, by omega, by go_num, HL2.out⟩
        case measure => simp [intOf]; omega
      · have hb' : Op.bytesLess t9.toList s.toList = false := by simpa using hb
        by_cases he : (t9.toList == s.toList) = true
        · have hts : t9 = s := by
            have e := eq_of_beq he
            cases t9; cases s
            simp [ByteArray.toList_eq] at e ⊢
            exact e
          have HPS := Lib.hid (show PlaceS ks s k9 true from .inl ⟨rfl, by rw [← hts]; exact HT9.out⟩)
          clear hts hb
          go_wp2_with fail
          go_quiet (fail)
          go_wp2_with fail
          go_ret2
          exact ⟨⟨k9, true, rfl, HPS.out⟩, by first | exact HB0.out | exact belowN HB0.out⟩
        · have he' : (t9.toList == s.toList) = false := by simpa using he
          have HPS := Lib.hid (show PlaceS ks s k9 false from .inr ⟨rfl, place_none HS.out k9 HLOW.out (.inr ⟨t9, HT9.out, hb', fun e => by rw [e] at he'; simp at he'⟩)⟩)
          clear hb he
          go_wp2_with fail
          go_quiet (fail)
          go_wp2_with fail
          go_ret2
          exact ⟨⟨k9, false, rfl, HPS.out⟩, by first | exact HB0.out | exact belowN HB0.out⟩
    · have hkn : k9 = n := by omega
      subst hkn
      have HPS := Lib.hid (show PlaceS ks s k9 false from .inr ⟨rfl, place_none HS.out k9 HLOW.out (.inl HN.out)⟩)
      clear hlt
      go_wp2_with fail
      go_quiet (fail)
      go_wp2_with fail
      go_ret2
      exact ⟨⟨k9, false, rfl, HPS.out⟩, by first | exact HB0.out | exact belowN HB0.out⟩
/-- What stands at a key. -/
def lookV : List ByteArray → List V → ByteArray → Option V
  | k :: ks, v :: vs, s => if s = k then some v else lookV ks vs s
  | _, _, _ => none
theorem lookV_at : ∀ (ks : List ByteArray) (vs : List V) (i : Nat) (t : ByteArray) (v : V), ks.Nodup → ks[i]? = some t → vs[i]? = some v → lookV ks vs t = some v
  | [], _, _, _, _, _, h, _ => by simp at h
  | _ :: _, [], _, _, _, _, _, h => by simp at h
  | k :: ks, u :: us, 0, t, v, hd, h1, h2 => by
    simp at h1 h2
    rw [lookV, if_pos h1.symm, h2]
  | k :: ks, u :: us, i + 1, t, v, hd, h1, h2 => by
    rw [List.getElem?_cons_succ] at h1 h2
    rw [List.nodup_cons] at hd
    rw [lookV, if_neg fun e => hd.1 (by rw [← e]; exact List.mem_of_getElem? h1)]
    exact lookV_at ks us i t v hd.2 h1 h2
theorem lookV_none : ∀ (ks : List ByteArray) (vs : List V) (t : ByteArray), t ∉ ks → lookV ks vs t = none
  | [], _, _, _ => by rfl
  | _ :: _, [], _, _ => by rfl
  | k :: ks, u :: us, t, h => by
    rw [lookV, if_neg fun e => h (by rw [e]; exact List.mem_cons_self)]
    exact lookV_none ks us t fun hm => h (List.mem_cons_of_mem _ hm)
theorem sorted_nodup : ∀ {ks : List ByteArray}, sortedS ks → ks.Nodup
  | [], _ => .nil
  | k :: ks, h => by
    refine List.nodup_cons.2 ⟨fun hm => ?_, sorted_nodup fun i a b ha hb => h (i + 1) a b (by simpa using ha) (by simpa using hb)⟩
    obtain ⟨j, hj⟩ := List.getElem?_of_mem hm
    have := sortedS_lt h 0 k (by simp) j k (by simpa [Nat.add_comm] using hj)
    rw [bl_irrefl] at this
    cases this
theorem placeS_look {ks : List ByteArray} {vs : List V} {s : ByteArray} {i : Nat} {b : Bool} (hs : sortedS ks) (hl : ks.length = vs.length) (h : PlaceS ks s i b) : (b = true ∧ i < vs.length ∧ lookV ks vs s = vs[i]?) ∨ (b = false ∧ lookV ks vs s = none) := by
  rcases h with ⟨rfl, h⟩ | ⟨rfl, h⟩
  · have hi := (List.getElem?_eq_some_iff.1 h).1
    obtain ⟨v, hv⟩ := at_lt (l := vs) (p := i) (by omega)
    exact .inl ⟨rfl, by omega, by rw [hv]; exact lookV_at ks vs i s v (sorted_nodup hs) h hv⟩
  · exact .inr ⟨rfl, lookV_none ks vs s h⟩
theorem has_any (v : V) (s : ByteArray) (ok : Nat → Prop) (cs : List Value) (w : World) (hv : Vr w ok v cs) (wv : WF v) :
    Calls Tryz.prog 130 #[.agg cs.toArray, .string s] w fun e w' => e = .returned (.bool (lookV v.keys v.vals s).isSome) ∧ Below w.heap.size w w' := by
  have HV := Lib.hid hv
  have hk : sortedS v.keys ∧ v.keys.length = v.vals.length := by
    obtain ⟨_, _, _, _, _, _, _, _, _, _, _, hl, _, _, hs, _, _⟩ := wv
    exact ⟨hs, hl⟩
  have HK := Lib.hid hk
  obtain ⟨k, h, t, l, ks, vs, A1, c1, A2, c2, A3, c3, f, g, ht, h1, h2, h3, b1, b2, b3, hk', hh', hs', r1, e1, r2, r3, e3⟩ := hv
  obtain ⟨W0, hW0⟩ : ∃ W0, W0 = w.alloc (.cells #[.int .i64 k, .int .i64 h, .string t, .slice A1 l.length c1, .slice A2 ks.length c2, .slice A3 vs.length c3] 26) := ⟨_, rfl⟩
  have hb0 : Below w.heap.size w W0 := by rw [hW0]; exact (Below.refl _ _).alloc (Nat.le_refl _) _
  have HW0 := Lib.hid hW0
  have HB0 := Lib.hid hb0
  clear hk r1 e1 r2 r3 e3 hs' hW0 hb0 wv
  go_enter Tryz.func130, Tryz.ntmps130
  go_wp2_with fail
  rw [← HW0.out]
  refine (place_any (V.mk k h t l ks vs) s ok _ W0 (HV.out.keep HB0.out) HK.out.1).mono ?_
  rintro e' w' ⟨⟨i, b, rfl, hp⟩, hb⟩
  have HB := Lib.hid (below_trans HB0.out hb)
  have hr := placeS_look HK.out.1 HK.out.2 hp
  have HR := Lib.hid (show b = (lookV (V.mk k h t l ks vs).keys (V.mk k h t l ks vs).vals s).isSome from by
    rcases hr with ⟨rfl, h1, h2⟩ | ⟨rfl, h2⟩
    · rw [h2, List.getElem?_eq_getElem h1]; rfl
    · rw [h2]; rfl)
  clear hb hp hr
  go_wp2_with fail
  go_ret
  exact ⟨by rw [← HR.out]; rfl, HB.out⟩
end Go.Proofs.YtpamlgdcnmcedaaGreatDoor

set_option linter.unusedVariables false
set_option linter.unusedSimpArgs false
set_option maxRecDepth 100000
namespace Go.Proofs.YtpamlgdcnmcedaaGreatDoor
open Go Go.RowKit
theorem set6v {wa : World} {R : Nat} {d : V} {ok ok' : Nat → Prop} {rs : List Value} (u0 u1 u2 u3 u4 u5 : Value) (h : Vr wa ok d rs) (hr : ∀ b, ok b → b ≠ R ∧ ok' b) :
    Vr ((((((wa.setCell ⟨R, 0, none⟩ u0).setCell ⟨R, 1, none⟩ u1).setCell ⟨R, 2, none⟩ u2).setCell ⟨R, 3, none⟩ u3).setCell ⟨R, 4, none⟩ u4).setCell ⟨R, 5, none⟩ u5) ok' d rs :=
  (h.move fun b hb => (by
    have hne := (hr b hb).1
    have q : ∀ (W : World) (i : Nat) (u : Value), (W.setCell ⟨R, i, none⟩ u).heap[b]? = W.heap[b]? := fun W i u => Below.heap_setCell _ _ _ _ hne
    rw [q, q, q, q, q, q])).mono fun b hb => (hr b hb).2
theorem below6v {w wa : World} {R : Nat} (u0 u1 u2 u3 u4 u5 : Value) (h : Below w.heap.size w wa) (hR : w.heap.size ≤ R) :
    Below w.heap.size w ((((((wa.setCell ⟨R, 0, none⟩ u0).setCell ⟨R, 1, none⟩ u1).setCell ⟨R, 2, none⟩ u2).setCell ⟨R, 3, none⟩ u3).setCell ⟨R, 4, none⟩ u4).setCell ⟨R, 5, none⟩ u5) :=
  (((((h.setCell hR _).setCell hR _).setCell hR _).setCell hR _).setCell hR _).setCell hR _
/-- A value comes back. -/
def ValPost (ok : Nat → Prop) (d : V) (w : World) (e : Ending) (w' : World) : Prop :=
  ∃ (a0 a1 : Int) (s : ByteArray) (S3 S4 S5 : Option Addr) (n3 m3 n4 m4 n5 m5 : Nat), e = .returned (.agg #[.int .i64 a0, .int .i64 a1, .string s, .slice S3 n3 m3, .slice S4 n4 m4, .slice S5 n5 m5]) ∧ Vr w' (fun b => ok b ∧ b < w.heap.size) d [.int .i64 a0, .int .i64 a1, .string s, .slice S3 n3 m3, .slice S4 n4 m4, .slice S5 n5 m5] ∧ Below w.heap.size w w'
set_option maxHeartbeats 4000000 in
theorem get_any (v : V) (key : ByteArray) (ok : Nat → Prop) (cs : List Value) (w : World) (hv : Vr w ok v cs) (wv : WF v) : Calls Tryz.prog 61 #[.agg cs.toArray, .string key] w (ValPost ok ((lookV v.keys v.vals key).getD zeroV0) w) := by
  have HV := Lib.hid hv
  have hk : sortedS v.keys ∧ v.keys.length = v.vals.length := by
    obtain ⟨_, _, _, _, _, _, _, _, _, _, _, hl, _, _, hs, _, _⟩ := wv
    exact ⟨hs, hl⟩
  have HK := Lib.hid hk
  obtain ⟨k, h, t, l, ks, vs, A1, c1, A2, c2, A3, c3, f, g, ht, h1, h2, h3, b1, b2, b3, hk', hh', hs', r1, e1, r2, r3, e3⟩ := hv
  have HR3 := Lib.hid r3
  have HE3 := Lib.hid e3
  obtain ⟨n, hn⟩ : ∃ n, n = vs.length := ⟨_, rfl⟩
  have HN := Lib.hid hn
  rw [← hn] at HR3 h3 b3 HV ⊢
  obtain ⟨W2, hW2⟩ : ∃ W2, W2 = (w.alloc (.cells #[.int .i64 k, .int .i64 h, .string t, .slice A1 l.length c1, .slice A2 ks.length c2, .slice A3 n c3] 26)).alloc (.cells #[.int .i64 0, .int .i64 0, .string ⟨#[]⟩, .slice none 0 0, .slice none 0 0, .slice none 0 0] 26) := ⟨_, rfl⟩
  have hB : Below w.heap.size w W2 := by rw [hW2]; exact ((Below.refl _ _).alloc (Nat.le_refl _) _).alloc (by simp) _
  have hS2 : W2.heap.size = w.heap.size + 2 := by rw [hW2]; simp
  have hC2 : W2.heap[w.heap.size]? = some (.cells #[.int .i64 k, .int .i64 h, .string t, .slice A1 l.length c1, .slice A2 ks.length c2, .slice A3 n c3] 26) := by
    rw [hW2, heap_alloc_old _ _ (by simp)]
    exact heap_alloc_new w _
  have hR2 : W2.heap[w.heap.size + 1]? = some (.cells #[.int .i64 0, .int .i64 0, .string ⟨#[]⟩, .slice none 0 0, .slice none 0 0, .slice none 0 0] 26) := by
    rw [hW2]
    have := heap_alloc_new (w.alloc (.cells #[.int .i64 k, .int .i64 h, .string t, .slice A1 l.length c1, .slice A2 ks.length c2, .slice A3 n c3] 26)) (.cells #[.int .i64 0, .int .i64 0, .string ⟨#[]⟩, .slice none 0 0, .slice none 0 0, .slice none 0 0] 26)
    rw [show (w.alloc (.cells #[.int .i64 k, .int .i64 h, .string t, .slice A1 l.length c1, .slice A2 ks.length c2, .slice A3 n c3] 26)).heap.size = w.heap.size + 1 from by simp] at this
    exact this
  have HFAR := Lib.hid (show ∀ W, Below W2.heap.size W2 W → W.heap[w.heap.size]? = some (.cells #[.int .i64 k, .int .i64 h, .string t, .slice A1 l.length c1, .slice A2 ks.length c2, .slice A3 n c3] 26) ∧ W.heap[w.heap.size + 1]? = some (.cells #[.int .i64 0, .int .i64 0, .string ⟨#[]⟩, .slice none 0 0, .slice none 0 0, .slice none 0 0] 26) from fun W hb => ⟨(hb.block _ (by omega)).trans hC2, (hb.block _ (by omega)).trans hR2⟩)
  have HW2 := Lib.hid hW2
  have HB := Lib.hid hB
  have HS2 := Lib.hid hS2
  have hbR : w.heap.size ≤ w.heap.size + 1 := Nat.le_succ _
  clear hW2 hB hS2 hC2 hR2 hk r1 e1 r2 r3 e3 hs' wv hn
  go_enter Tryz.func61, Tryz.ntmps61
  go_wp2_with fail
  rw [← HW2.out]
  refine (place_any (V.mk k h t l ks vs) key ok _ W2 (HV.out.keep HB.out) HK.out.1).mono ?_
  rintro e' w4 ⟨⟨i, b, rfl, hp⟩, hb⟩
  have HB4 := Lib.hid (below_trans HB.out hb)
  have hr4 := (HFAR.out w4 hb)
  have hz5 := hr4.1
  have hy := hr4.2
  have z5 : w4.cell? ⟨w.heap.size, 5, none⟩ = some (.slice A3 n c3) := by simp [World.cell?, hz5]
  have y0 : w4.cell? ⟨w.heap.size + 1, 0, none⟩ = some (.int .i64 0) := by simp [World.cell?, hy]
  have y1 : w4.cell? ⟨w.heap.size + 1, 1, none⟩ = some (.int .i64 0) := by simp [World.cell?, hy]
  have y2 : w4.cell? ⟨w.heap.size + 1, 2, none⟩ = some (.string ⟨#[]⟩) := by simp [World.cell?, hy]
  have y3 : w4.cell? ⟨w.heap.size + 1, 3, none⟩ = some (.slice none 0 0) := by simp [World.cell?, hy]
  have y4 : w4.cell? ⟨w.heap.size + 1, 4, none⟩ = some (.slice none 0 0) := by simp [World.cell?, hy]
  have y5 : w4.cell? ⟨w.heap.size + 1, 5, none⟩ = some (.slice none 0 0) := by simp [World.cell?, hy]
  have yf : ∀ i, w4.frozen? ⟨w.heap.size + 1, i, none⟩ = false := fun i => by simp [World.frozen?, hy]
  have hr := placeS_look (vs := vs) HK.out.1 HK.out.2 hp
  clear hb hp hr4 hz5 hy
  rcases hr with ⟨rfl, hi, hl⟩ | ⟨rfl, hl⟩
  · obtain ⟨d, hd⟩ := at_lt hi
    obtain ⟨ad, hA, _, hc0⟩ := HR3.out (by rw [HN.out]; omega)
    subst hA
    have hV := (HE3.out i d hd).bound.keep HB4.out
    have hcc0 := fun j u hu => cell_kept HB4.out (hc0 i j u (by rw [HN.out]; exact hi) hu)
    obtain ⟨a0, a1, s, S3, S4, S5, n3, m3, n4, m4, n5, m5, hfj⟩ : ∃ (a0 a1 : Int) (s : ByteArray) (S3 S4 S5 : Option Addr) (n3 m3 n4 m4 n5 m5 : Nat), g i = [.int .i64 a0, .int .i64 a1, .string s, .slice S3 n3 m3, .slice S4 n4 m4, .slice S5 n5 m5] := by
      generalize g i = fk at hV
      cases hV
      exact ⟨_, _, _, _, _, _, _, _, _, _, _, _, rfl⟩
    rw [hfj] at hV hcc0
    obtain ⟨x0, x1, x2, x3, x4, x5⟩ := cells6 hcc0
    have i0 : (0 : Int) ≤ (i : Int) := Int.natCast_nonneg _
    have i1 : (i : Int) < (n : Int) := by have := HN.out; omega
    have HVD := Lib.hid hV
    have HD := Lib.hid (show (lookV ks vs key).getD zeroV0 = d from by
      have hl' : lookV ks vs key = vs[i]? := hl
      rw [hl', hd]; rfl)
    clear hV hcc0 hc0 hfj hd hl hi
    go_wp2_with fail
    refine bodyPost_ret (v := .agg #[.int .i64 a0, .int .i64 a1, .string s, .slice S3 n3 m3, .slice S4 n4 m4, .slice S5 n5 m5]) (by simp [results, Tryz.results61, go_sem, y0, y1, y2, y3, y4, y5]) rfl ?_
    refine ⟨a0, a1, s, S3, S4, S5, n3, m3, n4, m4, n5, m5, rfl, ?_, below6v _ _ _ _ _ _ HB4.out hbR⟩
    rw [show (lookV (V.mk k h t l ks vs).keys (V.mk k h t l ks vs).vals key).getD zeroV0 = d from HD.out]
    refine set6v _ _ _ _ _ _ HVD.out (fun b hb => ⟨by omega, hb⟩)
  · have HD := Lib.hid (show (lookV ks vs key).getD zeroV0 = zeroV0 from by
      have hl' : lookV ks vs key = none := hl
      rw [hl']; rfl)
    clear hl
    go_wp2_with fail
    refine bodyPost_ret (v := .agg #[.int .i64 0, .int .i64 0, .string ⟨#[]⟩, .slice none 0 0, .slice none 0 0, .slice none 0 0]) (by simp [results, Tryz.results61, go_sem, y0, y1, y2, y3, y4, y5]) rfl ?_
    refine ⟨0, 0, ⟨#[]⟩, none, none, none, 0, 0, 0, 0, 0, 0, rfl, ?_, below6v _ _ _ _ _ _ HB4.out hbR⟩
    rw [show (lookV (V.mk k h t l ks vs).keys (V.mk k h t l ks vs).vals key).getD zeroV0 = zeroV0 from HD.out]
    exact vr_plain' 0 0 (by decide) (by decide)
end Go.Proofs.YtpamlgdcnmcedaaGreatDoor

set_option linter.unusedVariables false
set_option linter.unusedSimpArgs false
set_option maxRecDepth 100000
namespace Go.Proofs.YtpamlgdcnmcedaaGreatDoor
open Go Go.RowKit
@[go_sem] theorem idx0 (u0 u1 u2 u3 u4 u5 u6 u7 u8 u9 u10 u11 : Value) (w : World) : (Instr.index 167 (.agg #[u0, u1, u2, u3, u4, u5, u6, u7, u8, u9, u10, u11]) (.int .i64 0)).run Tryz.prog w = .ok (.agg #[u0, u1, u2, u3, u4, u5]) w := by
  kernel_rfl
@[go_sem] theorem idx1 (u0 u1 u2 u3 u4 u5 u6 u7 u8 u9 u10 u11 : Value) (w : World) : (Instr.index 167 (.agg #[u0, u1, u2, u3, u4, u5, u6, u7, u8, u9, u10, u11]) (.int .i64 1)).run Tryz.prog w = .ok (.agg #[u6, u7, u8, u9, u10, u11]) w := by
  kernel_rfl
theorem cells2 {w : World} {g : Nat} {a0 a1 : Value} {t : TypeId} (h : w.heap[g]? = some (.cells #[a0, a1] t (0, 0))) : w.cell? ⟨g, 0, none⟩ = some a0 ∧ w.cell? ⟨g, 1, none⟩ = some a1 ∧ ∀ i, w.frozen? ⟨g, i, none⟩ = false := by
  refine ⟨?_, ?_, fun i => ?_⟩ <;> simp [World.cell?, World.frozen?, h]
theorem wf_half {d : V} (h : WF d) : -18014398509481984 ≤ d.half ∧ d.half ≤ 18014398509481984 := by
  obtain ⟨_, _, _, _, _, _, _, _, _, _, _, _, hb, _, _, _, _⟩ := h
  exact hb
theorem wf_val {v : V} (h : WF v) : ∀ d, d ∈ v.vals → WF d := by
  obtain ⟨_, _, _, _, _, _, _, _, _, _, _, _, _, _, _, _, wv⟩ := h
  exact wv
theorem cells12 {w : World} {g : Nat} {u0 u1 u2 u3 u4 u5 u6 u7 u8 u9 u10 u11 : Value} {t : TypeId} (h : w.heap[g]? = some (.cells #[u0, u1, u2, u3, u4, u5, u6, u7, u8, u9, u10, u11] t (0, 0))) :
    w.cell? ⟨g, 0, none⟩ = some u0 ∧ w.cell? ⟨g, 1, none⟩ = some u1 ∧ w.cell? ⟨g, 2, none⟩ = some u2 ∧ w.cell? ⟨g, 3, none⟩ = some u3 ∧ w.cell? ⟨g, 4, none⟩ = some u4 ∧ w.cell? ⟨g, 5, none⟩ = some u5 ∧ w.cell? ⟨g, 6, none⟩ = some u6 ∧ w.cell? ⟨g, 7, none⟩ = some u7 ∧ w.cell? ⟨g, 8, none⟩ = some u8 ∧ w.cell? ⟨g, 9, none⟩ = some u9 ∧ w.cell? ⟨g, 10, none⟩ = some u10 ∧ w.cell? ⟨g, 11, none⟩ = some u11 ∧ ∀ i, w.frozen? ⟨g, i, none⟩ = false := by
  refine ⟨?_, ?_, ?_, ?_, ?_, ?_, ?_, ?_, ?_, ?_, ?_, ?_, fun i => ?_⟩ <;> simp [World.cell?, World.frozen?, h]
set_option maxHeartbeats 8000000 in
theorem arr_set {W3 W : World} {g : Nat} {v0 v1 v2 v3 v4 v5 v6 v7 v8 v9 v10 v11 : Value} (hb : Below W3.heap.size W3 W) (hg : W3.heap.size ≤ g) (h : W.heap[g]? = some (.cells #[v0, v1, v2, v3, v4, v5, v6, v7, v8, v9, v10, v11] 167 (0, 0))) (u0 u1 u2 u3 u4 u5 u6 u7 u8 u9 u10 u11 : Value) :
    Below W3.heap.size W3 ((((((((((((W.setCell ⟨g, 0, none⟩ u0).setCell ⟨g, 1, none⟩ u1).setCell ⟨g, 2, none⟩ u2).setCell ⟨g, 3, none⟩ u3).setCell ⟨g, 4, none⟩ u4).setCell ⟨g, 5, none⟩ u5).setCell ⟨g, 6, none⟩ u6).setCell ⟨g, 7, none⟩ u7).setCell ⟨g, 8, none⟩ u8).setCell ⟨g, 9, none⟩ u9).setCell ⟨g, 10, none⟩ u10).setCell ⟨g, 11, none⟩ u11) ∧ (((((((((((((W.setCell ⟨g, 0, none⟩ u0).setCell ⟨g, 1, none⟩ u1).setCell ⟨g, 2, none⟩ u2).setCell ⟨g, 3, none⟩ u3).setCell ⟨g, 4, none⟩ u4).setCell ⟨g, 5, none⟩ u5).setCell ⟨g, 6, none⟩ u6).setCell ⟨g, 7, none⟩ u7).setCell ⟨g, 8, none⟩ u8).setCell ⟨g, 9, none⟩ u9).setCell ⟨g, 10, none⟩ u10).setCell ⟨g, 11, none⟩ u11)).heap[g]? = some (.cells #[u0, u1, u2, u3, u4, u5, u6, u7, u8, u9, u10, u11] 167 (0, 0)) := by
  refine ⟨?_, ?_⟩
  · have q : ∀ (W' : World) (i : Nat) (u : Value), Below W3.heap.size W3 W' → Below W3.heap.size W3 (W'.setCell ⟨g, i, none⟩ u) := fun W' i u h => h.setCell hg u
    apply q; apply q; apply q; apply q; apply q; apply q; apply q; apply q; apply q; apply q; apply q; apply q
    exact hb
  · have k0 : ((W.setCell ⟨g, 0, none⟩ u0)).heap[g]? = some (.cells #[u0, v1, v2, v3, v4, v5, v6, v7, v8, v9, v10, v11] 167 (0, 0)) := heap_setCell_row (i := 0) h u0
    have k1 : (((W.setCell ⟨g, 0, none⟩ u0).setCell ⟨g, 1, none⟩ u1)).heap[g]? = some (.cells #[u0, u1, v2, v3, v4, v5, v6, v7, v8, v9, v10, v11] 167 (0, 0)) := heap_setCell_row (i := 1) k0 u1
    have k2 : ((((W.setCell ⟨g, 0, none⟩ u0).setCell ⟨g, 1, none⟩ u1).setCell ⟨g, 2, none⟩ u2)).heap[g]? = some (.cells #[u0, u1, u2, v3, v4, v5, v6, v7, v8, v9, v10, v11] 167 (0, 0)) := heap_setCell_row (i := 2) k1 u2
    have k3 : (((((W.setCell ⟨g, 0, none⟩ u0).setCell ⟨g, 1, none⟩ u1).setCell ⟨g, 2, none⟩ u2).setCell ⟨g, 3, none⟩ u3)).heap[g]? = some (.cells #[u0, u1, u2, u3, v4, v5, v6, v7, v8, v9, v10, v11] 167 (0, 0)) := heap_setCell_row (i := 3) k2 u3
    have k4 : ((((((W.setCell ⟨g, 0, none⟩ u0).setCell ⟨g, 1, none⟩ u1).setCell ⟨g, 2, none⟩ u2).setCell ⟨g, 3, none⟩ u3).setCell ⟨g, 4, none⟩ u4)).heap[g]? = some (.cells #[u0, u1, u2, u3, u4, v5, v6, v7, v8, v9, v10, v11] 167 (0, 0)) := heap_setCell_row (i := 4) k3 u4
    have k5 : (((((((W.setCell ⟨g, 0, none⟩ u0).setCell ⟨g, 1, none⟩ u1).setCell ⟨g, 2, none⟩ u2).setCell ⟨g, 3, none⟩ u3).setCell ⟨g, 4, none⟩ u4).setCell ⟨g, 5, none⟩ u5)).heap[g]? = some (.cells #[u0, u1, u2, u3, u4, u5, v6, v7, v8, v9, v10, v11] 167 (0, 0)) := heap_setCell_row (i := 5) k4 u5
    have k6 : ((((((((W.setCell ⟨g, 0, none⟩ u0).setCell ⟨g, 1, none⟩ u1).setCell ⟨g, 2, none⟩ u2).setCell ⟨g, 3, none⟩ u3).setCell ⟨g, 4, none⟩ u4).setCell ⟨g, 5, none⟩ u5).setCell ⟨g, 6, none⟩ u6)).heap[g]? = some (.cells #[u0, u1, u2, u3, u4, u5, u6, v7, v8, v9, v10, v11] 167 (0, 0)) := heap_setCell_row (i := 6) k5 u6
    have k7 : (((((((((W.setCell ⟨g, 0, none⟩ u0).setCell ⟨g, 1, none⟩ u1).setCell ⟨g, 2, none⟩ u2).setCell ⟨g, 3, none⟩ u3).setCell ⟨g, 4, none⟩ u4).setCell ⟨g, 5, none⟩ u5).setCell ⟨g, 6, none⟩ u6).setCell ⟨g, 7, none⟩ u7)).heap[g]? = some (.cells #[u0, u1, u2, u3, u4, u5, u6, u7, v8, v9, v10, v11] 167 (0, 0)) := heap_setCell_row (i := 7) k6 u7
    have k8 : ((((((((((W.setCell ⟨g, 0, none⟩ u0).setCell ⟨g, 1, none⟩ u1).setCell ⟨g, 2, none⟩ u2).setCell ⟨g, 3, none⟩ u3).setCell ⟨g, 4, none⟩ u4).setCell ⟨g, 5, none⟩ u5).setCell ⟨g, 6, none⟩ u6).setCell ⟨g, 7, none⟩ u7).setCell ⟨g, 8, none⟩ u8)).heap[g]? = some (.cells #[u0, u1, u2, u3, u4, u5, u6, u7, u8, v9, v10, v11] 167 (0, 0)) := heap_setCell_row (i := 8) k7 u8
    have k9 : (((((((((((W.setCell ⟨g, 0, none⟩ u0).setCell ⟨g, 1, none⟩ u1).setCell ⟨g, 2, none⟩ u2).setCell ⟨g, 3, none⟩ u3).setCell ⟨g, 4, none⟩ u4).setCell ⟨g, 5, none⟩ u5).setCell ⟨g, 6, none⟩ u6).setCell ⟨g, 7, none⟩ u7).setCell ⟨g, 8, none⟩ u8).setCell ⟨g, 9, none⟩ u9)).heap[g]? = some (.cells #[u0, u1, u2, u3, u4, u5, u6, u7, u8, u9, v10, v11] 167 (0, 0)) := heap_setCell_row (i := 9) k8 u9
    have k10 : ((((((((((((W.setCell ⟨g, 0, none⟩ u0).setCell ⟨g, 1, none⟩ u1).setCell ⟨g, 2, none⟩ u2).setCell ⟨g, 3, none⟩ u3).setCell ⟨g, 4, none⟩ u4).setCell ⟨g, 5, none⟩ u5).setCell ⟨g, 6, none⟩ u6).setCell ⟨g, 7, none⟩ u7).setCell ⟨g, 8, none⟩ u8).setCell ⟨g, 9, none⟩ u9).setCell ⟨g, 10, none⟩ u10)).heap[g]? = some (.cells #[u0, u1, u2, u3, u4, u5, u6, u7, u8, u9, u10, v11] 167 (0, 0)) := heap_setCell_row (i := 10) k9 u10
    have k11 : (((((((((((((W.setCell ⟨g, 0, none⟩ u0).setCell ⟨g, 1, none⟩ u1).setCell ⟨g, 2, none⟩ u2).setCell ⟨g, 3, none⟩ u3).setCell ⟨g, 4, none⟩ u4).setCell ⟨g, 5, none⟩ u5).setCell ⟨g, 6, none⟩ u6).setCell ⟨g, 7, none⟩ u7).setCell ⟨g, 8, none⟩ u8).setCell ⟨g, 9, none⟩ u9).setCell ⟨g, 10, none⟩ u10).setCell ⟨g, 11, none⟩ u11)).heap[g]? = some (.cells #[u0, u1, u2, u3, u4, u5, u6, u7, u8, u9, u10, u11] 167 (0, 0)) := heap_setCell_row (i := 11) k10 u11
    exact k11
/-- Two values of old blocks, read off any later world. -/
theorem keepD {w W3 wx : World} {d : V} {rs : List Value} (h3 : Below w.heap.size w W3) (hx : Below W3.heap.size W3 wx) (h : Vr wx (fun b => b < w.heap.size) d rs) : ∀ W, Below w.heap.size w W → Vr W (fun b => b < w.heap.size) d rs := fun W hW =>
  h.move fun b hb => (hW.block b hb).trans ((below_trans h3 hx).block b hb).symm
def TwoAt (w W3 : World) (d1 d2 : V) (pv : Value) (wx : World) : Prop :=
  ∃ (g : Nat) (a0 a1 : Int) (s : ByteArray) (S3 S4 S5 : Option Addr) (n3 m3 n4 m4 n5 m5 : Nat) (b0 b1 : Int) (sb : ByteArray) (T3 T4 T5 : Option Addr) (p3 q3 p4 q4 p5 q5 : Nat), pv = .pointer (some ⟨g, 0, none⟩) ∧ Below W3.heap.size W3 wx ∧ W3.heap.size ≤ g ∧
    wx.heap[g]? = some (.cells #[.int .i64 a0, .int .i64 a1, .string s, .slice S3 n3 m3, .slice S4 n4 m4, .slice S5 n5 m5, .int .i64 b0, .int .i64 b1, .string sb, .slice T3 p3 q3, .slice T4 p4 q4, .slice T5 p5 q5] 167 (0, 0)) ∧ (∀ W, Below w.heap.size w W → Vr W (fun b => b < w.heap.size) d1 [.int .i64 a0, .int .i64 a1, .string s, .slice S3 n3 m3, .slice S4 n4 m4, .slice S5 n5 m5]) ∧ (∀ W, Below w.heap.size w W → Vr W (fun b => b < w.heap.size) d2 [.int .i64 b0, .int .i64 b1, .string sb, .slice T3 p3 q3, .slice T4 p4 q4, .slice T5 p5 q5])
theorem two_below {w W3 wx : World} {d1 d2 : V} {pv : Value} (h : TwoAt w W3 d1 d2 pv wx) : Below W3.heap.size W3 wx := by
  obtain ⟨_, _, _, _, _, _, _, _, _, _, _, _, _, _, _, _, _, _, _, _, _, _, _, _, _, _, h, _⟩ := h
  exact h
theorem two_set {w W3 W : World} {d1 d2 : V} {g : Nat} {a0 a1 : Int} {s : ByteArray} {S3 S4 S5 : Option Addr} {n3 m3 n4 m4 n5 m5 : Nat} {b0 b1 : Int} {sb : ByteArray} {T3 T4 T5 : Option Addr} {p3 q3 p4 q4 p5 q5 : Nat} {v0 v1 v2 v3 v4 v5 v6 v7 v8 v9 v10 v11 : Value} (hb : Below W3.heap.size W3 W) (hg : W3.heap.size ≤ g)
    (h : W.heap[g]? = some (.cells #[v0, v1, v2, v3, v4, v5, v6, v7, v8, v9, v10, v11] 167 (0, 0))) (h1 : ∀ W, Below w.heap.size w W → Vr W (fun b => b < w.heap.size) d1 [.int .i64 a0, .int .i64 a1, .string s, .slice S3 n3 m3, .slice S4 n4 m4, .slice S5 n5 m5]) (h2 : ∀ W, Below w.heap.size w W → Vr W (fun b => b < w.heap.size) d2 [.int .i64 b0, .int .i64 b1, .string sb, .slice T3 p3 q3, .slice T4 p4 q4, .slice T5 p5 q5]) :
    TwoAt w W3 d1 d2 (.pointer (some ⟨g, 0, none⟩)) ((((((((((((W.setCell ⟨g, 0, none⟩ (.int .i64 a0)).setCell ⟨g, 1, none⟩ (.int .i64 a1)).setCell ⟨g, 2, none⟩ (.string s)).setCell ⟨g, 3, none⟩ (.slice S3 n3 m3)).setCell ⟨g, 4, none⟩ (.slice S4 n4 m4)).setCell ⟨g, 5, none⟩ (.slice S5 n5 m5)).setCell ⟨g, 6, none⟩ (.int .i64 b0)).setCell ⟨g, 7, none⟩ (.int .i64 b1)).setCell ⟨g, 8, none⟩ (.string sb)).setCell ⟨g, 9, none⟩ (.slice T3 p3 q3)).setCell ⟨g, 10, none⟩ (.slice T4 p4 q4)).setCell ⟨g, 11, none⟩ (.slice T5 p5 q5)) := by
  have q := arr_set hb hg h (.int .i64 a0) (.int .i64 a1) (.string s) (.slice S3 n3 m3) (.slice S4 n4 m4) (.slice S5 n5 m5) (.int .i64 b0) (.int .i64 b1) (.string sb) (.slice T3 p3 q3) (.slice T4 p4 q4) (.slice T5 p5 q5)
  exact ⟨g, a0, a1, s, S3, S4, S5, n3, m3, n4, m4, n5, m5, b0, b1, sb, T3, T4, T5, p3, q3, p4, q4, p5, q5, rfl, q.1, hg, q.2, h1, h2⟩
theorem two_alloc {w W3 W : World} {d1 d2 : V} {a0 a1 : Int} {s : ByteArray} {S3 S4 S5 : Option Addr} {n3 m3 n4 m4 n5 m5 : Nat} {b0 b1 : Int} {sb : ByteArray} {T3 T4 T5 : Option Addr} {p3 q3 p4 q4 p5 q5 : Nat} (hb : Below W3.heap.size W3 W)
    (h1 : ∀ W, Below w.heap.size w W → Vr W (fun b => b < w.heap.size) d1 [.int .i64 a0, .int .i64 a1, .string s, .slice S3 n3 m3, .slice S4 n4 m4, .slice S5 n5 m5]) (h2 : ∀ W, Below w.heap.size w W → Vr W (fun b => b < w.heap.size) d2 [.int .i64 b0, .int .i64 b1, .string sb, .slice T3 p3 q3, .slice T4 p4 q4, .slice T5 p5 q5]) :
    TwoAt w W3 d1 d2 (.pointer (some ⟨W.heap.size, 0, none⟩)) (W.alloc (.cells #[.int .i64 a0, .int .i64 a1, .string s, .slice S3 n3 m3, .slice S4 n4 m4, .slice S5 n5 m5, .int .i64 b0, .int .i64 b1, .string sb, .slice T3 p3 q3, .slice T4 p4 q4, .slice T5 p5 q5] 167)) :=
  ⟨W.heap.size, a0, a1, s, S3, S4, S5, n3, m3, n4, m4, n5, m5, b0, b1, sb, T3, T4, T5, p3, q3, p4, q4, p5, q5, rfl, hb.alloc hb.size _, hb.size, heap_alloc_new W _, h1, h2⟩
/-- A bound that stands in a value. -/
def OkV (d : V) (o : Option Int) : Prop := (d.kind = 0 ∧ o = none) ∨ (d.kind = 3 ∧ d.half.tmod 2 = 0 ∧ o = some (d.half.tdiv 2))
def BadV (d : V) : Prop := d.kind ≠ 0 ∧ d.kind ≠ 3
def BRel (k : V) (n : Nat) (f t code : Int) : Prop := code = 2 ∨
  (code = 1 ∧ ∃ d1 d2, lookV k.keys k.vals { data := #[115, 116, 97, 114, 116] } = some d1 ∧ lookV k.keys k.vals { data := #[101, 110, 100] } = some d2 ∧ (BadV d1 ∨ (∃ o1, OkV d1 o1) ∧ BadV d2)) ∨
  (code = 0 ∧ ∃ d1 d2 o1 o2, lookV k.keys k.vals { data := #[115, 116, 97, 114, 116] } = some d1 ∧ lookV k.keys k.vals { data := #[101, 110, 100] } = some d2 ∧ OkV d1 o1 ∧ OkV d2 o2 ∧ f = frB o1 n ∧ t = toB o2 f n)
def BPost (k : V) (n : Nat) (w : World) (e : Ending) (w' : World) : Prop := (∃ f t code : Int, e = .returned (.tuple #[.int .i64 f, .int .i64 t, .int .i64 code]) ∧ BRel k n f t code) ∧ Below w.heap.size w w'
theorem look_mem : ∀ (ks : List ByteArray) (vs : List V) (s : ByteArray) (d : V), lookV ks vs s = some d → d ∈ vs
  | [], _, _, _, h => by simp [lookV] at h
  | _ :: _, [], _, _, h => by simp [lookV] at h
  | k :: ks, v :: vs, s, d, h => by
    rw [lookV] at h
    split at h
    · cases h; exact List.mem_cons_self
    · exact List.mem_cons_of_mem _ (look_mem ks vs s d h)
theorem max_to (o : Option Int) (f n : Int) (h : 0 ≤ f ∧ f ≤ n) : max f (match o with | none => n | some q => clampZ q 0 n) = toB o f n := by
  cases o with
  | none => exact Int.max_eq_right h.2
  | some q =>
    show max f (clampZ q 0 n) = clampZ q f n
    unfold clampZ
    by_cases a : fromEnd q n < 0 <;> by_cases b : fromEnd q n < n <;> by_cases c : fromEnd q n < f <;> simp only [a, b, c, if_true, if_false] <;> omega
def EndB (o : Option Int) (n : Int) : Int := match o with
  | none => n
  | some q => clampZ q 0 n
def LI (n : Nat) (d1 d2 : V) (j : Nat) (x0 x1 : Int) : Prop := (j = 0 ∧ x0 = 0 ∧ x1 = n) ∨ (j = 1 ∧ x1 = n ∧ ∃ o1, OkV d1 o1 ∧ x0 = frB o1 n) ∨ (j = 2 ∧ ∃ o1 o2, OkV d1 o1 ∧ OkV d2 o2 ∧ x0 = frB o1 n ∧ x1 = EndB o2 n)
theorem clamp_minmax (x n : Int) (hn : 0 ≤ n) : min (max (if x < 0 then x + n else x) 0) n = clampZ x 0 n := by
  unfold clampZ fromEnd
  by_cases a : x < 0 <;> simp only [a, if_true, if_false] <;> omega
theorem at_set {w W : World} {g : Nat} {x0 x1 : Int} (i : Nat) (u : Int) (hb : Below w.heap.size w W) (hg : w.heap.size ≤ g) (h : W.heap[g]? = some (.cells #[.int .i64 x0, .int .i64 x1] 168 (0, 0))) :
    Below w.heap.size w (W.setCell ⟨g, i, none⟩ (.int .i64 u)) ∧ (W.setCell ⟨g, i, none⟩ (.int .i64 u)).heap[g]? = some (.cells (#[.int .i64 x0, .int .i64 x1].setIfInBounds i (.int .i64 u)) 168 (0, 0)) :=
  ⟨hb.setCell hg _, heap_setCell_row h _⟩
set_option maxHeartbeats 8000000 in
theorem bounds_any (v : V) (n : Nat) (ok : Nat → Prop) (cs : List Value) (w : World) (hv : Vr w ok v cs) (wv : WF v) (hn : n ≤ 1000000) : Calls Tryz.prog 111 #[.agg cs.toArray, .int .i64 n] w (BPost v n w) := by
  have HV := Lib.hid hv
  have HW := Lib.hid wv
  obtain ⟨k, h, t, l, ks, vs, A1, c1, A2, c2, A3, c3, f, g, ht, h1, h2, h3, b1, b2, b3, hk', hh', hs', r1, e1, r2, r3, e3⟩ := hv
  obtain ⟨m, hm⟩ : ∃ m, m = ks.length := ⟨_, rfl⟩
  rw [← hm] at h2 b2 HV ⊢
  have HM := Lib.hid hm
  obtain ⟨W0, hW0⟩ : ∃ W0, W0 = w.alloc (.cells #[.int .i64 k, .int .i64 h, .string t, .slice A1 l.length c1, .slice A2 m c2, .slice A3 vs.length c3] 26) := ⟨_, rfl⟩
  have hb0 : Below w.heap.size w W0 := by rw [hW0]; exact (Below.refl _ _).alloc (Nat.le_refl _) _
  have hc0 : W0.heap[w.heap.size]? = some (.cells #[.int .i64 k, .int .i64 h, .string t, .slice A1 l.length c1, .slice A2 m c2, .slice A3 vs.length c3] 26 (0, 0)) := by rw [hW0]; exact heap_alloc_new w _
  have HK0 := Lib.hid (show ∀ W : World, Below W0.heap.size W0 W → W.cell? ⟨w.heap.size, 0, none⟩ = some (.int .i64 k) ∧ W.cell? ⟨w.heap.size, 1, none⟩ = some (.int .i64 h) ∧ W.cell? ⟨w.heap.size, 2, none⟩ = some (.string t) ∧ W.cell? ⟨w.heap.size, 3, none⟩ = some (.slice A1 l.length c1) ∧ W.cell? ⟨w.heap.size, 4, none⟩ = some (.slice A2 m c2) ∧ W.cell? ⟨w.heap.size, 5, none⟩ = some (.slice A3 vs.length c3) from fun W hb => by
    have q1 := (hb.block _ (heap_lt hc0)).trans hc0
    refine ⟨?_, ?_, ?_, ?_, ?_, ?_⟩ <;> simp [World.cell?, q1])
  have HW0 := Lib.hid hW0
  have HB0 := Lib.hid hb0
  clear hm wv r1 e1 r2 r3 e3 hs' hW0 hb0 hc0
  by_cases hl2 : m = 2
  · subst hl2
    have HH1 := Lib.hid (has_any (V.mk k h t l ks vs) { data := #[115, 116, 97, 114, 116] } ok _ W0 (HV.out.keep HB0.out) HW.out)
    go_enter Tryz.func111, Tryz.ntmps111
    go_wp2_with fail
    rw [← HW0.out]
    refine HH1.out.mono ?_
    rintro e' w1 ⟨rfl, hb1⟩
    have HB1 := Lib.hid hb1
    clear hb1
    obtain ⟨z0, z1, z2, z3, z4, z5⟩ := HK0.out w1 HB1.out
    obtain ⟨o1, ho1⟩ : ∃ o1, o1 = lookV (V.mk k h t l ks vs).keys (V.mk k h t l ks vs).vals { data := #[115, 116, 97, 114, 116] } := ⟨_, rfl⟩
    rw [← ho1]
    have HO1 := Lib.hid ho1
    clear ho1
    cases o1 with
    | none =>
      go_wp2_with fail
      refine bodyPost_ret (v := .tuple #[.int .i64 0, .int .i64 0, .int .i64 2]) (by simp [results, Tryz.results111, go_sem]) rfl ?_
      exact ⟨⟨0, 0, 2, rfl, .inl rfl⟩, below_trans HB0.out HB1.out⟩
    | some d1 =>
      have HL1 := Lib.hid HO1.out.symm
      have HH2 := Lib.hid (has_any (V.mk k h t l ks vs) { data := #[101, 110, 100] } ok _ w1 (HV.out.keep (below_trans HB0.out HB1.out)) HW.out)
      go_wp2_with fail
      refine HH2.out.mono ?_
      rintro e' w2 ⟨rfl, hb2⟩
      have HB2 := Lib.hid (below_trans HB1.out hb2)
      clear hb2 z0 z1 z2 z3 z4 z5
      obtain ⟨o2, ho2⟩ : ∃ o2, o2 = lookV (V.mk k h t l ks vs).keys (V.mk k h t l ks vs).vals { data := #[101, 110, 100] } := ⟨_, rfl⟩
      rw [← ho2]
      have HO2 := Lib.hid ho2
      clear ho2
      cases o2 with
      | none =>
        go_wp2_with fail
        refine bodyPost_ret (v := .tuple #[.int .i64 0, .int .i64 0, .int .i64 2]) (by simp [results, Tryz.results111, go_sem]) rfl ?_
        exact ⟨⟨0, 0, 2, rfl, .inl rfl⟩, below_trans HB0.out HB2.out⟩
      | some d2 =>
        have HL2 := Lib.hid HO2.out.symm
        obtain ⟨W3, hW3⟩ : ∃ W3, W3 = w2 := ⟨_, rfl⟩
        have HB3W := Lib.hid (show Below w.heap.size w W3 by rw [hW3]; exact below_trans HB0.out HB2.out)
        have HB3 := Lib.hid (show Below W0.heap.size W0 W3 by rw [hW3]; exact HB2.out)
        have HKB := Lib.hid (show ∀ W : World, Below W3.heap.size W3 W → W.cell? ⟨w.heap.size, 0, none⟩ = some (.int .i64 k) ∧ W.cell? ⟨w.heap.size, 1, none⟩ = some (.int .i64 h) ∧ W.cell? ⟨w.heap.size, 2, none⟩ = some (.string t) ∧ W.cell? ⟨w.heap.size, 3, none⟩ = some (.slice A1 l.length c1) ∧ W.cell? ⟨w.heap.size, 4, none⟩ = some (.slice A2 2 c2) ∧ W.cell? ⟨w.heap.size, 5, none⟩ = some (.slice A3 vs.length c3) from fun W hb => HK0.out W (below_trans HB3.out hb))
        have hg1 : ∀ (W : World), Below W3.heap.size W3 W → Calls Tryz.prog 61 #[.agg #[.int .i64 k, .int .i64 h, .string t, .slice A1 l.length c1, .slice A2 2 c2, .slice A3 vs.length c3], .string { data := #[115, 116, 97, 114, 116] }] W (ValPost (fun b => b < w.heap.size) d1 W) := fun W hb => by
          have q := get_any (V.mk k h t l ks vs) { data := #[115, 116, 97, 114, 116] } (fun b => b < w.heap.size) _ W ((HV.out.bound.mono fun b hb => hb.2).keep (below_trans HB3W.out hb)) HW.out
          rw [HL1.out] at q
          exact q
        have HG1 := Lib.hid hg1
        clear hg1
        have hg2 : ∀ (W : World), Below W3.heap.size W3 W → Calls Tryz.prog 61 #[.agg #[.int .i64 k, .int .i64 h, .string t, .slice A1 l.length c1, .slice A2 2 c2, .slice A3 vs.length c3], .string { data := #[101, 110, 100] }] W (ValPost (fun b => b < w.heap.size) d2 W) := fun W hb => by
          have q := get_any (V.mk k h t l ks vs) { data := #[101, 110, 100] } (fun b => b < w.heap.size) _ W ((HV.out.bound.mono fun b hb => hb.2).keep (below_trans HB3W.out hb)) HW.out
          rw [HL2.out] at q
          exact q
        have HG2 := Lib.hid hg2
        clear hg2
        have HB00 := Lib.hid ((Below.refl W3.heap.size W3).drew)
        go_upto_region 3 with fail
        rw [← hW3]
        clear hW3
        go_cut [7] (fun pv wx => TwoAt w W3 d1 d2 pv wx)
        case first =>
          refine wp_region_held_drew (S := fun W => W.cell? ⟨w.heap.size, 0, none⟩ = some (.int .i64 k) ∧ W.cell? ⟨w.heap.size, 1, none⟩ = some (.int .i64 h) ∧ W.cell? ⟨w.heap.size, 2, none⟩ = some (.string t) ∧ W.cell? ⟨w.heap.size, 3, none⟩ = some (.slice A1 l.length c1) ∧ W.cell? ⟨w.heap.size, 4, none⟩ = some (.slice A2 2 c2) ∧ W.cell? ⟨w.heap.size, 5, none⟩ = some (.slice A3 vs.length c3)) (by kernel_rfl) (HKB.out _ HB00.out) (fun _ => ?_)
          refine wpAnyH_take (i := 0) (v := .agg #[.int .i64 k, .int .i64 h, .string t, .slice A1 l.length c1, .slice A2 2 c2, .slice A3 vs.length c3]) rfl (by kernel_rfl) (by kernel_rfl) (by kernel_rfl) (fun _ _ _ h => h) (Or.inl ⟨by rfl, ?_⟩) (HKB.out _ HB00.out) ?_
          · intro W hSw
            obtain ⟨z0, z1, z2, z3, z4, z5⟩ := hSw
            go_simp
          simp only [List.getElem_toArray, List.getElem_cons_zero, List.getElem_cons_succ, Act.put, List.setIfInBounds_toArray, List.set_cons_zero, List.set_cons_succ]
          refine wpAnyH_take (i := 2) (v := .agg #[.int .i64 k, .int .i64 h, .string t, .slice A1 l.length c1, .slice A2 2 c2, .slice A3 vs.length c3]) rfl (by kernel_rfl) (by kernel_rfl) (by kernel_rfl) (fun _ _ _ h => h) (Or.inl ⟨by rfl, ?_⟩) (HKB.out _ HB00.out) ?_
          · intro W hSw
            obtain ⟨z0, z1, z2, z3, z4, z5⟩ := hSw
            go_simp
          simp only [List.getElem_toArray, List.getElem_cons_zero, List.getElem_cons_succ, Act.put, List.setIfInBounds_toArray, List.set_cons_zero, List.set_cons_succ]
          refine wpAnyH_ready (rs := [1, 5]) (by kernel_rfl) (by simp) ?_
          refine AllReadyH.cons rfl (fun K hK => ?_) (AllReadyH.cons rfl (fun K hK => ?_) AllReadyH.nil)
          · go_simp
            refine (HG1.out _ HB00.out).mono ?_
            rintro e' wa1 ⟨a0, a1, s, S3, S4, S5, n3, m3, n4, m4, n5, m5, rfl, hv1, hc1⟩
            have hb1 := below_trans HB00.out hc1
            have HD1 := Lib.hid (keepD HB3W.out hb1 (hv1.mono fun b hb => hb.1))
            refine hK.out _ _ (HKB.out _ hb1) (fun _ => ?_)
            clear hK K hv1
            refine wpAnyH_ready (rs := [3, 5]) (by kernel_rfl) (by simp) ?_
            refine AllReadyH.cons rfl (fun K hK => ?_) (AllReadyH.cons rfl (fun K hK => ?_) AllReadyH.nil)
            · go_simp
              refine (HG2.out _ hb1).mono ?_
              rintro e' wa2 ⟨b0, b1, sb, T3, T4, T5, p3, q3, p4, q4, p5, q5, rfl, hv2, hc2⟩
              have hb2 := below_trans hb1 hc2
              have HD3 := Lib.hid (keepD HB3W.out hb2 (hv2.mono fun b hb => hb.1))
              refine hK.out _ _ (HKB.out _ hb2) (fun _ => ?_)
              clear hK K hv2
              refine wpAnyH_take (i := 4) (v := .agg #[.int .i64 a0, .int .i64 a1, .string s, .slice S3 n3 m3, .slice S4 n4 m4, .slice S5 n5 m5, .int .i64 b0, .int .i64 b1, .string sb, .slice T3 p3 q3, .slice T4 p4 q4, .slice T5 p5 q5]) rfl (by kernel_rfl) (by kernel_rfl) (by kernel_rfl) (fun _ _ _ h => h) (Or.inl ⟨by rfl, ?_⟩) (HKB.out _ hb2) ?_
              · intro W hSw
                obtain ⟨z0, z1, z2, z3, z4, z5⟩ := hSw
                go_simp
              simp only [List.getElem_toArray, List.getElem_cons_zero, List.getElem_cons_succ, Act.put, List.setIfInBounds_toArray, List.set_cons_zero, List.set_cons_succ]
              refine wpAnyH_ready (rs := [5]) (by kernel_rfl) (by simp) ?_
              refine AllReadyH.cons rfl (fun K hK => ?_) AllReadyH.nil
              · go_simp
                have hb3 := Below.alloc hb2 (Below.size hb2) (.cells #[.int .i64 0, .int .i64 0, .string ⟨#[]⟩, .slice none 0 0, .slice none 0 0, .slice none 0 0, .int .i64 0, .int .i64 0, .string ⟨#[]⟩, .slice none 0 0, .slice none 0 0, .slice none 0 0] 167)
                have hr3 := heap_alloc_new wa2 (.cells #[.int .i64 0, .int .i64 0, .string ⟨#[]⟩, .slice none 0 0, .slice none 0 0, .slice none 0 0, .int .i64 0, .int .i64 0, .string ⟨#[]⟩, .slice none 0 0, .slice none 0 0, .slice none 0 0] 167)
                have HGG := Lib.hid (Below.size hb2)
                refine hK.out _ _ (HKB.out _ hb3) (fun _ => ?_)
                clear hK K
                refine wpAnyH_ready (rs := [6]) (by kernel_rfl) (by simp) ?_
                refine AllReadyH.cons rfl (fun K hK => ?_) AllReadyH.nil
                · have HFIN := Lib.hid (two_alloc hb2 HD1.out HD3.out)
                  obtain ⟨x0, x1, x2, x3, x4, x5, x6, x7, x8, x9, x10, x11, xf⟩ := cells12 hr3
                  go_simp
                  refine hK.out _ _ (HKB.out _ (two_below HFIN.out)) (fun _ => ?_)
                  clear hK K x0 x1 x2 x3 x4 x5 x6 x7 x8 x9 x10 x11 xf
                  refine wpAnyH_done (by kernel_rfl) ?_ _
                  go_wp2_with fail
                  go_meet
                  exact HFIN.out
            · go_simp
              have hb5 := Below.alloc hb1 (Below.size hb1) (.cells #[.int .i64 0, .int .i64 0, .string ⟨#[]⟩, .slice none 0 0, .slice none 0 0, .slice none 0 0, .int .i64 0, .int .i64 0, .string ⟨#[]⟩, .slice none 0 0, .slice none 0 0, .slice none 0 0] 167)
              have hr5 := heap_alloc_new wa1 (.cells #[.int .i64 0, .int .i64 0, .string ⟨#[]⟩, .slice none 0 0, .slice none 0 0, .slice none 0 0, .int .i64 0, .int .i64 0, .string ⟨#[]⟩, .slice none 0 0, .slice none 0 0, .slice none 0 0] 167)
              have HGG := Lib.hid (Below.size hb1)
              refine hK.out _ _ (HKB.out _ hb5) (fun _ => ?_)
              clear hK K
              refine wpAnyH_ready (rs := [3]) (by kernel_rfl) (by simp) ?_
              refine AllReadyH.cons rfl (fun K hK => ?_) AllReadyH.nil
              · go_simp
                refine (HG2.out _ hb5).mono ?_
                rintro e' wa6 ⟨b0, b1, sb, T3, T4, T5, p3, q3, p4, q4, p5, q5, rfl, hv6, hc6⟩
                have hb6 := below_trans hb5 hc6
                have HD3 := Lib.hid (keepD HB3W.out hb6 (hv6.mono fun b hb => hb.1))
                have hr6 := (hc6.block _ (heap_lt hr5)).trans hr5
                refine hK.out _ _ (HKB.out _ hb6) (fun _ => ?_)
                clear hK K hv6
                refine wpAnyH_take (i := 4) (v := .agg #[.int .i64 a0, .int .i64 a1, .string s, .slice S3 n3 m3, .slice S4 n4 m4, .slice S5 n5 m5, .int .i64 b0, .int .i64 b1, .string sb, .slice T3 p3 q3, .slice T4 p4 q4, .slice T5 p5 q5]) rfl (by kernel_rfl) (by kernel_rfl) (by kernel_rfl) (fun _ _ _ h => h) (Or.inl ⟨by rfl, ?_⟩) (HKB.out _ hb6) ?_
                · intro W hSw
                  obtain ⟨z0, z1, z2, z3, z4, z5⟩ := hSw
                  go_simp
                simp only [List.getElem_toArray, List.getElem_cons_zero, List.getElem_cons_succ, Act.put, List.setIfInBounds_toArray, List.set_cons_zero, List.set_cons_succ]
                refine wpAnyH_ready (rs := [6]) (by kernel_rfl) (by simp) ?_
                refine AllReadyH.cons rfl (fun K hK => ?_) AllReadyH.nil
                · have HFIN := Lib.hid (two_set hb6 HGG.out hr6 HD1.out HD3.out)
                  obtain ⟨x0, x1, x2, x3, x4, x5, x6, x7, x8, x9, x10, x11, xf⟩ := cells12 hr6
                  go_simp
                  refine hK.out _ _ (HKB.out _ (two_below HFIN.out)) (fun _ => ?_)
                  clear hK K x0 x1 x2 x3 x4 x5 x6 x7 x8 x9 x10 x11 xf
                  refine wpAnyH_done (by kernel_rfl) ?_ _
                  go_wp2_with fail
                  go_meet
                  exact HFIN.out
          · go_simp
            have hb8 := Below.alloc HB00.out (Below.size HB00.out) (.cells #[.int .i64 0, .int .i64 0, .string ⟨#[]⟩, .slice none 0 0, .slice none 0 0, .slice none 0 0, .int .i64 0, .int .i64 0, .string ⟨#[]⟩, .slice none 0 0, .slice none 0 0, .slice none 0 0] 167)
            have hr8 := heap_alloc_new W3.drew (.cells #[.int .i64 0, .int .i64 0, .string ⟨#[]⟩, .slice none 0 0, .slice none 0 0, .slice none 0 0, .int .i64 0, .int .i64 0, .string ⟨#[]⟩, .slice none 0 0, .slice none 0 0, .slice none 0 0] 167)
            have HGG := Lib.hid (Below.size HB00.out)
            rw [show W3.drew.heap.size = W3.heap.size from rfl] at hr8
            refine hK.out _ _ (HKB.out _ hb8) (fun _ => ?_)
            clear hK K
            refine wpAnyH_ready (rs := [1]) (by kernel_rfl) (by simp) ?_
            refine AllReadyH.cons rfl (fun K hK => ?_) AllReadyH.nil
            · go_simp
              refine (HG1.out _ hb8).mono ?_
              rintro e' wa9 ⟨a0, a1, s, S3, S4, S5, n3, m3, n4, m4, n5, m5, rfl, hv9, hc9⟩
              have hb9 := below_trans hb8 hc9
              have HD1 := Lib.hid (keepD HB3W.out hb9 (hv9.mono fun b hb => hb.1))
              have hr9 := (hc9.block _ (heap_lt hr8)).trans hr8
              refine hK.out _ _ (HKB.out _ hb9) (fun _ => ?_)
              clear hK K hv9
              refine wpAnyH_ready (rs := [3]) (by kernel_rfl) (by simp) ?_
              refine AllReadyH.cons rfl (fun K hK => ?_) AllReadyH.nil
              · go_simp
                refine (HG2.out _ hb9).mono ?_
                rintro e' wa10 ⟨b0, b1, sb, T3, T4, T5, p3, q3, p4, q4, p5, q5, rfl, hv10, hc10⟩
                have hb10 := below_trans hb9 hc10
                have HD3 := Lib.hid (keepD HB3W.out hb10 (hv10.mono fun b hb => hb.1))
                have hr10 := (hc10.block _ (heap_lt hr9)).trans hr9
                refine hK.out _ _ (HKB.out _ hb10) (fun _ => ?_)
                clear hK K hv10
                refine wpAnyH_take (i := 4) (v := .agg #[.int .i64 a0, .int .i64 a1, .string s, .slice S3 n3 m3, .slice S4 n4 m4, .slice S5 n5 m5, .int .i64 b0, .int .i64 b1, .string sb, .slice T3 p3 q3, .slice T4 p4 q4, .slice T5 p5 q5]) rfl (by kernel_rfl) (by kernel_rfl) (by kernel_rfl) (fun _ _ _ h => h) (Or.inl ⟨by rfl, ?_⟩) (HKB.out _ hb10) ?_
                · intro W hSw
                  obtain ⟨z0, z1, z2, z3, z4, z5⟩ := hSw
                  go_simp
                simp only [List.getElem_toArray, List.getElem_cons_zero, List.getElem_cons_succ, Act.put, List.setIfInBounds_toArray, List.set_cons_zero, List.set_cons_succ]
                refine wpAnyH_ready (rs := [6]) (by kernel_rfl) (by simp) ?_
                refine AllReadyH.cons rfl (fun K hK => ?_) AllReadyH.nil
                · have HFIN := Lib.hid (two_set hb10 HGG.out hr10 HD1.out HD3.out)
                  obtain ⟨x0, x1, x2, x3, x4, x5, x6, x7, x8, x9, x10, x11, xf⟩ := cells12 hr10
                  go_simp
                  refine hK.out _ _ (HKB.out _ (two_below HFIN.out)) (fun _ => ?_)
                  clear hK K x0 x1 x2 x3 x4 x5 x6 x7 x8 x9 x10 x11 xf
                  refine wpAnyH_done (by kernel_rfl) ?_ _
                  go_wp2_with fail
                  go_meet
                  exact HFIN.out
        case rest =>
          obtain ⟨gg, a0, a1, s, S3, S4, S5, n3, m3, n4, m4, n5, m5, b0, b1, sb, T3, T4, T5, p3, q3, p4, q4, p5, q5, rfl, hbc, hgg, hcg, hd1', hd2'⟩ := hcut
          have hd1 := Lib.hid hd1'
          have hd2 := Lib.hid hd2'
          obtain ⟨W4, hW4⟩ : ∃ W4, W4 = wc.alloc (.cells #[.int .i64 0, .int .i64 n] 168) := ⟨_, rfl⟩
          have hb4 : Below wc.heap.size wc W4 := by rw [hW4]; exact (Below.refl _ _).alloc (Nat.le_refl _) _
          obtain ⟨at0, hat0⟩ : ∃ at0, at0 = wc.heap.size := ⟨_, rfl⟩
          have hat4 : W4.heap[at0]? = some (.cells #[.int .i64 0, .int .i64 n] 168 (0, 0)) := by rw [hW4, hat0]; exact heap_alloc_new wc _
          have hg4 := (hb4.block _ (heap_lt hcg)).trans hcg
          obtain ⟨x0, x1, x2, x3, x4, x5, x6, x7, x8, x9, x10, x11, xf⟩ := cells12 hg4
          have HW4 := Lib.hid hW4
          have HB4 := Lib.hid (below_trans HB3W.out (below_trans hbc hb4))
          have HAT4 := Lib.hid hat4
          have HA0 := Lib.hid (show w.heap.size ≤ at0 by rw [hat0]; exact (below_trans HB3W.out hbc).size)
          have HAT0 := Lib.hid hat0
          clear hd1' hd2' hW4 hb4 hat4 hg4 hcg hbc hgg xf hat0
          go_upto_region 5 with fail
          rw [← HW4.out, ← HAT0.out]
          go_wp2_with fail
          clear x0 x1 x2 x3 x4 x5 x6 x7 x8 x9 x10 x11
          go_loopw [35] (fun i wr => ∃ j : Nat, j ≤ 2 ∧ i = .int .i64 j ∧ ∃ x0 x1 : Int, wr.heap[at0]? = some (.cells #[.int .i64 x0, .int .i64 x1] 168 (0, 0)) ∧ Below w.heap.size w wr ∧ LI n d1 d2 j x0 x1) (fun i _ => 2 - (intOf i).toNat)
          case atStart => exact ⟨0, by omega, rfl, 0, n, HAT4.out, HB4.out, .inl ⟨rfl, rfl, rfl⟩⟩
          case round =>
            obtain ⟨j, hj, rfl, x0, x1, hat, hbl, hli⟩ := hrel
            rcases hli with ⟨rfl, hx0, hx1⟩ | ⟨rfl, hx1, o9, ho9, hx0⟩ | ⟨rfl, o1, o2, ho1, ho2, hx0, hx1⟩
            · skip
              obtain ⟨W6, hW6⟩ : ∃ W6, W6 = wr.alloc (.cells #[.int .i64 a0, .int .i64 a1, .string s, .slice S3 n3 m3, .slice S4 n4 m4, .slice S5 n5 m5] 26) := ⟨_, rfl⟩
              have hb6 : Below wr.heap.size wr W6 := by rw [hW6]; exact (Below.refl _ _).alloc (Nat.le_refl _) _
              have hc6 : W6.heap[wr.heap.size]? = some (.cells #[.int .i64 a0, .int .i64 a1, .string s, .slice S3 n3 m3, .slice S4 n4 m4, .slice S5 n5 m5] 26 (0, 0)) := by rw [hW6]; exact heap_alloc_new wr _
              have HKD := Lib.hid (show d1.kind = a0 ∧ d1.half = a1 from by
                have q := hd1.out w (Below.refl _ _)
                cases q
                exact ⟨rfl, rfl⟩)
              have HB6 := Lib.hid (below_trans hbl hb6)
              have HAT6 := Lib.hid ((hb6.block _ (heap_lt hat)).trans hat)
              obtain ⟨e0, e1, e2, e3, e4, e5, _⟩ := cells6b hc6
              have HWH := Lib.hid (fun (h3 : d1.kind = 3) (he : d1.half.tmod 2 = 0) => whole_yes d1 (fun b => b < w.heap.size) [.int .i64 a0, .int .i64 a1, .string s, .slice S3 n3 m3, .slice S4 n4 m4, .slice S5 n5 m5] W6 (hd1.out W6 HB6.out) h3 he)
              have HWN := Lib.hid (fun (hno : ¬ (d1.kind = 3 ∧ d1.half.tmod 2 = 0)) => whole_no d1 (fun b => b < w.heap.size) [.int .i64 a0, .int .i64 a1, .string s, .slice S3 n3 m3, .slice S4 n4 m4, .slice S5 n5 m5] W6 (hd1.out W6 HB6.out) hno)
              have HW6 := Lib.hid hW6
              clear hW6 hb6 hc6 hat hbl
              go_upto_region 8 with fail
              rw [← HW6.out]
              by_cases k0 : a0 = 0
              · have HX0 := Lib.hid (show x0 = frB none n from hx0)
                have HX1 := Lib.hid (show x1 = (n : Int) from hx1)
                clear hx0 hx1
                go_wp2_with fail
                go_roundw
                case rel => exact ⟨0 + 1, by omega, by go_num, x0, x1, HAT6.out, HB6.out, .inr (.inl ⟨rfl, HX1.out, none, .inl ⟨HKD.out.1.trans k0, rfl⟩, HX0.out⟩)⟩
                case measure => simp [intOf]
              · by_cases k3 : a0 = 3
                · subst k3
                  by_cases he : (a1).tmod 2 = 0
                  · have HE := Lib.hid he
                    have HX1 := Lib.hid hx1
                    have hcall := HWH.out HKD.out.1 (by rw [HKD.out.2]; exact he)
                    rw [HKD.out.2] at hcall
                    have hwf := wf_half (wf_val HW.out d1 (look_mem _ _ _ _ HL1.out))
                    rw [HKD.out.2] at hwf
                    obtain ⟨x9, hx9⟩ : ∃ x9, x9 = (a1).tdiv 2 := ⟨_, rfl⟩
                    rw [← hx9] at hcall
                    have hxr : -9007199254740992 ≤ x9 ∧ x9 ≤ 9007199254740992 := by have q := Int.tmod_add_mul_tdiv (a1) 2; omega
                    have HX9 := Lib.hid hx9
                    have HCALL := Lib.hid hcall
                    clear hcall hx0 hx1 he hwf hx9
                    go_wp2_with fail
                    refine HCALL.out.mono ?_
                    rintro e' w7 ⟨rfl, hb7⟩
                    have hat7 := (hb7.block _ (heap_lt HAT6.out)).trans HAT6.out
                    obtain ⟨C9, hC9⟩ : ∃ C9, C9 = clampZ x9 0 n := ⟨_, rfl⟩
                    have hmm := clamp_minmax x9 n (by omega)
                    rw [← hC9] at hmm
                    have HC9 := Lib.hid hC9
                    have HSET := Lib.hid (at_set 0 C9 (below_trans HB6.out hb7) HA0.out hat7)
                    obtain ⟨y0, y1, yf⟩ := cells2 hat7
                    clear hb7 hat7 hC9
                    by_cases hneg : x9 < 0
                    · rw [if_pos hneg] at hmm
                      obtain ⟨M9, hM9⟩ : ∃ M9, max (x9 + n) 0 = M9 := ⟨_, rfl⟩
                      rw [hM9] at hmm
                      go_wp2_with fail
                      go_roundw
                      case rel => exact ⟨0 + 1, by omega, by go_num, C9, x1, HSET.out.2, HSET.out.1, .inr (.inl ⟨rfl, HX1.out, some x9, .inr ⟨HKD.out.1, by rw [HKD.out.2]; exact HE.out, by rw [HKD.out.2, HX9.out]⟩, HC9.out⟩)⟩
                      case measure => (try simp [intOf]); (try omega)
                    · rw [if_neg hneg] at hmm
                      obtain ⟨M9, hM9⟩ : ∃ M9, max x9 0 = M9 := ⟨_, rfl⟩
                      rw [hM9] at hmm
                      go_wp2_with fail
                      go_roundw
                      case rel => exact ⟨0 + 1, by omega, by go_num, C9, x1, HSET.out.2, HSET.out.1, .inr (.inl ⟨rfl, HX1.out, some x9, .inr ⟨HKD.out.1, by rw [HKD.out.2]; exact HE.out, by rw [HKD.out.2, HX9.out]⟩, HC9.out⟩)⟩
                      case measure => (try simp [intOf]); (try omega)
                  · have hcall := HWN.out (fun h => he (by rw [← HKD.out.2]; exact h.2))
                    have HCALL := Lib.hid hcall
                    clear hcall hx0 hx1 he
                    go_wp2_with fail
                    refine HCALL.out.mono ?_
                    rintro e' w7 ⟨rfl, hb7⟩
                    have HB7 := Lib.hid (below_trans HB6.out hb7)
                    clear hb7
                    go_wp2_with fail
                    refine bodyPost_ret (v := .tuple #[.int .i64 0, .int .i64 0, .int .i64 2]) (by simp [results, Tryz.results111, go_sem]) rfl ?_
                    exact ⟨⟨0, 0, 2, rfl, .inl rfl⟩, HB7.out⟩
                · clear hx0 hx1
                  go_wp2_with fail
                  refine bodyPost_ret (v := .tuple #[.int .i64 0, .int .i64 0, .int .i64 1]) (by simp [results, Tryz.results111, go_sem]) rfl ?_
                  exact ⟨⟨0, 0, 1, rfl, .inr (.inl ⟨rfl, d1, d2, HL1.out, HL2.out, .inl ⟨fun h => k0 (HKD.out.1.symm.trans h), fun h => k3 (HKD.out.1.symm.trans h)⟩⟩)⟩, HB6.out⟩
            · have HO9 := Lib.hid (And.intro ho9 hx0)
              clear ho9
              obtain ⟨W6, hW6⟩ : ∃ W6, W6 = wr.alloc (.cells #[.int .i64 b0, .int .i64 b1, .string sb, .slice T3 p3 q3, .slice T4 p4 q4, .slice T5 p5 q5] 26) := ⟨_, rfl⟩
              have hb6 : Below wr.heap.size wr W6 := by rw [hW6]; exact (Below.refl _ _).alloc (Nat.le_refl _) _
              have hc6 : W6.heap[wr.heap.size]? = some (.cells #[.int .i64 b0, .int .i64 b1, .string sb, .slice T3 p3 q3, .slice T4 p4 q4, .slice T5 p5 q5] 26 (0, 0)) := by rw [hW6]; exact heap_alloc_new wr _
              have HKD := Lib.hid (show d2.kind = b0 ∧ d2.half = b1 from by
                have q := hd2.out w (Below.refl _ _)
                cases q
                exact ⟨rfl, rfl⟩)
              have HB6 := Lib.hid (below_trans hbl hb6)
              have HAT6 := Lib.hid ((hb6.block _ (heap_lt hat)).trans hat)
              obtain ⟨e0, e1, e2, e3, e4, e5, _⟩ := cells6b hc6
              have HWH := Lib.hid (fun (h3 : d2.kind = 3) (he : d2.half.tmod 2 = 0) => whole_yes d2 (fun b => b < w.heap.size) [.int .i64 b0, .int .i64 b1, .string sb, .slice T3 p3 q3, .slice T4 p4 q4, .slice T5 p5 q5] W6 (hd2.out W6 HB6.out) h3 he)
              have HWN := Lib.hid (fun (hno : ¬ (d2.kind = 3 ∧ d2.half.tmod 2 = 0)) => whole_no d2 (fun b => b < w.heap.size) [.int .i64 b0, .int .i64 b1, .string sb, .slice T3 p3 q3, .slice T4 p4 q4, .slice T5 p5 q5] W6 (hd2.out W6 HB6.out) hno)
              have HW6 := Lib.hid hW6
              clear hW6 hb6 hc6 hat hbl
              go_upto_region 8 with fail
              rw [← HW6.out]
              by_cases k0 : b0 = 0
              · have HX0 := Lib.hid (show x0 = x0 from rfl)
                have HX1 := Lib.hid (show x1 = EndB none n from hx1)
                clear hx0 hx1
                go_wp2_with fail
                go_roundw
                case rel => exact ⟨1 + 1, by omega, by go_num, x0, x1, HAT6.out, HB6.out, .inr (.inr ⟨rfl, _, none, HO9.out.1, .inl ⟨HKD.out.1.trans k0, rfl⟩, HO9.out.2, HX1.out⟩)⟩
                case measure => simp [intOf]
              · by_cases k3 : b0 = 3
                · subst k3
                  by_cases he : (b1).tmod 2 = 0
                  · have HE := Lib.hid he
                    have HX1 := Lib.hid hx1
                    have hcall := HWH.out HKD.out.1 (by rw [HKD.out.2]; exact he)
                    rw [HKD.out.2] at hcall
                    have hwf := wf_half (wf_val HW.out d2 (look_mem _ _ _ _ HL2.out))
                    rw [HKD.out.2] at hwf
                    obtain ⟨x9, hx9⟩ : ∃ x9, x9 = (b1).tdiv 2 := ⟨_, rfl⟩
                    rw [← hx9] at hcall
                    have hxr : -9007199254740992 ≤ x9 ∧ x9 ≤ 9007199254740992 := by have q := Int.tmod_add_mul_tdiv (b1) 2; omega
                    have HX9 := Lib.hid hx9
                    have HCALL := Lib.hid hcall
                    clear hcall hx0 hx1 he hwf hx9
                    go_wp2_with fail
                    refine HCALL.out.mono ?_
                    rintro e' w7 ⟨rfl, hb7⟩
                    have hat7 := (hb7.block _ (heap_lt HAT6.out)).trans HAT6.out
                    obtain ⟨C9, hC9⟩ : ∃ C9, C9 = clampZ x9 0 n := ⟨_, rfl⟩
                    have hmm := clamp_minmax x9 n (by omega)
                    rw [← hC9] at hmm
                    have HC9 := Lib.hid hC9
                    have HSET := Lib.hid (at_set 1 C9 (below_trans HB6.out hb7) HA0.out hat7)
                    obtain ⟨y0, y1, yf⟩ := cells2 hat7
                    clear hb7 hat7 hC9
                    by_cases hneg : x9 < 0
                    · rw [if_pos hneg] at hmm
                      obtain ⟨M9, hM9⟩ : ∃ M9, max (x9 + n) 0 = M9 := ⟨_, rfl⟩
                      rw [hM9] at hmm
                      go_wp2_with fail
                      go_roundw
                      case rel => exact ⟨1 + 1, by omega, by go_num, x0, C9, HSET.out.2, HSET.out.1, .inr (.inr ⟨rfl, _, some x9, HO9.out.1, .inr ⟨HKD.out.1, by rw [HKD.out.2]; exact HE.out, by rw [HKD.out.2, HX9.out]⟩, HO9.out.2, HC9.out⟩)⟩
                      case measure => (try simp [intOf]); (try omega)
                    · rw [if_neg hneg] at hmm
                      obtain ⟨M9, hM9⟩ : ∃ M9, max x9 0 = M9 := ⟨_, rfl⟩
                      rw [hM9] at hmm
                      go_wp2_with fail
                      go_roundw
                      case rel => exact ⟨1 + 1, by omega, by go_num, x0, C9, HSET.out.2, HSET.out.1, .inr (.inr ⟨rfl, _, some x9, HO9.out.1, .inr ⟨HKD.out.1, by rw [HKD.out.2]; exact HE.out, by rw [HKD.out.2, HX9.out]⟩, HO9.out.2, HC9.out⟩)⟩
                      case measure => (try simp [intOf]); (try omega)
                  · have hcall := HWN.out (fun h => he (by rw [← HKD.out.2]; exact h.2))
                    have HCALL := Lib.hid hcall
                    clear hcall hx0 hx1 he
                    go_wp2_with fail
                    refine HCALL.out.mono ?_
                    rintro e' w7 ⟨rfl, hb7⟩
                    have HB7 := Lib.hid (below_trans HB6.out hb7)
                    clear hb7
                    go_wp2_with fail
                    refine bodyPost_ret (v := .tuple #[.int .i64 0, .int .i64 0, .int .i64 2]) (by simp [results, Tryz.results111, go_sem]) rfl ?_
                    exact ⟨⟨0, 0, 2, rfl, .inl rfl⟩, HB7.out⟩
                · clear hx0 hx1
                  go_wp2_with fail
                  refine bodyPost_ret (v := .tuple #[.int .i64 0, .int .i64 0, .int .i64 1]) (by simp [results, Tryz.results111, go_sem]) rfl ?_
                  exact ⟨⟨0, 0, 1, rfl, .inr (.inl ⟨rfl, d1, d2, HL1.out, HL2.out, .inr ⟨⟨_, HO9.out.1⟩, ⟨fun h => k0 (HKD.out.1.symm.trans h), fun h => k3 (HKD.out.1.symm.trans h)⟩⟩⟩)⟩, HB6.out⟩
            · have HFIN := Lib.hid (show BRel (V.mk k h t l ks vs) n x0 (max x0 x1) 0 from .inr (.inr ⟨rfl, d1, d2, o1, o2, HL1.out, HL2.out, ho1, ho2, hx0, by
                rw [hx1]
                have q := frB_in o1 n (by omega)
                rw [← hx0] at q
                exact max_to o2 x0 n q⟩))
              obtain ⟨y0, y1, yf⟩ := cells2 hat
              have HBL := Lib.hid hbl
              clear hat hbl hx0 hx1 ho1 ho2
              obtain ⟨M9, hM9⟩ : ∃ M9, max x0 x1 = M9 := ⟨_, rfl⟩
              rw [hM9] at HFIN
              go_wp2_with fail
              go_quiet (fail)
              go_wp2_with fail
              refine bodyPost_ret (v := .tuple #[.int .i64 x0, .int .i64 M9, .int .i64 0]) (by simp [results, Tryz.results111, go_sem]) rfl ?_
              exact ⟨⟨x0, M9, 0, rfl, HFIN.out⟩, by first | exact HBL.out | exact belowN HBL.out⟩
  · have hl2' : ((m : Int) != 2) = true := by simp; omega
    go_enter Tryz.func111, Tryz.ntmps111
    go_wp2_with fail
    refine bodyPost_ret (v := .tuple #[.int .i64 0, .int .i64 0, .int .i64 2]) (by simp [results, Tryz.results111, go_sem]) rfl ?_
    exact ⟨⟨0, 0, 2, rfl, .inl rfl⟩, by rw [← HW0.out]; exact HB0.out⟩
end Go.Proofs.YtpamlgdcnmcedaaGreatDoor

set_option linter.unusedVariables false
set_option linter.unusedSimpArgs false
set_option maxRecDepth 100000
namespace Go.Proofs.YtpamlgdcnmcedaaGreatDoor
open Go Go.RowKit
set_option maxHeartbeats 8000000 in
theorem sliceStr_errS (s : ByteArray) (hsz : s.size ≤ 2000) {ys ye : Value} (hs : NoB ys) (f2 : FormX ye) (w : World) : Calls Tryz.prog 208 #[.string s, ye, ys] w (ErrRet w) := by
  obtain ⟨W1, cap, hconv, _, hbc, _⟩ := conv_runes s hsz w
  have hpl := pts_len s
  obtain ⟨n, hn⟩ : ∃ n, n = (ptsS s).length := ⟨_, rfl⟩
  rw [← hn] at hconv hpl
  clear hn
  obtain ⟨p, hx, hp, hn⟩ := hs
  have HT := Lib.hid (fun W => toInt_bad hx hp W)
  have HBC := Lib.hid hbc
  clear hbc
  cases hx
  all_goals first
    | exact absurd rfl hp
    | exact absurd rfl hn
    | skip
  all_goals
    clear hp hn
    rcases f2 with rfl | ⟨t2, z2, rfl⟩
  all_goals
    go_enter Tryz.func208, Tryz.ntmps208
    go_wp2_with fail
    refine (HT.out _).mono ?_
    rintro e' w' ⟨rfl, rfl⟩
    go_wp2_with fail
    go_ret
    exact ⟨_, rfl, isErr_183 _, HBC.out.alloc HBC.out.size _⟩
set_option maxHeartbeats 8000000 in
theorem sliceStr_errE (s : ByteArray) (hsz : s.size ≤ 2000) {ys ye : Value} {os : Option Int} (hs : BK ys os) (he : NoB ye) (w : World) : Calls Tryz.prog 208 #[.string s, ye, ys] w (ErrRet w) := by
  obtain ⟨W1, cap, hconv, _, hbc, _⟩ := conv_runes s hsz w
  have hpl := pts_len s
  obtain ⟨m, hm⟩ : ∃ m, m = (ptsS s).length := ⟨_, rfl⟩
  rw [← hm] at hconv hpl
  clear hm
  obtain ⟨p, hx, hp, hn⟩ := he
  have HT := Lib.hid (fun W => toIntCeil_bad hx hp W)
  have HBC := Lib.hid hbc
  clear hbc
  cases hs with
  | nil =>
    cases hx
    all_goals first
      | exact absurd rfl hp
      | exact absurd rfl hn
      | skip
    all_goals
      clear hp hn
      go_enter Tryz.func208, Tryz.ntmps208
      go_wp2_with fail
      refine (HT.out _).mono ?_
      rintro e' w' ⟨rfl, rfl⟩
      go_wp2_with fail
      go_ret
      exact ⟨_, rfl, isErr_183 _, HBC.out.alloc HBC.out.size _⟩
  | int n hr =>
    have HI := Lib.hid (fun W => toInt_any n W)
    have HC := Lib.hid (fun W => clamp_any n 0 m (by omega) (by omega) W)
    clear hr
    cases hx
    all_goals first
      | exact absurd rfl hp
      | exact absurd rfl hn
      | skip
    all_goals
      clear hp hn
      go_enter Tryz.func208, Tryz.ntmps208
      go_wp2_with fail
      refine (HI.out _).mono ?_
      rintro e' w' ⟨rfl, rfl⟩
      go_wp2_with fail
      refine (HC.out _).mono ?_
      rintro e' w' ⟨rfl, rfl⟩
      go_wp2_with fail
      refine (HT.out _).mono ?_
      rintro e' w' ⟨rfl, rfl⟩
      go_wp2_with fail
      go_ret
      exact ⟨_, rfl, isErr_183 _, HBC.out.alloc HBC.out.size _⟩
/-- The bytes between two bounds. -/
theorem sliceStr_any (s : ByteArray) (hsz : s.size ≤ 2000) {ys ye : Value} {os oe : Option Int} (hs : BK ys os) (he : BK ye oe) (w : World) (f t : Nat) (hf : (f : Int) = frB os ((ptsS s).length : Nat)) (ht : (t : Int) = toB oe f ((ptsS s).length : Nat)) :
    Calls Tryz.prog 208 #[.string s, ye, ys] w fun e w' => e = .returned (.iface 9 (.string (s.extract (offP (ptsS s) f) (offP (ptsS s) t)))) ∧ Below w.heap.size w w' := by
  cases hs with
  | nil =>
    cases he with
    | nil => exact sliceStr_nn s hsz w f t hf ht
    | int k2 h2 => exact sliceStr_ni s hsz k2 h2 w f t hf ht
  | int k1 h1 =>
    cases he with
    | nil => exact sliceStr_in s hsz k1 h1 w f t hf ht
    | int k2 h2 => exact sliceStr_ii s hsz k1 h1 k2 h2 w f t hf ht
/-! ### The plain side. -/
/-- The element at an index, from the end on below 0. -/
def elemV (l : List V) (n : Int) : V := if 0 ≤ fromEnd n l.length ∧ fromEnd n l.length < l.length then l.getD (fromEnd n l.length).toNat zeroV0 else zeroV0
theorem zero_j : zeroV0.j = .null := by simp [zeroV0, V.j]
theorem elem_j (l : List V) (n : Int) : idxJ (V.js l) n = (elemV l n).j := by
  unfold idxJ elemV
  rw [show (V.js l).length = l.length by rw [V.js_map, List.length_map]]
  split
  · rw [V.js_map, List.getD_eq_getElem?_getD, List.getD_eq_getElem?_getD, List.getElem?_map]
    cases l[(fromEnd n l.length).toNat]? with
    | none => exact zero_j.symm
    | some v => rfl
  · exact zero_j.symm
theorem elem_mem (l : List V) (n : Int) : elemV l n = zeroV0 ∨ elemV l n ∈ l := by
  unfold elemV
  split
  · rw [List.getD_eq_getElem?_getD]
    cases h : l[(fromEnd n l.length).toNat]? with
    | none => exact .inl rfl
    | some v => exact .inr (List.mem_of_getElem? h)
  · exact .inl rfl
theorem lookO_js : ∀ (ks : List ByteArray) (vs : List V) (s : ByteArray), lookO ks (V.js vs) s = (lookV ks vs s).map V.j
  | [], _, _ => by simp [lookO, lookV]
  | _ :: _, [], _ => by simp [lookO, lookV, V.js]
  | k :: ks, v :: vs, s => by
    rw [V.js, lookO, lookV]
    split
    · rfl
    · exact lookO_js ks vs s
theorem look_j (ks : List ByteArray) (vs : List V) (s : ByteArray) : (lookO ks (V.js vs) s).getD .null = ((lookV ks vs s).getD zeroV0).j := by
  rw [lookO_js]
  cases lookV ks vs s with
  | none => exact zero_j.symm
  | some v => rfl
/-- A value by its kind. -/
theorem kinds {v : V} (h : WF v) : (v.kind = 0 ∧ v.j = .null) ∨ (v.kind = 1 ∧ v.j = .bool false) ∨ (v.kind = 2 ∧ v.j = .bool true) ∨ (v.kind = 3 ∧ v.half.tmod 2 = 0 ∧ v.j = .int (v.half.tdiv 2)) ∨ (v.kind = 3 ∧ v.half.tmod 2 ≠ 0 ∧ v.j = .hf v.half) ∨
    (v.kind = 4 ∧ v.j = .str v.text) ∨ (v.kind = 5 ∧ v.j = .arr (V.js v.list)) ∨ (v.kind = 6 ∧ v.j = .obj v.keys (V.js v.vals)) := by
  obtain ⟨k, h, t, l, ks, vs, hk, _⟩ := h
  have hc : k = 0 ∨ k = 1 ∨ k = 2 ∨ k = 3 ∨ k = 4 ∨ k = 5 ∨ k = 6 := by omega
  rcases hc with rfl | rfl | rfl | rfl | rfl | rfl | rfl
  · simp [V.kind, V.j]
  · simp [V.kind, V.j]
  · simp [V.kind, V.j]
  · by_cases he : h.tmod 2 = 0
    · simp [V.kind, V.half, V.j, he]
    · simp [V.kind, V.half, V.j, he]
  · simp [V.kind, V.text, V.j]
  · simp [V.kind, V.list, V.j]
  · simp [V.kind, V.keys, V.vals, V.j]
theorem jr_ne {w : World} {ok : Nat → Prop} {j : J} {x : Value} (h : Jr w ok j x) (hj : j ≠ .null) : x ≠ .nilIface := by
  cases h <;> first | exact absurd rfl hj | (intro h; cases h)
theorem wf_hb {v : V} (h : WF v) : Fl.Hb v.half := by
  obtain ⟨_, _, _, _, _, _, _, _, _, _, _, _, hb, ho, _, _, _⟩ := h
  exact ⟨hb, ho⟩
theorem bk_of {d : V} {o : Option Int} {w : World} {ok : Nat → Prop} {y : Value} (wd : WF d) (h : OkV d o) (hj : Jr w ok d.j y) : BK y o := by
  rcases h with ⟨hk, rfl⟩ | ⟨hk, he, rfl⟩
  · rcases kinds wd with ⟨_, e⟩ | ⟨h, _⟩ | ⟨h, _⟩ | ⟨h, _⟩ | ⟨h, _⟩ | ⟨h, _⟩ | ⟨h, _⟩ | ⟨h, _⟩
    · rw [e] at hj
      cases hj
      exact .nil
    all_goals omega
  · rcases kinds wd with ⟨h, _⟩ | ⟨h, _⟩ | ⟨h, _⟩ | ⟨h, _, e⟩ | ⟨h, hne, _⟩ | ⟨h, _⟩ | ⟨h, _⟩ | ⟨h, _⟩
    · omega
    · omega
    · omega
    · rw [e] at hj
      have hb := (wf_half wd)
      cases hj
      have := Int.tmod_add_mul_tdiv d.half 2
      exact .int _ (by omega)
    · exact absurd he hne
    all_goals omega
theorem nob_of {d : V} {w : World} {ok : Nat → Prop} {y : Value} (wd : WF d) (h : BadV d) (hj : Jr w ok d.j y) : NoB y := by
  obtain ⟨h0, h3⟩ := h
  refine ⟨_, sh_of hj, ?_, jr_ne hj ?_⟩
  all_goals rcases kinds wd with ⟨h, e⟩ | ⟨h, e⟩ | ⟨h, e⟩ | ⟨h, _, e⟩ | ⟨h, _, e⟩ | ⟨h, e⟩ | ⟨h, e⟩ | ⟨h, e⟩
  all_goals first
    | exact absurd h h0
    | exact absurd h h3
    | (rw [e]; simp [J.sort])
/-- Where the reference raises an error. -/
inductive RaiseC (v k : V) : Prop
  | cut (hk : k.kind = 6) (h : v.kind = 1 ∨ v.kind = 2 ∨ v.kind = 3) : RaiseC v k
  | bad (hk : k.kind = 6) (h : v.kind = 4 ∨ v.kind = 5) (n : Nat) (f t : Int) (hb : BRel k n f t 1) : RaiseC v k
  | none (hk : k.kind ≠ 6) (h0 : v.kind ≠ 0) (h1 : ¬ (v.kind = 6 ∧ k.kind = 4)) (h2 : ¬ (v.kind = 5 ∧ k.kind = 3)) (h3 : ¬ (v.kind = 4 ∧ k.kind = 3)) (h4 : ¬ (v.kind = 5 ∧ k.kind = 5)) : RaiseC v k
/-- What the reference answers. -/
inductive FineC (v k : V) : V → Prop
  | nil (h : v.kind = 0) (hk : k.kind = 3 ∨ k.kind = 4 ∨ k.kind = 6) : FineC v k zeroV0
  | list (hk : k.kind = 6) (h : v.kind = 5) (f t : Nat) (hb : BRel k v.list.length f t 0) : FineC v k (.mk 5 0 ⟨#[]⟩ ((v.list.take t).drop f) [] [])
  | text (hk : k.kind = 6) (h : v.kind = 4) (f t : Nat) (hb : BRel k (ptsS v.text).length f t 0) : FineC v k (.mk 4 0 (v.text.extract (offP (ptsS v.text) f) (offP (ptsS v.text) t)) [] [] [])
  | key (hk : k.kind = 4) (h : v.kind = 6) : FineC v k ((lookV v.keys v.vals k.text).getD zeroV0)
  | elem (hk : k.kind = 3) (h : v.kind = 5) (he : k.half.tmod 2 = 0) : FineC v k (elemV v.list (k.half.tdiv 2))
def IdxS (v k d : V) (code : Int) : Prop := code = 2 ∨ (code = 1 ∧ RaiseC v k) ∨ (code = 0 ∧ FineC v k d)
theorem wf_listV {v : V} (h : WF v) : ∀ d, d ∈ v.list → WF d := by
  obtain ⟨_, _, _, _, _, _, _, _, _, _, _, _, _, _, _, wl, _⟩ := h
  exact wl
theorem wf_zeroX : WF zeroV0 := wf_plain 0 0 (by decide) (.inr rfl) ⟨by decide, .inl (by decide)⟩
theorem mem_part {l : List V} {f t : Nat} {d : V} (h : d ∈ (l.take t).drop f) : d ∈ l := List.mem_of_mem_take (List.mem_of_mem_drop h)
theorem fine_wf {v k d : V} (wv : WF v) (h : FineC v k d) : WF d := by
  cases h with
  | nil _ _ => exact wf_zeroX
  | list _ _ f t _ => exact wf_list5 fun u hu => wf_listV wv u (mem_part hu)
  | text _ _ f t _ => exact .mk 4 0 _ [] [] [] (by decide) (.inr rfl) (.inl rfl) (.inr rfl) (.inr rfl) rfl (by decide) (.inl rfl) (fun i a b ha => by simp at ha) (fun v hv => by simp at hv) (fun v hv => by simp at hv)
  | key _ _ =>
    cases h : lookV v.keys v.vals k.text with
    | none => exact wf_zeroX
    | some d => exact wf_val wv _ (look_mem _ _ _ _ h)
  | elem _ _ _ =>
    rcases elem_mem v.list (k.half.tdiv 2) with h | h
    · rw [h]; exact wf_zeroX
    · exact wf_listV wv _ h
theorem gj_vals {v : V} (wv : WF v) (hk : v.kind = 6) (g : GJ v.j) : ∀ d, d ∈ v.vals → GJ d.j := by
  rcases kinds wv with ⟨h, _⟩ | ⟨h, _⟩ | ⟨h, _⟩ | ⟨h, _⟩ | ⟨h, _⟩ | ⟨h, _⟩ | ⟨h, _⟩ | ⟨h, e⟩
  all_goals first
    | omega
    | skip
  rw [e] at g
  cases g with
  | obj _ _ _ _ _ _ e =>
    intro d hd
    exact e _ (by rw [V.js_map]; exact List.mem_map_of_mem hd)
theorem gj_list {v : V} (wv : WF v) (hk : v.kind = 5) (g : GJ v.j) : v.list.length ≤ 1000000 ∧ ∀ d, d ∈ v.list → GJ d.j := by
  rcases kinds wv with ⟨h, _⟩ | ⟨h, _⟩ | ⟨h, _⟩ | ⟨h, _⟩ | ⟨h, _⟩ | ⟨h, _⟩ | ⟨h, e⟩ | ⟨h, _⟩
  all_goals first
    | omega
    | skip
  rw [e] at g
  cases g with
  | arr _ hl e =>
    refine ⟨by rw [V.js_map, List.length_map] at hl; exact hl, fun d hd => ?_⟩
    exact e _ (by rw [V.js_map]; exact List.mem_map_of_mem hd)
theorem fine_gj {v k d : V} (wv : WF v) (tv : v.text.size ≤ 2000) (g : GJ v.j) (h : FineC v k d) : GJ d.j := by
  have gz : GJ zeroV0.j := by rw [zero_j]; exact .null
  cases h with
  | nil _ _ => exact gz
  | list _ h f t _ =>
    obtain ⟨hl, he⟩ := gj_list wv h g
    rw [show (V.mk 5 0 ⟨#[]⟩ ((v.list.take t).drop f) [] []).j = .arr (V.js ((v.list.take t).drop f)) by simp [V.j], V.js_map]
    refine .arr _ ?_ fun j hj => ?_
    · rw [List.length_map, List.length_drop, List.length_take]; omega
    · obtain ⟨u, hu, rfl⟩ := List.mem_map.1 hj
      exact he u (mem_part hu)
  | text _ _ f t _ =>
    rw [show ∀ s, (V.mk 4 0 s [] [] []).j = .str s from fun s => by simp [V.j]]
    refine .str _ ?_
    rw [ByteArray.size_extract]
    omega
  | key _ h =>
    cases hl : lookV v.keys v.vals k.text with
    | none => exact gz
    | some d => exact gj_vals wv h g d (look_mem _ _ _ _ hl)
  | elem _ h _ =>
    rcases elem_mem v.list (k.half.tdiv 2) with h1 | h1
    · rw [h1]; exact gz
    · exact (gj_list wv h g).2 _ h1
/-! ### The join. -/
theorem idx_raise {v k : V} (wv : WF v) (wk : WF k) (tv : v.text.size ≤ 2000) (g : GJ v.j) (h : RaiseC v k) {x1 x2 : Value} {ok : Nat → Prop} (W : World) (h1 : Jr W ok v.j x1) (h2 : Jr W ok k.j x2) :
    Calls Tryz.prog 114 #[.nilIface, x1, x2] W (ErrRet W) := by
  cases h with
  | cut hk hv =>
    have hsh := sh_of h1
    have hnn : x1 ≠ .nilIface := by
      refine jr_ne h1 ?_
      rcases kinds wv with ⟨h, e⟩ | ⟨h, e⟩ | ⟨h, e⟩ | ⟨h, _, e⟩ | ⟨h, _, e⟩ | ⟨h, e⟩ | ⟨h, e⟩ | ⟨h, e⟩
      all_goals first
        | omega
        | (rw [e]; simp)
    have hp : v.j.sort ≠ 2 ∧ v.j.sort ≠ 3 := by
      rcases kinds wv with ⟨h, e⟩ | ⟨h, e⟩ | ⟨h, e⟩ | ⟨h, _, e⟩ | ⟨h, _, e⟩ | ⟨h, e⟩ | ⟨h, e⟩ | ⟨h, e⟩
      all_goals first
        | omega
        | (rw [e]; simp [J.sort])
    have ek : k.j = .obj k.keys (V.js k.vals) := by
      rcases kinds wk with ⟨h, _⟩ | ⟨h, _⟩ | ⟨h, _⟩ | ⟨h, _⟩ | ⟨h, _⟩ | ⟨h, _⟩ | ⟨h, _⟩ | ⟨_, e⟩
      all_goals first
        | omega
        | exact e
    rw [ek] at h2
    cases ho1 : lookO k.keys (V.js k.vals) kStart with
    | none => exact index2_miss hsh hnn _ _ _ W h2 (.inl ho1)
    | some js =>
      cases ho2 : lookO k.keys (V.js k.vals) kEnd with
      | none => exact index2_miss hsh hnn _ _ _ W h2 (.inr ho2)
      | some je => exact index2_both hsh hnn _ _ _ W h2 js je ho1 ho2 (fun x w' => IsErr x ∧ Below W.heap.size W w') (fun ys ye q1 q2 => funcSlice_err hsh hp hnn q1.form q2.form W)
  | bad hk hv n f t hb =>
    have ek : k.j = .obj k.keys (V.js k.vals) := by
      rcases kinds wk with ⟨h, _⟩ | ⟨h, _⟩ | ⟨h, _⟩ | ⟨h, _⟩ | ⟨h, _⟩ | ⟨h, _⟩ | ⟨h, _⟩ | ⟨_, e⟩
      all_goals first
        | omega
        | exact e
    rw [ek] at h2
    have hnn : x1 ≠ .nilIface := by
      refine jr_ne h1 ?_
      rcases kinds wv with ⟨h, e⟩ | ⟨h, e⟩ | ⟨h, e⟩ | ⟨h, _, e⟩ | ⟨h, _, e⟩ | ⟨h, e⟩ | ⟨h, e⟩ | ⟨h, e⟩
      all_goals first
        | omega
        | (rw [e]; simp)
    rcases hb with hb | ⟨_, d1, d2, l1, l2, hbad⟩ | ⟨hb, _⟩
    · omega
    · have e1 : lookO k.keys (V.js k.vals) kStart = some d1.j := by
        rw [lookO_js]
        show (lookV k.keys k.vals { data := #[115, 116, 97, 114, 116] }).map V.j = _
        rw [l1]; rfl
      have e2 : lookO k.keys (V.js k.vals) kEnd = some d2.j := by
        rw [lookO_js]
        show (lookV k.keys k.vals { data := #[101, 110, 100] }).map V.j = _
        rw [l2]; rfl
      have w1 := wf_val wk _ (look_mem _ _ _ _ l1)
      have w2 := wf_val wk _ (look_mem _ _ _ _ l2)
      refine index2_both (sh_of h1) hnn _ _ _ W h2 d1.j d2.j e1 e2 (fun x w' => IsErr x ∧ Below W.heap.size W w') (fun ys ye q1 q2 => ?_)
      rcases hv with hv | hv
      · have ev : v.j = .str v.text := by
          rcases kinds wv with ⟨h, _⟩ | ⟨h, _⟩ | ⟨h, _⟩ | ⟨h, _⟩ | ⟨h, _⟩ | ⟨_, e⟩ | ⟨h, _⟩ | ⟨h, _⟩
          all_goals first
            | omega
            | exact e
        rw [ev] at h1
        cases h1
        refine funcSlice_str _ q1.form q2.form W _ ?_
        rcases hbad with hb1 | ⟨⟨o1, ok1⟩, hb2⟩
        · exact sliceStr_errS _ tv (nob_of w1 hb1 q1) q2.form W
        · exact sliceStr_errE _ tv (bk_of w1 ok1 q1) (nob_of w2 hb2 q2) W
      · have ev : v.j = .arr (V.js v.list) := by
          rcases kinds wv with ⟨h, _⟩ | ⟨h, _⟩ | ⟨h, _⟩ | ⟨h, _⟩ | ⟨h, _⟩ | ⟨h, _⟩ | ⟨_, e⟩ | ⟨h, _⟩
          all_goals first
            | omega
            | exact e
        have hlen := (gj_list wv hv g).1
        rw [ev] at h1
        obtain _ | _ | _ | _ | _ | ⟨_, A, c, F, hc, r, e⟩ := h1
        have hlen' : (V.js v.list).length ≤ 1000000 := by rw [V.js_map, List.length_map]; exact hlen
        refine funcSlice_arr A _ c q1.form q2.form W _ ?_
        rcases hbad with hb1 | ⟨⟨o1, ok1⟩, hb2⟩
        · exact slice_errS A _ c (nob_of w1 hb1 q1) q2.form W
        · exact slice_errE A _ c hlen' (bk_of w1 ok1 q1) (nob_of w2 hb2 q2) W
    · omega
  | none hk h0 g1 g2 g3 g4 =>
    have hnn : x1 ≠ .nilIface := by
      refine jr_ne h1 ?_
      rcases kinds wv with ⟨h, e⟩ | ⟨h, e⟩ | ⟨h, e⟩ | ⟨h, _, e⟩ | ⟨h, _, e⟩ | ⟨h, e⟩ | ⟨h, e⟩ | ⟨h, e⟩
      all_goals first
        | omega
        | (rw [e]; simp)
    have hnum : k.kind = 3 → v.j.sort ≠ 2 ∧ v.j.sort ≠ 3 := fun h3 => by
      rcases kinds wv with ⟨h, e⟩ | ⟨h, e⟩ | ⟨h, e⟩ | ⟨h, _, e⟩ | ⟨h, _, e⟩ | ⟨h, e⟩ | ⟨h, e⟩ | ⟨h, e⟩
      all_goals first
        | omega
        | (rw [e]; simp [J.sort])
    rcases kinds wk with ⟨h, e⟩ | ⟨h, e⟩ | ⟨h, e⟩ | ⟨h, _, e⟩ | ⟨h, _, e⟩ | ⟨h, e⟩ | ⟨h, e⟩ | ⟨h, e⟩
    · exact index2_k0 (sh_of h1) (sh_of h2) (by rw [e]; rfl) W
    · exact index2_k0 (sh_of h1) (sh_of h2) (by rw [e]; rfl) W
    · exact index2_k0 (sh_of h1) (sh_of h2) (by rw [e]; rfl) W
    · rw [e] at h2
      cases h2
      exact index2_num (sh_of h1) (hnum h) hnn (.int _) W
    · rw [e] at h2
      have hb := wf_hb wk
      cases h2
      exact index2_num (sh_of h1) (hnum h) hnn (.hw _ hb) W
    · rw [e] at h2
      cases h2
      have hnone : atS v.j k.text = none := by
        rcases kinds wv with ⟨h, e⟩ | ⟨h, e⟩ | ⟨h, e⟩ | ⟨h, _, e⟩ | ⟨h, _, e⟩ | ⟨h, e⟩ | ⟨h, e⟩ | ⟨h, e⟩
        all_goals first
          | omega
          | (rw [e]; rfl)
      refine (index2_str v.j k.text x1 ok W h1).mono ?_
      rintro e' w' ⟨x, rfl, hb, hr⟩
      rw [hnone] at hr
      rcases hr with ⟨_, he⟩ | ⟨j, hj, _⟩
      · exact ⟨x, rfl, he, hb⟩
      · cases hj
    · rw [e] at h2
      have hp : v.j.sort ≠ 3 := by
        rcases kinds wv with ⟨h, e⟩ | ⟨h, e⟩ | ⟨h, e⟩ | ⟨h, _, e⟩ | ⟨h, _, e⟩ | ⟨h, e⟩ | ⟨h, e⟩ | ⟨h, e⟩
        all_goals first
          | omega
          | (rw [e]; simp [J.sort])
      obtain _ | _ | _ | _ | _ | ⟨_, A, c, F, hc, r, _⟩ := h2
      exact index2_k3 (sh_of h1) hp hnn A _ c W
    · exact absurd h hk
theorem arr_part {W : World} {ok : Nat → Prop} {l : List J} {A B : Option Addr} {F : Nat → Value} {f t n' c' : Nat} (r : RowAt W ok 1 A l.length fun i => [F i]) (e : ∀ (i : Nat) (j : J), l[i]? = some j → Jr W ok j (F i))
    (ht : t ≤ l.length) (hn : n' = t - f) (hc : n' ≤ c') (hB : f < t → ∃ ad, A = some ad ∧ B = some (ad.add f)) : Jr W ok (.arr ((l.take t).drop f)) (.iface 62 (.slice B n' c')) := by
  have hlen : ((l.take t).drop f).length = n' := by rw [List.length_drop, List.length_take]; omega
  rw [← hlen] at hc ⊢
  refine .arr _ B c' (fun i => F (f + i)) hc ?_ ?_
  · intro h0
    rw [hlen] at h0
    obtain ⟨ad, hA, hBe⟩ := hB (by omega)
    obtain ⟨ad', hA', ho, hcell⟩ := r (by omega)
    rw [hA] at hA'
    cases hA'
    refine ⟨ad.add f, hBe, by rw [block_add]; exact ho, fun i j u hi hu => ?_⟩
    rw [hlen] at hi
    have := hcell (f + i) j u (by omega) hu
    rw [Addr.add_add, show f + (i * 1 + j) = (f + i) * 1 + j by omega]
    exact this
  · intro i j hj
    rw [List.getElem?_drop, List.getElem?_take] at hj
    split at hj
    · exact e _ _ hj
    · cases hj
theorem idx_fine {v k d : V} (wv : WF v) (wk : WF k) (tv : v.text.size ≤ 2000) (g : GJ v.j) (h : FineC v k d) {x1 x2 : Value} {ok : Nat → Prop} (W : World) (h1 : Jr W ok v.j x1) (h2 : Jr W ok k.j x2) :
    Calls Tryz.prog 114 #[.nilIface, x1, x2] W (IndexPost (some d.j) W) := by
  have hkb := wf_half wk
  cases h with
  | nil hv hk =>
    rw [zero_j]
    have ev : v.j = .null := by
      rcases kinds wv with ⟨_, e⟩ | ⟨h, _⟩ | ⟨h, _⟩ | ⟨h, _⟩ | ⟨h, _⟩ | ⟨h, _⟩ | ⟨h, _⟩ | ⟨h, _⟩
      all_goals first
        | exact e
        | omega
    rw [ev] at h1
    rcases kinds wk with ⟨h, e⟩ | ⟨h, e⟩ | ⟨h, e⟩ | ⟨h, _, e⟩ | ⟨h, _, e⟩ | ⟨h, e⟩ | ⟨h, e⟩ | ⟨h, e⟩
    · omega
    · omega
    · omega
    · rw [e] at h2
      cases h1
      cases h2
      refine (index2_nilnum (.int _) W).mono ?_
      rintro e' w' ⟨rfl, rfl⟩
      exact ⟨_, rfl, Below.refl _ _, .inr ⟨_, rfl, .null⟩⟩
    · rw [e] at h2
      have hb := wf_hb wk
      cases h1
      cases h2
      refine (index2_nilnum (.hw _ hb) W).mono ?_
      rintro e' w' ⟨rfl, rfl⟩
      exact ⟨_, rfl, Below.refl _ _, .inr ⟨_, rfl, .null⟩⟩
    · rw [e] at h2
      cases h2
      exact index2_str .null k.text x1 ok W h1
    · omega
    · rw [e] at h2
      cases h1
      obtain ⟨b, rfl, _⟩ := jr_lookok h2 kStart
      refine (index2_nilobj _ W).mono ?_
      rintro e' w' ⟨rfl, rfl⟩
      exact ⟨_, rfl, Below.refl _ _, .inr ⟨_, rfl, .null⟩⟩
  | list hk hv f t hb =>
    have ek : k.j = .obj k.keys (V.js k.vals) := by
      rcases kinds wk with ⟨h, _⟩ | ⟨h, _⟩ | ⟨h, _⟩ | ⟨h, _⟩ | ⟨h, _⟩ | ⟨h, _⟩ | ⟨h, _⟩ | ⟨_, e⟩
      all_goals first
        | omega
        | exact e
    have ev : v.j = .arr (V.js v.list) := by
      rcases kinds wv with ⟨h, _⟩ | ⟨h, _⟩ | ⟨h, _⟩ | ⟨h, _⟩ | ⟨h, _⟩ | ⟨h, _⟩ | ⟨_, e⟩ | ⟨h, _⟩
      all_goals first
        | omega
        | exact e
    have hlen := (gj_list wv hv g).1
    rw [ek] at h2
    rw [ev] at h1
    have hjl : (V.js v.list).length = v.list.length := by rw [V.js_map, List.length_map]
    rcases hb with hb | ⟨hb, _⟩ | ⟨_, d1, d2, o1, o2, l1, l2, k1, k2, hf, ht⟩
    · omega
    · omega
    have e1 : lookO k.keys (V.js k.vals) kStart = some d1.j := by
      rw [lookO_js]
      show (lookV k.keys k.vals { data := #[115, 116, 97, 114, 116] }).map V.j = _
      rw [l1]; rfl
    have e2 : lookO k.keys (V.js k.vals) kEnd = some d2.j := by
      rw [lookO_js]
      show (lookV k.keys k.vals { data := #[101, 110, 100] }).map V.j = _
      rw [l2]; rfl
    have w1 := wf_val wk _ (look_mem _ _ _ _ l1)
    have w2 := wf_val wk _ (look_mem _ _ _ _ l2)
    have hsh := sh_of h1
    obtain _ | _ | _ | _ | _ | ⟨_, A, c, F, hc, r, e⟩ := h1
    have b1 := frB_in o1 v.list.length (by omega)
    have b2 := toB_in o2 f v.list.length (by omega)
    rw [show (V.mk 5 0 ⟨#[]⟩ ((v.list.take t).drop f) [] []).j = .arr (((V.js v.list).take t).drop f) by rw [V.js_map, ← List.map_take, ← List.map_drop, ← V.js_map]; simp [V.j]]
    have key := index2_both hsh (by intro h; cases h) _ _ _ W h2 d1.j d2.j e1 e2 (fun x w' => Below W.heap.size W w' ∧ Jr W ok (.arr (((V.js v.list).take t).drop f)) x) (fun ys ye q1 q2 => by
      refine funcSlice_arr A _ c q1.form q2.form W _ ?_
      refine (slice_mid A _ c hc (by omega) ?_ (bk_of w1 k1 q1) (bk_of w2 k2 q2) W f t (by rw [hjl]; exact hf) (by rw [hjl]; exact ht)).mono ?_
      · intro hA
        rcases Nat.eq_zero_or_pos (V.js v.list).length with h0 | h0
        · exact h0
        · obtain ⟨ad, hA', _⟩ := r h0
          rw [hA] at hA'
          cases hA'
      · rintro e' w' ⟨⟨B, n', c', rfl, hn, hcc, hB⟩, rfl⟩
        exact ⟨_, rfl, Below.refl _ _, arr_part r e (by omega) hn hcc hB⟩)
    refine key.mono ?_
    rintro e' w' ⟨x, rfl, hbw, hj⟩
    exact ⟨x, rfl, hbw, .inr ⟨_, rfl, hj.mono fun _ _ => trivial⟩⟩
  | text hk hv f t hb =>
    have ek : k.j = .obj k.keys (V.js k.vals) := by
      rcases kinds wk with ⟨h, _⟩ | ⟨h, _⟩ | ⟨h, _⟩ | ⟨h, _⟩ | ⟨h, _⟩ | ⟨h, _⟩ | ⟨h, _⟩ | ⟨_, e⟩
      all_goals first
        | omega
        | exact e
    have ev : v.j = .str v.text := by
      rcases kinds wv with ⟨h, _⟩ | ⟨h, _⟩ | ⟨h, _⟩ | ⟨h, _⟩ | ⟨h, _⟩ | ⟨_, e⟩ | ⟨h, _⟩ | ⟨h, _⟩
      all_goals first
        | omega
        | exact e
    rw [ek] at h2
    rw [ev] at h1
    rcases hb with hb | ⟨hb, _⟩ | ⟨_, d1, d2, o1, o2, l1, l2, k1, k2, hf, ht⟩
    · omega
    · omega
    have e1 : lookO k.keys (V.js k.vals) kStart = some d1.j := by
      rw [lookO_js]
      show (lookV k.keys k.vals { data := #[115, 116, 97, 114, 116] }).map V.j = _
      rw [l1]; rfl
    have e2 : lookO k.keys (V.js k.vals) kEnd = some d2.j := by
      rw [lookO_js]
      show (lookV k.keys k.vals { data := #[101, 110, 100] }).map V.j = _
      rw [l2]; rfl
    have w1 := wf_val wk _ (look_mem _ _ _ _ l1)
    have w2 := wf_val wk _ (look_mem _ _ _ _ l2)
    have hsh := sh_of h1
    cases h1
    rw [show ∀ s, (V.mk 4 0 s [] [] []).j = .str s from fun s => by simp [V.j]]
    have key := index2_both hsh (by intro h; cases h) _ _ _ W h2 d1.j d2.j e1 e2 (fun x w' => Below W.heap.size W w' ∧ x = .iface 9 (.string (v.text.extract (offP (ptsS v.text) f) (offP (ptsS v.text) t)))) (fun ys ye q1 q2 => by
      refine funcSlice_str _ q1.form q2.form W _ ?_
      refine (sliceStr_any _ tv (bk_of w1 k1 q1) (bk_of w2 k2 q2) W f t hf ht).mono ?_
      rintro e' w' ⟨rfl, hbw⟩
      exact ⟨_, rfl, hbw, rfl⟩)
    refine key.mono ?_
    rintro e' w' ⟨x, rfl, hbw, rfl⟩
    exact ⟨_, rfl, hbw, .inr ⟨_, rfl, .str _⟩⟩
  | key hk hv =>
    have ek : k.j = .str k.text := by
      rcases kinds wk with ⟨h, _⟩ | ⟨h, _⟩ | ⟨h, _⟩ | ⟨h, _⟩ | ⟨h, _⟩ | ⟨_, e⟩ | ⟨h, _⟩ | ⟨h, _⟩
      all_goals first
        | omega
        | exact e
    have ev : v.j = .obj v.keys (V.js v.vals) := by
      rcases kinds wv with ⟨h, _⟩ | ⟨h, _⟩ | ⟨h, _⟩ | ⟨h, _⟩ | ⟨h, _⟩ | ⟨h, _⟩ | ⟨h, _⟩ | ⟨_, e⟩
      all_goals first
        | omega
        | exact e
    rw [ek] at h2
    cases h2
    have := index2_str v.j k.text x1 ok W h1
    rw [ev, show atS (.obj v.keys (V.js v.vals)) k.text = some ((lookO v.keys (V.js v.vals) k.text).getD .null) from rfl, look_j] at this
    exact this
  | elem hk hv he =>
    have ek : k.j = .int (k.half.tdiv 2) := by
      rcases kinds wk with ⟨h, _⟩ | ⟨h, _⟩ | ⟨h, _⟩ | ⟨h, _, e⟩ | ⟨h, hne, _⟩ | ⟨h, _⟩ | ⟨h, _⟩ | ⟨h, _⟩
      · omega
      · omega
      · omega
      · exact e
      · exact absurd he hne
      all_goals omega
    have ev : v.j = .arr (V.js v.list) := by
      rcases kinds wv with ⟨h, _⟩ | ⟨h, _⟩ | ⟨h, _⟩ | ⟨h, _⟩ | ⟨h, _⟩ | ⟨h, _⟩ | ⟨_, e⟩ | ⟨h, _⟩
      all_goals first
        | omega
        | exact e
    have hlen := (gj_list wv hv g).1
    rw [ek] at h2
    have hdm := Int.tmod_add_mul_tdiv k.half 2
    cases h2
    have := index2_int v.j (k.half.tdiv 2) (by omega) (fun s h => by rw [ev] at h; cases h) (fun l h => by
      rw [ev] at h
      injection h with h
      rw [← h, V.js_map, List.length_map]
      omega) x1 ok W h1
    rw [ev, show atI (.arr (V.js v.list)) (k.half.tdiv 2) = some (idxJ (V.js v.list) (k.half.tdiv 2)) from rfl, elem_j] at this
    exact this
/-- impl.Index, against what the reference says. -/
theorem index_told {v k d : V} {code : Int} (wv : WF v) (hs : IdxS v k d code) (hc : code ≠ 2) {u : V} {c : Int} (h : OptT (if code = 1 then none else some d.j) u c) : ToldOK u c d code := by
  rcases hs with hs | ⟨rfl, hr⟩ | ⟨rfl, hf⟩
  · exact absurd hs hc
  · exact .inr (.inl ⟨rfl, h.2⟩)
  · have wd := fine_wf wv hf
    obtain ⟨hu, hc0⟩ : u = d.j.v ∧ c = 0 := h
    rw [round wd] at hu
    rw [hu]
    exact .inr (.inr ⟨rfl, hc0, wd, wd, cmpV_self _⟩)
theorem index_any2 (v k d : V) (code : Int) (ok : Nat → Prop) (cs1 cs2 : List Value) (w : World) (hv : Vr w ok v cs1) (hk : Vr w ok k cs2) (wv : WF v) (wk : WF k) (pv : v.parts ≤ 1000000) (pk : k.parts ≤ 1000000) (tv : v.text.size ≤ 2000)
    (hs : IdxS v k d code) (hc : code ≠ 2) : Calls Tryz.prog 23 #[.agg cs1.toArray, .agg cs2.toArray] w (ResPost (fun u c => ToldOK u c d code) w) := by
  have g := gj_of hv wv pv
  refine door_Index v k ok cs1 cs2 w hv hk wv wk (sm_of pv) (sm_of pk) (fun x W => OptR (if code = 1 then none else some d.j) x W) _ (fun x1 x2 W hb j1 j2 => ?_) (fun x W hx => (result_opt _ x W hx).mono fun e w' h => resPost_mono h fun u c ht => index_told wv hs hc ht)
  rcases hs with hs | ⟨rfl, hr⟩ | ⟨rfl, hf⟩
  · exact absurd hs hc
  · refine (zzIndex_of (r := none) ((idx_raise wv wk tv g hr W j1 j2).mono ?_)).mono ?_
    · rintro e' w' ⟨x, rfl, he, hb⟩
      exact ⟨x, rfl, hb, .inl ⟨rfl, he⟩⟩
    · rintro e' w' ⟨x, rfl, hb, hx⟩
      refine ⟨x, rfl, hb, ?_⟩
      rcases hx with ⟨_, he⟩ | ⟨j, hj, _⟩
      · exact .inl ⟨rfl, he⟩
      · cases hj
  · refine (zzIndex_of (idx_fine wv wk tv g hf W j1 j2)).mono ?_
    rintro e' w' ⟨x, rfl, hb, hx⟩
    refine ⟨x, rfl, hb, ?_⟩
    rcases hx with ⟨hn, _⟩ | ⟨j, hj, hx⟩
    · cases hn
    · cases hj
      exact .inr ⟨_, rfl, fine_gj wv tv g hf, hx.keep hb⟩
end Go.Proofs.YtpamlgdcnmcedaaGreatDoor
