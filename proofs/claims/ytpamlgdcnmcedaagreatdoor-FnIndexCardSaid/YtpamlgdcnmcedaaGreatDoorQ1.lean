/- spec.Cmp and what it calls; spec.Same. -/
import Derived.Test.YtpamlgdcnmcedaaGreatDoorP1
import Derived.Deep.RegionHeld3
import Derived.Deep.QuietTactic
import Derived.BigQuiet
set_option linter.unusedVariables false
set_option linter.unusedSimpArgs false
set_option maxRecDepth 100000
namespace Go.Proofs.YtpamlgdcnmcedaaGreatDoor
open Go Go.RowKit

def sgn (n : Int) : Int := if n < 0 then -1 else if 0 < n then 1 else 0
def textsC (a b : ByteArray) : Int := if bl a b = true then -1 else if (a.toList == b.toList) = true then 0 else 1
def keysC : List ByteArray → List ByteArray → Int
  | a :: l, b :: r => if textsC a b ≠ 0 then textsC a b else keysC l r
  | l, r => (l.length : Int) - r.length
mutual
def cmpV : V → V → Int
  | .mk k h t l ks vs, w =>
    if k ≠ w.kind then sgn (k - w.kind) else if k = 3 then sgn (h - w.half) else if k = 4 then textsC t w.text
    else if k = 5 then sgn (cmpL l w.list)
    else if k = 6 then (if keysC ks w.keys ≠ 0 then sgn (keysC ks w.keys) else sgn (cmpL vs w.vals)) else 0
def cmpL : List V → List V → Int
  | [], r => -(r.length : Int)
  | a :: l, r => match r with
    | [] => (l.length : Int) + 1
    | b :: r => if cmpV a b ≠ 0 then cmpV a b else cmpL l r
end

theorem sign_any (n : Int) (w : World) : Calls Tryz.prog 106 #[.int .i64 n] w fun e w' => e = .returned (.int .i64 (sgn n)) ∧ w' = w := by
  by_cases h1 : n < 0
  · go_enter Tryz.func106, Tryz.ntmps106
    go_wp2_with fail
    go_ret
    exact ⟨by simp [sgn, h1], rfl⟩
  · by_cases h2 : 0 < n
    · go_enter Tryz.func106, Tryz.ntmps106
      go_wp2_with fail
      go_ret
      exact ⟨by simp [sgn, h1, h2], rfl⟩
    · go_enter Tryz.func106, Tryz.ntmps106
      go_wp2_with fail
      go_ret
      have h3 : sgn n = 0 := by unfold sgn; rw [if_neg (by omega), if_neg (by omega)]
      exact ⟨by rw [h3]; rfl, rfl⟩
theorem texts_any (a b : ByteArray) (w : World) : Calls Tryz.prog 107 #[.string a, .string b] w fun e w' => e = .returned (.int .i64 (textsC a b)) ∧ w' = w := by
  by_cases h1 : bl a b = true
  · have h1' : Op.bytesLess a.toList b.toList = true := h1
    go_enter Tryz.func107, Tryz.ntmps107
    go_wp2_with fail
    go_ret
    exact ⟨by simp [textsC, h1], rfl⟩
  · have h1' : Op.bytesLess a.toList b.toList = false := by simpa [bl] using h1
    by_cases h2 : (a.toList == b.toList) = true
    · go_enter Tryz.func107, Tryz.ntmps107
      go_wp2_with fail
      go_ret
      exact ⟨by simp only [textsC, h1, h2, if_true]; rfl, rfl⟩
    · have h2' : (a.toList == b.toList) = false := by simpa using h2
      go_enter Tryz.func107, Tryz.ntmps107
      go_wp2_with fail
      go_ret
      exact ⟨by simp only [textsC, h1, h2']; rfl, rfl⟩
theorem keysC_drop : ∀ (k : Nat) (a b : List ByteArray) (x y : ByteArray), a[k]? = some x → b[k]? = some y → keysC (a.drop k) (b.drop k) = if textsC x y ≠ 0 then textsC x y else keysC (a.drop (k + 1)) (b.drop (k + 1)) := by
  intro k a b x y hx hy
  rw [List.drop_eq_getElem_cons (List.getElem?_eq_some_iff.1 hx).1, List.drop_eq_getElem_cons (List.getElem?_eq_some_iff.1 hy).1, (List.getElem?_eq_some_iff.1 hx).2, (List.getElem?_eq_some_iff.1 hy).2, keysC]
theorem keysC_end (a b : List ByteArray) (h : a = [] ∨ b = []) : keysC a b = (a.length : Int) - b.length := by
  cases a <;> cases b <;> simp [keysC] at h ⊢
theorem keys_any (a b : List ByteArray) (m p : Nat) (hm : a.length = m) (hp : b.length = p) (ok : Nat → Prop) (A B : Option Addr) (c d : Nat) (w : World) (ha : RowAt w ok 1 A m (strCell a)) (hb : RowAt w ok 1 B p (strCell b)) (bm : m ≤ 140737488351232) (bp : p ≤ 140737488351232) :
    Calls Tryz.prog 109 #[.slice A m c, .slice B p d] w fun e w' => e = .returned (.int .i64 (keysC a b)) ∧ Below w.heap.size w w' := by
  have HM := Lib.hid hm
  have HP := Lib.hid hp
  clear hm hp
  go_enter Tryz.func109, Tryz.ntmps109
  go_wp2_with fail
  go_loopw [5] (fun i wr => ∃ k : Nat, k ≤ m ∧ k ≤ p ∧ i = .int .i64 k ∧ keysC a b = keysC (a.drop k) (b.drop k) ∧ Below w.heap.size w wr) (fun i _ => m - (intOf i).toNat)
  case atStart => exact ⟨0, Nat.zero_le _, Nat.zero_le _, rfl, rfl, Below.refl _ _⟩
  case round =>
    obtain ⟨k, hk, hk2, rfl, heq, hbl⟩ := hrel
    have HEQ := Lib.hid heq
    clear heq
    by_cases h1 : k < m
    · by_cases h2 : k < p
      · obtain ⟨x, hx⟩ := at_lt (l := a) (p := k) (by rw [HM.out]; exact h1)
        obtain ⟨y, hy⟩ := at_lt (l := b) (p := k) (by rw [HP.out]; exact h2)
        obtain ⟨ad, hA, hca⟩ := strs_at ha (by omega)
        obtain ⟨bd, hB, hcb⟩ := strs_at hb (by omega)
        subst hA hB
        have q0 := cell_kept hbl (hca k x h1 hx)
        have q1 := cell_kept hbl (hcb k y h2 hy)
        have hd := keysC_drop k a b x y hx hy
        have HDR := Lib.hid hd
        have i0 : (0 : Int) ≤ (k : Int) := Int.natCast_nonneg _
        have i1 : (k : Int) < (m : Int) := by omega
        have i2 : (k : Int) < (p : Int) := by omega
        clear hca hcb hx hy hd
        go_wp2_with fail
        go_region_held3 (fun W => W.cell? (ad.add k) = some (.string x) ∧ W.cell? (bd.add k) = some (.string y)) (go_keep)
          ((first | (go_at_call 107; refine (texts_any _ _ _).mono ?_; rintro e' w' ⟨rfl, rfl⟩)))
        obtain ⟨n0, hn0⟩ : ∃ n0, n0 = textsC x y := ⟨_, rfl⟩
        rw [← hn0]
        have HN0 := Lib.hid hn0
        clear hn0 q0 q1
        by_cases hz : n0 = 0
        · have hnext : keysC a b = keysC (a.drop (k + 1)) (b.drop (k + 1)) := by rw [HEQ.out, HDR.out, ← HN0.out, if_neg (by omega)]
          have HNX := Lib.hid hnext
          clear hnext
          go_wp2_with fail
          go_roundw
          case rel => exact ⟨k + 1, by omega, by omega, by go_num, HNX.out, hbl.drew⟩
          case measure => simp [intOf]; omega
        · have hres : keysC a b = n0 := by rw [HEQ.out, HDR.out, ← HN0.out, if_pos hz]
          have HR := Lib.hid hres
          clear hres
          go_wp2_with fail
          go_ret
          exact ⟨by rw [HR.out]; rfl, hbl.drew⟩
      · have hres : keysC a b = (m : Int) - p := by
          rw [HEQ.out, keysC_end _ _ (.inr (List.drop_of_length_le (by rw [HP.out]; omega))), List.length_drop, List.length_drop, HM.out, HP.out]
          omega
        have HR := Lib.hid hres
        clear hres
        go_wp2_with fail
        go_ret
        exact ⟨by rw [HR.out]; rfl, hbl⟩
    · have hres : keysC a b = (m : Int) - p := by
        rw [HEQ.out, keysC_end _ _ (.inl (List.drop_of_length_le (by rw [HM.out]; omega))), List.length_drop, List.length_drop, HM.out, HP.out]
        omega
      have HR := Lib.hid hres
      clear hres
      go_wp2_with fail
      go_ret
      exact ⟨by rw [HR.out]; rfl, hbl⟩
end Go.Proofs.YtpamlgdcnmcedaaGreatDoor
