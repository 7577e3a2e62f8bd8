/- gojq: values, flatten. -/
import Derived.Test.YtpamlgdcnmcedaaGreatDoorG3
import Derived.Test.YtpamlgdcnmcedaaGreatDoorH2a
set_option linter.unusedVariables false
set_option linter.unusedSimpArgs false
set_option maxRecDepth 100000
namespace Go.Proofs.YtpamlgdcnmcedaaGreatDoor
open Go Go.RowKit

def flatJ : Nat → List J → List J
  | 0, l => l
  | n + 1, l => l.flatMap fun j => match j with
    | .arr xs => flatJ n xs
    | j => [j]

theorem values_arr (s : Value) (w : World) : Calls Tryz.prog 143 #[.iface 62 s] w fun e w' => e = .returned (.tuple #[s, .bool true]) ∧ w' = w := by
  go_enter Tryz.func143, Tryz.ntmps143
  go_wp2_with fail
  go_ret2
  exact ⟨rfl, rfl⟩
theorem values_no {w : World} {ok : Nat → Prop} {j : J} {x : Value} (h : Jr w ok j x) (h1 : ∀ l, j ≠ .arr l) (h2 : ∀ ks vs, j ≠ .obj ks vs) : Calls Tryz.prog 143 #[x] w fun e w' => e = .returned (.tuple #[.slice none 0 0, .bool false]) ∧ w' = w := by
  cases h with
  | arr => exact absurd rfl (h1 _)
  | obj => exact absurd rfl (h2 _ _)
  | _ =>
    go_enter Tryz.func143, Tryz.ntmps143
    go_wp2_with fail
    go_ret2
    exact ⟨rfl, rfl⟩

def FlattenPost (n : Nat) (l xs : List J) (base : Nat) (w : World) (e : Ending) (w' : World) : Prop :=
  ∃ v', e = .returned v' ∧ Own kJ 20 w' base (fun b => b < base) v' (xs ++ flatJ n l) ∧ Below base w w'
def FlattenC (n : Nat) : Prop := ∀ (l : List J) (m : Nat) (hm : l.length = m) (xs : List J) (v : Value) (A : Option Addr) (c base : Nat) (f : Nat → Value) (w : World),
    Own kJ 20 w base (fun b => b < base) v xs → base ≤ w.heap.size → RowAt w (fun b => b < base) 1 A m (fun i => [f i]) → (∀ (i : Nat) (j : J), l[i]? = some j → Jr w (fun b => b < base) j (f i)) → m ≤ 1000000 → (∀ j, j ∈ l → GJ j) →
    xs.length + (flatJ n l).length ≤ 1000000 → Calls Tryz.prog 146 #[v, .slice A m c, .float .f64 (Fl.fl n)] w (FlattenPost n l xs base w)
/-- What an element gives. -/
def pieceJ : Nat → J → List J
  | n + 1, .arr xs => flatJ n xs
  | _, j => [j]
theorem flatJ_flatMap (n : Nat) (l : List J) : flatJ n l = l.flatMap (pieceJ n) := by
  cases n with
  | zero => rw [flatJ]; induction l with
    | nil => rfl
    | cons a l ih => rw [List.flatMap_cons, ← ih]; rfl
  | succ n =>
    rw [flatJ]
    congr 1
    funext j
    cases j <;> rfl
theorem flatJ_take {n : Nat} {l : List J} {k : Nat} {j : J} (h : l[k]? = some j) : flatJ n (l.take (k + 1)) = flatJ n (l.take k) ++ pieceJ n j := by
  rw [flatJ_flatMap, flatJ_flatMap, List.take_add_one, h, List.flatMap_append]
  simp
theorem flatJ_le (n : Nat) (l : List J) (k : Nat) : (flatJ n (l.take k)).length ≤ (flatJ n l).length := by
  rw [flatJ_flatMap, flatJ_flatMap]
  conv => rhs; rw [← List.take_append_drop k l]
  rw [List.flatMap_append, List.length_append]
  omega
theorem flatten_step (n : Nat) (hn : n ≤ 2 ^ 53) (ih : ∀ n', n = n' + 1 → FlattenC n') : FlattenC n := by
  intro l m hm xs v A c base f w hown hbase hr hJ hmax hGl hlen
  obtain ⟨i0, hi, hzz⟩ := Option.map_eq_some_iff.1 info20
  simp only [Prod.mk.injEq] at hzz
  obtain ⟨hz, hsz, hby⟩ := hzz
  have HI := Lib.hid hi
  have HZ := Lib.hid hz
  have HS := Lib.hid hsz
  have HB := Lib.hid hby
  clear hi hz hsz hby
  have HM := Lib.hid hm
  have HOWN := Lib.hid hown
  have HLEN := Lib.hid hlen
  clear hm hlen
  obtain ⟨A0, c0, hv, hc0⟩ := hown.form
  subst hv
  clear hown
  go_enter Tryz.func146, Tryz.ntmps146
  go_wp2_with fail
  go_loopw [0, 13] (fun v i wr => ∃ k : Nat, k ≤ m ∧ i = .int .i64 k ∧ Own kJ 20 wr base (fun b => b < base) v (xs ++ flatJ n (l.take k)) ∧ Below base w wr) (fun _ i _ => m - (intOf i).toNat)
  case atStart => exact ⟨0, Nat.zero_le _, rfl, by rw [List.take_zero, flatJ_flatMap, List.flatMap_nil, List.append_nil]; exact HOWN.out, Below.refl _ _⟩
  case round =>
    obtain ⟨k, hk, rfl, ho, hb⟩ := hrel
    by_cases hlt : k < m
    · obtain ⟨j, hj⟩ := at_lt (l := l) (p := k) (by rw [HM.out]; exact hlt)
      obtain ⟨ad, hA, hok, hcc⟩ := hr (by omega)
      subst hA
      have hx : wr.cell? (ad.add k) = some (f k) := by
        have h0 := hcc k 0 (f k) hlt rfl
        simp only [Nat.mul_one, Nat.add_zero] at h0
        rw [← h0]
        exact cell_of_block (by rw [block_add]; exact hb.block _ hok)
      have hjj : Jr wr (fun b => b < base) j (f k) := (hJ k j hj).move fun b hb' => hb.block b hb'
      have hnext := flatJ_take (n := n) hj
      have hle1 := flatJ_le n l (k + 1)
      rw [hnext, List.length_append] at hle1
      obtain ⟨A1, c1, hu, hle⟩ := ho.form
      obtain ⟨p, hp⟩ : ∃ p, p = (xs ++ flatJ n (l.take k)).length := ⟨_, rfl⟩
      have hp2 := hp
      rw [List.length_append] at hp2
      have hlen1 : p + (pieceJ n j).length ≤ 1000000 := by have := HLEN.out; omega
      rw [← hp] at hu hle
      subst hu
      have HP := Lib.hid hp
      have HO := Lib.hid ho
      have HNEXT := Lib.hid hnext
      have HJJ := Lib.hid hjj
      have HLEN1 := Lib.hid hlen1
      have hbz := Nat.le_trans hbase hb.size
      have HJL := Lib.hid hj
      clear hp hp2 ho hnext hle1 hlen1 hcc hj
      generalize f k = x at hx hjj HJJ
      by_cases hbig : n ≠ 0 ∧ ∃ ys, j = .arr ys
      · obtain ⟨hn0, ys, rfl⟩ := hbig
        obtain ⟨n', hnn⟩ : ∃ n', n = n' + 1 := ⟨n - 1, by omega⟩
        have hord : (FloatKind.f64.format.order (Fl.fl n) 0 != some Ordering.eq) = true := by
          have := Fl.stands_order (Fl.stands_le n hn) Fl.stands_zero
          rw [show FloatKind.f64.format = Ieee.double from rfl, this, Int.compare_eq_ite_lt, if_neg (by omega), if_pos (by omega)]
          rfl
        have hsub : ∀ W, (binOp .sub 82 (.float .f64 (Fl.fl n)) (.float .f64 4607182418800017408)).run Tryz.prog W = .ok (.float .f64 (Fl.fl n')) W := fun W =>
          run_float_arith W .sub 82 .f64 _ _ _ (by rw [show (n' : Int) = (n : Int) - 1 by omega]; exact Fl.sub_le n (by omega) hn)
        have hp2 : pieceJ n (.arr ys) = flatJ n' ys := by rw [hnn]; rfl
        have HP2 := Lib.hid hp2
        have HNN := Lib.hid hnn
        clear hp2 hnn
        have HYS := Lib.hid (show ys.length ≤ 1000000 ∧ ∀ j, j ∈ ys → GJ j by
          obtain _ | _ | _ | _ | _ | ⟨_, h1, h2⟩ := hGl _ (List.mem_of_getElem? HJL.out)
          exact ⟨h1, h2⟩)
        have HYL := Lib.hid (show (xs ++ flatJ n (l.take k)).length + (flatJ n' ys).length ≤ 1000000 by rw [← HP.out, ← HP2.out]; exact HLEN1.out)
        obtain _ | _ | _ | _ | _ | ⟨_, Ay, cy, fy, hcy, ry, ey⟩ := hjj
        go_wp2_with fail
        refine (ih n' HNN.out ys ys.length rfl (xs ++ flatJ n (l.take k)) (.slice A1 p c1) Ay cy base fy wr HO.out (by omega) ry ey HYS.out.1 HYS.out.2 HYL.out).mono ?_
        rintro e' w' ⟨v', rfl, hown', hb'⟩
        rw [List.append_assoc, ← HP2.out, ← HNEXT.out] at hown'
        obtain ⟨A2, c2, hv2, hle2⟩ := hown'.form
        obtain ⟨q, hq⟩ : ∃ q, q = (xs ++ flatJ n (l.take (k + 1))).length := ⟨_, rfl⟩
        rw [← hq] at hv2
        clear hq
        subst hv2
        go_wp2_with fail
        go_roundw
        case rel => exact ⟨k + 1, by omega, by go_num, hown', hb.trans hb'⟩
        case measure => simp [intOf]; omega
      · have hpc : pieceJ n j = [j] := by
          cases n with
          | zero => rfl
          | succ n =>
            cases j with
            | arr ys => exact absurd ⟨by omega, ys, rfl⟩ hbig
            | _ => rfl
        have hord : (∃ ys, j = .arr ys) → (FloatKind.f64.format.order (Fl.fl n) 0 != some Ordering.eq) = false := fun h => by
          have hn0 : n = 0 := by
            rcases Nat.eq_zero_or_pos n with h0 | h0
            · exact h0
            · exact absurd ⟨by omega, h⟩ hbig
          subst hn0
          rfl
        have HPC := Lib.hid hpc
        rw [hpc] at HLEN1
        have hp1 : p + 1 ≤ 1000000 := HLEN1.out
        clear hpc hbig
        obtain ⟨w2, hw2⟩ : ∃ w2, w2 = wr.alloc (.cells #[x] 20) := ⟨_, rfl⟩
        have hb2 : Below wr.heap.size wr w2 := by rw [hw2]; exact (Below.refl _ _).alloc (Nat.le_refl _) _
        have hc2 : w2.heap[wr.heap.size]? = some (.cells #[x] 20) := by rw [hw2]; exact heap_alloc_new wr _
        have HW2 := Lib.hid hw2
        have HC2 := Lib.hid hc2
        have HO2 := Lib.hid (HO.out.keep hb2)
        have HB2 := Lib.hid hb2
        have hown0 := HO.out.lt
        have HR2 := Lib.hid (show kJ.R w2 (fun b => b < base ∧ some b ≠ (Value.slice A1 p c1).ownBlock) j [x] from ⟨x, rfl, (HJJ.out.keep hb2).mono fun b hb' => ⟨hb', fun he => by have := (hown0 b he.symm).1; omega⟩⟩)
        have HP1 := Lib.hid (show (xs ++ flatJ n (l.take k)).length + 1 ≤ maxLen by rw [← HP.out]; simp only [maxLen]; omega)
        have HP16 := Lib.hid (show ((xs ++ flatJ n (l.take k)).length + 1) * 16 ≤ 140737488355328 by rw [← HP.out]; omega)
        have HB2Z := Lib.hid (show base ≤ w2.heap.size from Nat.le_trans hbz hb2.size)
        have HLQ := Lib.hid (show (xs ++ flatJ n (l.take (k + 1))).length = p + 1 by rw [HNEXT.out, HPC.out, ← List.append_assoc, List.length_append, ← HP.out]; rfl)
        clear hw2 hc2 hb2 hown0
        have hthree : x = .nilIface ∨ (∃ t y, x = .iface t y ∧ t ≠ 62) ∨ ∃ y, x = .iface 62 y ∧ (FloatKind.f64.format.order (Fl.fl n) 0 != some Ordering.eq) = false := by
          cases hjj with
          | arr => exact .inr (.inr ⟨_, rfl, hord ⟨_, rfl⟩⟩)
          | null => exact .inl rfl
          | _ => exact .inr (.inl ⟨_, _, rfl, by decide⟩)
        clear hord hjj
        rcases hthree with rfl | ⟨t, y, rfl, ht⟩ | ⟨y, rfl, hord⟩
        all_goals
          go_wp2_with (at_builtin; refine Stop.out ?_)
          refine Stop.mk ?_
          rw [← HW2.out]
          refine wpList_append_Own (ok := fun b => b < base) kJ 20 base rfl (.tmp 32) (.tmp 34) 62 rfl i0 .nilIface 16 Tryz.underlying62 HI.out HZ.out HS.out HB.out rfl (by decide) (.slice A1 p c1) (xs ++ flatJ n (l.take k)) rfl HO2.out ⟨wr.heap.size, 0, none⟩ 1 [_] j rfl (one_new HC2.out) HR2.out HP1.out HP16.out HB2Z.out ?_
          intro v3 w3 hown3 hgr3 _
          have hb3 : Below base w2 w3 := grown_below hgr3 HB2Z.out (fun b h => (HO2.out.lt b h).1)
          obtain ⟨A3, c3, hv3, hle3⟩ := hown3.form
          rw [List.append_assoc, ← HPC.out, ← HNEXT.out] at hown3 hv3
          rw [HLQ.out] at hv3
          subst hv3
          have HO3 := Lib.hid hown3
          have HB3 := Lib.hid hb3
          clear hown3 hb3 hgr3 hle3
          go_wp2_with fail
          go_roundw
          case rel => exact ⟨k + 1, by omega, by go_num, HO3.out, hb.trans ((HB2.out.mono hbz).trans HB3.out)⟩
          case measure => simp [intOf]; omega
    · have hkn : k = m := by omega
      subst hkn
      rw [List.take_of_length_le (by rw [HM.out]; exact Nat.le_refl _)] at ho
      obtain ⟨A1, c1, hu, hle⟩ := ho.form
      subst hu
      go_wp2_with fail
      go_ret
      exact ⟨_, rfl, ho, hb⟩
theorem flatten_any : ∀ n : Nat, n ≤ 2 ^ 53 → FlattenC n
  | 0, h => flatten_step 0 h fun n' h' => by omega
  | n + 1, h => flatten_step (n + 1) h fun n' h' => by
    have e : n' = n := by omega
    rw [e]
    exact flatten_any n (by omega)
end Go.Proofs.YtpamlgdcnmcedaaGreatDoor
