/- spec.flat. -/
import Derived.Test.YtpamlgdcnmcedaaGreatDoorP1
import Derived.Test.YtpamlgdcnmcedaaGreatDoorE1
import Derived.Test.YtpamlgdcnmcedaaGreatDoorH2
set_option linter.unusedVariables false
set_option linter.unusedSimpArgs false
set_option maxRecDepth 100000
namespace Go.Proofs.YtpamlgdcnmcedaaGreatDoor
open Go Go.RowKit
def pieceV : Nat → V → List V
  | n + 1, v => if v.kind = 5 then flatV n v.list else [v]
  | 0, v => [v]
theorem flatV_flatMap (n : Nat) (l : List V) : flatV n l = l.flatMap (pieceV n) := by
  cases n with
  | zero => rw [flatV]; induction l with
    | nil => rfl
    | cons a l ih => rw [List.flatMap_cons, ← ih]; rfl
  | succ n => rw [flatV]; rfl
theorem flatV_take {n : Nat} {l : List V} {k : Nat} {v : V} (h : l[k]? = some v) : flatV n (l.take (k + 1)) = flatV n (l.take k) ++ pieceV n v := by
  rw [flatV_flatMap, flatV_flatMap, List.take_add_one, h, List.flatMap_append]
  simp
theorem flatV_le (n : Nat) (l : List V) (k : Nat) : (flatV n (l.take k)).length ≤ (flatV n l).length := by
  rw [flatV_flatMap, flatV_flatMap]
  conv => rhs; rw [← List.take_append_drop k l]
  rw [List.flatMap_append, List.length_append]
  omega
def FlatVC (n : Nat) : Prop := ∀ (l : List V) (m : Nat) (hm : l.length = m) (ok : Nat → Prop) (A : Option Addr) (c : Nat) (f : Nat → List Value) (w : World), (∀ b, ok b → b < w.heap.size) →
    RowAt w ok 6 A m f → (∀ (i : Nat) (v : V), l[i]? = some v → Vr w ok v (f i)) → m ≤ 140737488351232 → (flatV n l).length ≤ 1000 →
    Calls Tryz.prog 85 #[.slice A m c, .int .i64 n] w fun e w' => ∃ v', e = .returned v' ∧ Own kV 26 w' w.heap.size ok v' (flatV n l) ∧ Below w.heap.size w w'
theorem flatV_step (n : Nat) (hn : n < 2 ^ 60) (ih : ∀ n', n = n' + 1 → FlatVC n') : FlatVC n := by
  intro l m hm ok A c f w hok hr he hmax hlen
  obtain ⟨i0, hi, hzz⟩ := Option.map_eq_some_iff.1 info26
  simp only [Prod.mk.injEq] at hzz
  obtain ⟨hz, hsz, hby⟩ := hzz
  have HI := Lib.hid hi
  have HZ := Lib.hid hz
  have HS := Lib.hid hsz
  have HB := Lib.hid hby
  have HM := Lib.hid hm
  have HLEN := Lib.hid hlen
  clear hi hz hsz hby hm hlen
  go_enter Tryz.func85, Tryz.ntmps85
  go_wp2_with fail
  go_loopw [5, 10] (fun v i wr => ∃ k : Nat, k ≤ m ∧ i = .int .i64 k ∧ Own kV 26 wr w.heap.size ok v (flatV n (l.take k)) ∧ Below w.heap.size w wr) (fun _ i _ => m - (intOf i).toNat)
  case atStart => exact ⟨0, Nat.zero_le _, rfl, by rw [List.take_zero, flatV_flatMap, List.flatMap_nil]; exact Own.nil _ _ _ _ _, Below.refl _ _⟩
  case round =>
    obtain ⟨k, hk, rfl, ho, hb⟩ := hrel
    by_cases hlt : k < m
    · obtain ⟨x, hx⟩ := at_lt (l := l) (p := k) (by rw [HM.out]; exact hlt)
      obtain ⟨ad, hA, _, hc0⟩ := hr (by omega)
      subst hA
      have hV := (he k x hx).keep hb
      have hc := fun j u hu => cell_kept hb (hc0 k j u hlt hu)
      have hnext := flatV_take (n := n) hx
      have hle1 := flatV_le n l (k + 1)
      rw [hnext, List.length_append] at hle1
      obtain ⟨A1, cc, hu, hle⟩ := ho.form
      obtain ⟨p, hp⟩ : ∃ p, p = (flatV n (l.take k)).length := ⟨_, rfl⟩
      have hlen1 : p + (pieceV n x).length ≤ 1000 := by have := HLEN.out; omega
      rw [← hp] at hu hle
      subst hu
      have HP := Lib.hid hp
      have HO := Lib.hid ho
      have HNEXT := Lib.hid hnext
      have HLEN1 := Lib.hid hlen1
      have hbz := hb.size
      have HV := Lib.hid hV
      have hown0 := ho.lt
      have HOB := Lib.hid (show ∀ b, ok b → ok b ∧ some b ≠ (Value.slice A1 p cc).ownBlock from fun b hb => ⟨hb, fun he => by have := (hown0 b he.symm).1; have := hok b hb; omega⟩)
      clear hp ho hnext hle1 hlen1 hc0 hx hown0
      generalize f k = fc at hV hc HV
      obtain ⟨k', h', t', l', ks', vs', B1, d1, B2, d2, B3, d3, f1, g1, ht', h1', h2', h3', b1', b2', b3', hk'', hh'', hs'', q1, e1', q2, q3, e3'⟩ := hV
      obtain ⟨z0, z1, z2, z3, z4, z5⟩ := cells6 hc
      obtain ⟨w2, hw2⟩ : ∃ w2, w2 = wr.alloc (.cells #[.int .i64 k', .int .i64 h', .string t', .slice B1 l'.length d1, .slice B2 ks'.length d2, .slice B3 vs'.length d3] 26) := ⟨_, rfl⟩
      have hb2 : Below wr.heap.size wr w2 := by rw [hw2]; exact (Below.refl _ _).alloc (Nat.le_refl _) _
      have hs2 : w2.heap.size = wr.heap.size + 1 := by rw [hw2]; simp
      have HO2 := Lib.hid (HO.out.keep hb2)
      have HB2 := Lib.hid (below_trans hb hb2)
      have HW2 := Lib.hid hw2
      have HS2 := Lib.hid hs2
      by_cases hbig : n ≠ 0 ∧ k' = 5
      · obtain ⟨hn0, rfl⟩ := hbig
        obtain ⟨n', hnn⟩ : ∃ n', n = n' + 1 := ⟨n - 1, by omega⟩
        have hp2 : pieceV n (V.mk 5 h' t' l' ks' vs') = flatV n' l' := by rw [hnn]; rfl
        have HP2 := Lib.hid hp2
        have HNN := Lib.hid hnn
        have hn1 : ¬ (n : Int) = 0 := by omega
        have hn2 : (n : Int) - 1 = (n' : Int) := by omega
        have HN2 := Lib.hid hn2
        have HYL := Lib.hid (show (flatV n' l').length ≤ 1000 by have := HLEN1.out; rw [hp2] at this; omega)
        have HQ1 := Lib.hid (show RowAt w2 ok 6 B1 l'.length f1 from ((q1.bound fun i hi => by have := (e1' i _ (List.getElem?_eq_getElem hi)).len; omega).move fun b hb => hb2.block b hb.2).mono fun _ h => h.1)
        have HE1 := Lib.hid (show ∀ (i : Nat) (v : V), l'[i]? = some v → Vr w2 ok v (f1 i) from fun i v hv => (e1' i v hv).keep hb2)
        have HOKX := Lib.hid (show ∀ b, ok b → b < w2.heap.size from fun b hb => by have := hok b hb; omega)
        clear hp2 hnn hn2 hw2 hs2 hb2 q1 e1' q2 q3 e3' hs''
        go_wp2_with fail
        rw [← HW2.out]
        have hcall := ih n' HNN.out l' l'.length rfl ok B1 d1 f1 w2 HOKX.out HQ1.out HE1.out b1' HYL.out
        rw [← HN2.out] at hcall
        first
          | refine hcall.mono ?_
          | (rw [HN2.out] at hcall; refine hcall.mono ?_)
        rintro e' w' ⟨v', rfl, hown', hb'⟩
        have hO3 := HO2.out.keep hb'
        have HOWN' := Lib.hid hown'
        have HO3 := Lib.hid hO3
        have HBX := Lib.hid (below_trans HB2.out hb')
        obtain ⟨A2, c2, hv2, hle2⟩ := hown'.form
        obtain ⟨y, hy⟩ : ∃ y, y = (flatV n' l').length := ⟨_, rfl⟩
        rw [← hy] at hv2
        have HY := Lib.hid hy
        subst hv2
        have HPX := Lib.hid (show (flatV n (l.take k)).length + (flatV n' l').length ≤ 1000 by rw [← HP.out, ← HP2.out]; exact HLEN1.out)
        clear hy hown' hO3 hb' hcall z0 z1 z2 z3 z4 z5
        go_wp2_with (at_builtin; refine Stop.out ?_)
        refine Stop.mk ?_
        refine wpList_append_OwnMany (ok := ok) (ok2 := ok) kV 26 w.heap.size w2.heap.size rfl (.tmp 21) (.tmp 26) 23 rfl i0 (.agg #[.int .i64 0, .int .i64 0, .string ⟨#[]⟩, .slice none 0 0, .slice none 0 0, .slice none 0 0]) 104 Tryz.underlying23 HI.out HZ.out HS.out HB.out rfl (by decide) (.slice A1 p cc) (.slice A2 y c2) (flatV n (l.take k)) (flatV n' l') rfl rfl HO3.out HOWN'.out HOB.out ?c3 ?c4 HBX.out.size ?_
        case c3 => have := HPX.out; simp only [maxLen]; omega
        case c4 => have := HPX.out; omega
        intro v3 w3 hown3 hgr3 _
        have hb3 := grown_below hgr3 HBX.out.size (fun b h => (HO3.out.lt b h).1)
        rw [← HP2.out, ← HNEXT.out] at hown3
        obtain ⟨A3, c3, hv3, hle3⟩ := hown3.form
        have HLQ := Lib.hid (show (flatV n (l.take (k + 1))).length = p + y by rw [HNEXT.out, List.length_append, HP2.out, ← HP.out, ← HY.out])
        rw [HLQ.out] at hv3
        subst hv3
        have HO4 := Lib.hid hown3
        have HB4 := Lib.hid (HBX.out.trans hb3)
        clear hown3 hgr3 hb3 hle3
        go_wp2_with fail
        go_roundw
        case rel => exact ⟨k + 1, by omega, by go_num, HO4.out, HB4.out⟩
        case measure => simp [intOf]; omega
      · have hpc : pieceV n (V.mk k' h' t' l' ks' vs') = [V.mk k' h' t' l' ks' vs'] := by
          cases n with
          | zero => rfl
          | succ n =>
            have : ¬ k' = 5 := fun h => hbig ⟨by omega, h⟩
            exact if_neg this
        have HPC := Lib.hid hpc
        rw [hpc] at HLEN1
        have hp1 : p + 1 ≤ 1000 := HLEN1.out
        obtain ⟨w3, hw3⟩ : ∃ w3, w3 = w2.alloc (.cells #[.int .i64 k', .int .i64 h', .string t', .slice B1 l'.length d1, .slice B2 ks'.length d2, .slice B3 vs'.length d3] 26) := ⟨_, rfl⟩
        have hb3 : Below w2.heap.size w2 w3 := by rw [hw3]; exact (Below.refl _ _).alloc (Nat.le_refl _) _
        have hc3 : w3.heap[w2.heap.size]? = some (.cells #[.int .i64 k', .int .i64 h', .string t', .slice B1 l'.length d1, .slice B2 ks'.length d2, .slice B3 vs'.length d3] 26) := by rw [hw3]; exact heap_alloc_new w2 _
        have HC3 := Lib.hid hc3
        have HO3 := Lib.hid (HO2.out.keep hb3)
        have HBX := Lib.hid (below_trans HB2.out hb3)
        have HW3 := Lib.hid hw3
        have HV3 := Lib.hid ((HV.out.keep hb2).keep hb3)
        have HP1 := Lib.hid (show (flatV n (l.take k)).length + 1 ≤ 1000 by rw [← HP.out]; exact hp1)
        have HLQ := Lib.hid (show (flatV n (l.take (k + 1))).length = p + 1 by rw [HNEXT.out, List.length_append, HPC.out, ← HP.out]; rfl)
        have hsplit : (n = 0 ∧ k' = 5) ∨ ¬ k' = 5 := by
          by_cases h5 : k' = 5
          · exact .inl ⟨by
              rcases Nat.eq_zero_or_pos n with h0 | h0
              · exact h0
              · exact absurd ⟨by omega, h5⟩ hbig, h5⟩
          · exact .inr h5
        clear hbig hpc hw2 hs2 hb2 hw3 hb3 hc3 q1 e1' q2 q3 e3' hs''
        rcases hsplit with ⟨hn0, rfl⟩ | h5
        · have hnb : ((n : Int) != 0) = false := by rw [hn0]; rfl
          have hn1 : ¬ ¬ (n : Int) = 0 := by omega
          clear hn0
          go_wp2_with (at_builtin; refine Stop.out ?_)
          refine Stop.mk ?_
          rw [← HW2.out, ← HW3.out]
          refine wpList_append_Own (ok := ok) kV 26 w.heap.size rfl (.tmp 28) (.tmp 30) 23 rfl i0 (.agg #[.int .i64 0, .int .i64 0, .string ⟨#[]⟩, .slice none 0 0, .slice none 0 0, .slice none 0 0]) 104 Tryz.underlying23 HI.out HZ.out HS.out HB.out rfl (by decide) (.slice A1 p cc) _ rfl HO3.out ⟨w2.heap.size, 0, none⟩ 1 [.int .i64 5, .int .i64 h', .string t', .slice B1 l'.length d1, .slice B2 ks'.length d2, .slice B3 vs'.length d3] (V.mk 5 h' t' l' ks' vs') (by first | rfl | (rw [HS2.out]; rfl)) (cells_six HC3.out) ?c2 ?c3 ?c4 HBX.out.size ?_
          case c2 => exact HV3.out.mono HOB.out
          case c3 => have := HP1.out; simp only [maxLen]; omega
          case c4 => have := HP1.out; omega
          intro v4 w4 hown4 hgr4 _
          have hb4 := grown_below hgr4 HBX.out.size (fun b h => (HO3.out.lt b h).1)
          rw [← HPC.out, ← HNEXT.out] at hown4
          obtain ⟨A3, c3, hv3, hle3⟩ := hown4.form
          rw [HLQ.out] at hv3
          subst hv3
          have HO4 := Lib.hid hown4
          have HB4 := Lib.hid (HBX.out.trans hb4)
          clear hown4 hgr4 hb4 hle3
          go_wp2_with fail
          go_roundw
          case rel => exact ⟨k + 1, by omega, by go_num, HO4.out, HB4.out⟩
          case measure => simp [intOf]; omega
        · go_wp2_with (at_builtin; refine Stop.out ?_)
          refine Stop.mk ?_
          rw [← HW2.out, ← HW3.out]
          refine wpList_append_Own (ok := ok) kV 26 w.heap.size rfl (.tmp 28) (.tmp 30) 23 rfl i0 (.agg #[.int .i64 0, .int .i64 0, .string ⟨#[]⟩, .slice none 0 0, .slice none 0 0, .slice none 0 0]) 104 Tryz.underlying23 HI.out HZ.out HS.out HB.out rfl (by decide) (.slice A1 p cc) _ rfl HO3.out ⟨w2.heap.size, 0, none⟩ 1 [.int .i64 k', .int .i64 h', .string t', .slice B1 l'.length d1, .slice B2 ks'.length d2, .slice B3 vs'.length d3] (V.mk k' h' t' l' ks' vs') (by first | rfl | (rw [HS2.out]; rfl)) (cells_six HC3.out) ?c2 ?c3 ?c4 HBX.out.size ?_
          case c2 => exact HV3.out.mono HOB.out
          case c3 => have := HP1.out; simp only [maxLen]; omega
          case c4 => have := HP1.out; omega
          intro v4 w4 hown4 hgr4 _
          have hb4 := grown_below hgr4 HBX.out.size (fun b h => (HO3.out.lt b h).1)
          rw [← HPC.out, ← HNEXT.out] at hown4
          obtain ⟨A3, c3, hv3, hle3⟩ := hown4.form
          rw [HLQ.out] at hv3
          subst hv3
          have HO4 := Lib.hid hown4
          have HB4 := Lib.hid (HBX.out.trans hb4)
          clear hown4 hgr4 hb4 hle3
          go_wp2_with fail
          go_roundw
          case rel => exact ⟨k + 1, by omega, by go_num, HO4.out, HB4.out⟩
          case measure => simp [intOf]; omega
    · have hkn : k = m := by omega
      subst hkn
      rw [List.take_of_length_le (by rw [HM.out]; exact Nat.le_refl _)] at ho
      obtain ⟨A1, cc, hu, hle⟩ := ho.form
      subst hu
      go_wp2_with fail
      go_ret
      exact ⟨_, rfl, ho, hb⟩
theorem flatV_any : ∀ n : Nat, n < 2 ^ 60 → FlatVC n
  | 0, h => flatV_step 0 h fun n' h' => by omega
  | n + 1, h => flatV_step (n + 1) h fun n' h' => by
    have e : n' = n := by omega
    rw [e]
    exact flatV_any n (by omega)
end Go.Proofs.YtpamlgdcnmcedaaGreatDoor
