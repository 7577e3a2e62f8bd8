/- impl.mapFromGo: the walk. -/
import Derived.Test.YtpamlgdcnmcedaaGreatDoorH2a
import Derived.Test.YtpamlgdcnmcedaaGreatDoorK
import Derived.Deep.RegionHeld3
import Derived.Deep.AppendLies
import Derived.Test.YtpamlgdcnmcedaaGreatDoorO
set_option linter.unusedVariables false
set_option linter.unusedSimpArgs false
set_option maxRecDepth 100000
namespace Go.Proofs.YtpamlgdcnmcedaaGreatDoor
open Go Go.RowKit

theorem laysX {W : World} {g : Nat} {a0 a1 a2 a3 a4 a5 : Value} {t : TypeId} {fz : Nat × Nat} (h : W.heap[g]? = some (.cells #[a0, a1, a2, a3, a4, a5] t fz)) :
    W.cell? ⟨g, 4, none⟩ = some a4 ∧ W.cell? ⟨g, 5, none⟩ = some a5 := by
  simp [World.cell?, h]
theorem laysZ {W : World} {g' : Nat} {c0 c1 c2 c3 c4 c5 : Value} {t' : TypeId} {fz' : Nat × Nat} (h' : W.heap[g']? = some (.cells #[c0, c1, c2, c3, c4, c5] t' fz')) :
    W.cell? ⟨g', 0, none⟩ = some c0 ∧ W.cell? ⟨g', 1, none⟩ = some c1 ∧ W.cell? ⟨g', 2, none⟩ = some c2 ∧ W.cell? ⟨g', 3, none⟩ = some c3 ∧ W.cell? ⟨g', 4, none⟩ = some c4 ∧ W.cell? ⟨g', 5, none⟩ = some c5 := by
  simp [World.cell?, h']
theorem lays_SZ {W : World} {g g' : Nat} {a0 a1 a2 a3 a4 a5 c0 c1 c2 c3 c4 c5 : Value} {t t' : TypeId} {fz fz' : Nat × Nat} (h : W.heap[g]? = some (.cells #[a0, a1, a2, a3, a4, a5] t fz)) (h' : W.heap[g']? = some (.cells #[c0, c1, c2, c3, c4, c5] t' fz')) (n : Nat) (l : Array Bool) :
    SZ (fun W : World => W.cell? ⟨g', 0, none⟩ = some c0 ∧ W.cell? ⟨g', 1, none⟩ = some c1 ∧ W.cell? ⟨g', 2, none⟩ = some c2 ∧ W.cell? ⟨g', 3, none⟩ = some c3 ∧ W.cell? ⟨g', 4, none⟩ = some c4 ∧ W.cell? ⟨g', 5, none⟩ = some c5)
      (fun W : World => W.cell? ⟨g, 4, none⟩ = some a4 ∧ W.cell? ⟨g, 5, none⟩ = some a5) n l W := ⟨laysZ h', .inr (laysX h)⟩
set_option maxHeartbeats 4000000 in
theorem mapFromGo_one (n : Nat) (ih : FromGoIH n) (ks : List ByteArray) (vs : List J) (m : Nat) (hm : ks.length = m) (hv : vs.length = m) (ok : Nat → Prop) (x : Value) (w : World)
    (hn : ∀ j, j ∈ vs → SizeOf.sizeOf j < n) (hG : GJ (.obj ks vs)) (hJ : Jr w ok (.obj ks vs) (.iface 85 x)) :
    Calls Tryz.prog 142 #[x] w (FromGoPost (.obj ks vs) w) := by
  obtain ⟨i0, hi, hzz⟩ := Option.map_eq_some_iff.1 info26
  simp only [Prod.mk.injEq] at hzz
  obtain ⟨hz, hsz, hby⟩ := hzz
  have HI := Lib.hid hi
  have HZ := Lib.hid hz
  have HS := Lib.hid hsz
  have HB := Lib.hid hby
  obtain ⟨i9, hi9, hzz9⟩ := Option.map_eq_some_iff.1 info9
  simp only [Prod.mk.injEq] at hzz9
  obtain ⟨hz9, hsz9, hby9⟩ := hzz9
  have HI9 := Lib.hid hi9
  have HZ9 := Lib.hid hz9
  have HS9 := Lib.hid hsz9
  have HB9 := Lib.hid hby9
  clear hi hz hsz hby hi9 hz9 hsz9 hby9
  have HJ := Lib.hid hJ
  obtain _ | _ | _ | _ | _ | _ | ⟨_, _, b, es, clock, f, ho, hb, hn', hv', hnd, he, hg, hst, e⟩ := hJ
  obtain _ | _ | _ | _ | _ | _ | ⟨_, _, hmax, hlen, hsort, hsize, hGv⟩ := hG
  have hbl := heap_lt hb
  obtain ⟨W0, hW0⟩ : ∃ W0, W0 = (w.alloc (.cells #[.int .i64 0, .int .i64 0, .string ⟨#[]⟩, .slice none 0 0, .slice none 0 0, .slice none 0 0] 26)).alloc (.cells #[.int .i64 6, .int .i64 0, .string ⟨#[]⟩, .slice none 0 0, .slice none 0 0, .slice none 0 0] 26) := ⟨_, rfl⟩
  have hbw0 : Below w.heap.size w W0 := by rw [hW0]; exact ((Below.refl _ _).alloc (Nat.le_refl _) _).alloc (by simp) _
  have hs0 : W0.heap.size = w.heap.size + 2 := by rw [hW0]; simp
  have hr0 : W0.heap[w.heap.size]? = some (.cells #[.int .i64 0, .int .i64 0, .string ⟨#[]⟩, .slice none 0 0, .slice none 0 0, .slice none 0 0] 26 (0, 0)) := by
    rw [hW0]; exact (Below.heap_alloc _ _ _ (by simp)).trans (heap_alloc_new w _)
  have ho0 : W0.heap[w.heap.size + 1]? = some (.cells #[.int .i64 6, .int .i64 0, .string ⟨#[]⟩, .slice none 0 0, .slice none 0 0, .slice none 0 0] 26 (0, 0)) := by
    rw [hW0]
    have := heap_alloc_new (w.alloc (.cells #[.int .i64 0, .int .i64 0, .string ⟨#[]⟩, .slice none 0 0, .slice none 0 0, .slice none 0 0] 26)) (.cells #[.int .i64 6, .int .i64 0, .string ⟨#[]⟩, .slice none 0 0, .slice none 0 0, .slice none 0 0] 26)
    simpa using this
  have hmap := map_keys ((hbw0.block b hbl).trans hb) hn' hnd he hst (fun s hs => by
    obtain ⟨i, hi⟩ := List.getElem?_of_mem hs
    have := hsize i s hi
    simp only [maxLen]; omega) (by simp only [maxLen]; omega) hsort
  obtain ⟨D0, hown, hD, hkeys⟩ := hmap
  have HOWN := Lib.hid hown
  have HW0 := Lib.hid hW0
  have HS0 := Lib.hid hs0
  have HR0 := Lib.hid hr0
  have HO0 := Lib.hid ho0
  have HM := Lib.hid hm
  have HV := Lib.hid hv
  have HKEYS := Lib.hid hkeys
  have HD := Lib.hid hD
  have hall : AllS es.toList := fun e hee => by
    obtain ⟨s, h1, _⟩ := he e hee
    exact ⟨s, h1⟩
  clear hown hW0 hs0 hr0 ho0 hm hv hkeys hD hn' hv' hst he hlen
  go_enter Tryz.func142, Tryz.ntmps142
  go_wp2_with fail
  rw [← HW0.out]
  refine (callsIn_wide.1 (maps_Keys_186 (some b) _)).mono ?_
  rintro e0 w0 ⟨rfl, rfl⟩
  go_wp2_with fail
  refine (callsIn_wide.1 (slices_Sorted_keys_185_186 b ks.length D0 noElem W0 HOWN.out (by rw [HD.out]; simp only [maxLen]; omega) (by rw [HD.out]; omega))).mono ?_
  rintro e1 w1 ⟨v, ss, rfl, hss, hrow, _, hb1⟩
  obtain ⟨hsl, hsm⟩ := HKEYS.out ss hss
  rw [show (ss.mergeSort (fun x y => decide (x ≤ y))).map encStr = ks.map .string from hsm, hsl, HM.out] at hrow
  obtain ⟨A, cA, rfl, hra⟩ := row_keys hrow HM.out
  have hrs : RowAt w1 (fun b => w.heap.size + 2 ≤ b) 1 A m (strCell ks) := hra.mono fun b hb => by simp at hb; have := HS0.out; omega
  have hrs := hrs.bound (fun i hi => by simp [strCell])
  have hbw1 : Below W0.heap.size W0 w1 := below_trans ((Below.refl _ _).alloc (Nat.le_refl _) _) hb1
  have hres1 := (hbw1.block _ (by have := HS0.out; omega)).trans HR0.out
  have hstart : MFrom w w1 0 ks vs w1 := MFrom.start hbw0 HS0.out hbw1 HO0.out
  have HRES1 := Lib.hid hres1
  have HSTART := Lib.hid hstart
  have HB1 := Lib.hid hb1
  have HBW1 := Lib.hid hbw1
  have HBW0 := Lib.hid hbw0
  have hmm : m ≤ 1000000 := by have := HM.out; omega
  clear hrow hra hsl hsm hss hres1 hstart hb1 hbw1 hbw0 hmax
  go_wp2_with fail
  go_loopw [14] (fun i wr => ∃ k : Nat, k ≤ m ∧ i = .int .i64 k ∧ MFrom w w1 k ks vs wr) (fun i _ => m - (intOf i).toNat)
  case atStart => exact ⟨0, Nat.zero_le _, rfl, HSTART.out⟩
  case round =>
    obtain ⟨k, hk, rfl, hrel⟩ := hrel
    obtain ⟨hbel, hszr, hkept, kv, vv, hout, hko, hvo, hdis⟩ := hrel
    by_cases hlt : k < m
    · obtain ⟨s, hs⟩ := at_lt (l := ks) (p := k) (by rw [HM.out]; exact hlt)
      obtain ⟨j, hj⟩ := at_lt (l := vs) (p := k) (by rw [HV.out]; exact hlt)
      have hrw := hrs.move (w' := wr) (fun b hb => hkept b (by omega) hb.2)
      obtain ⟨ad, hA, hcs⟩ := strs_at hrw (by omega)
      subst hA
      have hx := hcs k s hlt hs
      have hlk := run_lookup_S ((hbel.block b hbl).trans hb) hall s
      rw [hg k s hs, Option.getD_some] at hlk
      have HJJ := Lib.hid ((e k j hj).keep hbel)
      have HSS := Lib.hid hs
      have HJL := Lib.hid hj
      have HOUT := Lib.hid hout
      have HKO := Lib.hid hko
      have HVO := Lib.hid hvo
      have HKEPT := Lib.hid hkept
      clear hs hj hcs hout hko hvo hkept hrw
      go_wp2_with fail
      refine (ih j ok _ _ (hn j (List.mem_of_getElem? HJL.out)) (hGv j (List.mem_of_getElem? HJL.out)) HJJ.out).mono ?_
      rintro e' w' ⟨cs, rfl, hv, hb'⟩
      have hsz' : w1.heap.size ≤ w'.heap.size := Nat.le_trans hszr hb'.size
      have hkept' : ∀ b, b ≠ w.heap.size + 1 → b < w1.heap.size → w'.heap[b]? = w1.heap[b]? := fun b h1 h2 => (hb'.block b (by omega)).trans (HKEPT.out b h1 h2)
      have hout' := (hb'.block _ (heap_lt HOUT.out)).trans HOUT.out
      have hko' := HKO.out.keep hb'
      have hvo' := HVO.out.keep hb'
      have hkl : (ks.take k).length = k := by rw [List.length_take, HM.out]; omega
      have hvl : ((J.vs vs).take k).length = k := by rw [List.length_take, vs_len, HV.out]; omega
      obtain ⟨Ak, ck, hke, hkle⟩ := hko'.form
      obtain ⟨Av, cv, hve, hvle⟩ := hvo'.form
      rw [hkl] at hke hkle
      rw [hvl] at hve hvle
      subst hke hve
      have HKL := Lib.hid hkl
      have HVL := Lib.hid hvl
      have HVR := Lib.hid hv
      have HOUT' := Lib.hid hout'
      have HKO' := Lib.hid hko'
      have HVO' := Lib.hid hvo'
      have HKEPT' := Lib.hid hkept'
      clear hout' hko' hvo' hkl hvl hkept'
      generalize hjv : j.v = jv at hv
      have HJV := Lib.hid hjv
      clear hjv hlk hx
      obtain ⟨k', h', t', l', ks', vs', B1, d1, B2, d2, B3, d3, f1, g1, ht, h1, h2, h3, b1, b2, b3, hk', hh', hs', q1, e1, q2, q3, e3'⟩ := hv
      go_wp2_with fail
      obtain ⟨w2, hw2⟩ : ∃ w2, w2 = w'.alloc (.cells #[.int .i64 k', .int .i64 h', .string t', .slice B1 l'.length d1, .slice B2 ks'.length d2, .slice B3 vs'.length d3] 26) := ⟨_, rfl⟩
      rw [← hw2]
      have hb2 : Below w'.heap.size w' w2 := by rw [hw2]; exact (Below.refl _ _).alloc (Nat.le_refl _) _
      have hz2 : w2.heap[w'.heap.size]? = some (.cells #[.int .i64 k', .int .i64 h', .string t', .slice B1 l'.length d1, .slice B2 ks'.length d2, .slice B3 vs'.length d3] 26) := by rw [hw2]; exact heap_alloc_new w' _
      clear hw2
      have hwr := heap_lt HOUT'.out
      have hout2 := (hb2.block _ hwr).trans HOUT'.out
      have HKO2 := Lib.hid (HKO'.out.keep hb2)
      have HVO2 := Lib.hid (HVO'.out.keep hb2)
      have hs2 : w'.heap.size < w2.heap.size := heap_lt hz2
      have x4 : w2.cell? ⟨w.heap.size + 1, 4, none⟩ = some (.slice Ak k ck) := by simp [World.cell?, hout2]
      have x5 : w2.cell? ⟨w.heap.size + 1, 5, none⟩ = some (.slice Av k cv) := by simp [World.cell?, hout2]
      have z0 : w2.cell? ⟨w'.heap.size, 0, none⟩ = some (.int .i64 k') := by simp [World.cell?, hz2]
      have z1 : w2.cell? ⟨w'.heap.size, 1, none⟩ = some (.int .i64 h') := by simp [World.cell?, hz2]
      have z2 : w2.cell? ⟨w'.heap.size, 2, none⟩ = some (.string t') := by simp [World.cell?, hz2]
      have z3 : w2.cell? ⟨w'.heap.size, 3, none⟩ = some (.slice B1 l'.length d1) := by simp [World.cell?, hz2]
      have z4 : w2.cell? ⟨w'.heap.size, 4, none⟩ = some (.slice B2 ks'.length d2) := by simp [World.cell?, hz2]
      have z5 : w2.cell? ⟨w'.heap.size, 5, none⟩ = some (.slice B3 vs'.length d3) := by simp [World.cell?, hz2]
      have HB1k := Lib.hid (show (ks.take k).length + 1 ≤ maxLen by rw [HKL.out]; simp only [maxLen]; omega)
      have HB2k := Lib.hid (show ((ks.take k).length + 1) * 16 ≤ 140737488355328 by rw [HKL.out]; omega)
      have HB1v := Lib.hid (show ((J.vs vs).take k).length + 1 ≤ maxLen by rw [HVL.out]; simp only [maxLen]; omega)
      have HB2v := Lib.hid (show (((J.vs vs).take k).length + 1) * 104 ≤ 140737488355328 by rw [HVL.out]; omega)
      have HKL1 := Lib.hid (show (ks.take k ++ [s]).length = k + 1 by rw [List.length_append, HKL.out]; rfl)
      have HVL1 := Lib.hid (show ((J.vs vs).take k ++ [j.v]).length = k + 1 by rw [List.length_append, HVL.out]; rfl)
      have HOUT2 := Lib.hid hout2
      have HZ2 := Lib.hid hz2
      have hklt := HKO.out.lt
      have hvlt := HVO.out.lt
      have hwz := heap_lt HOUT.out
      have hbz := hb'.size
      have hw1z : w.heap.size + 3 ≤ w1.heap.size := by have h1 := HB1.out.size; have h2 := HS0.out; simp at h1; omega
      -- neither slice lies in a block that the region reads, nor in one that is made now
      have HNOK := Lib.hid (show ∀ b, b < w1.heap.size ∨ w'.heap.size ≤ b → some b ≠ (Value.slice Ak k ck).ownBlock from fun b hb he => by
        have := hklt b he.symm
        omega)
      have HNOV := Lib.hid (show ∀ b, b < w1.heap.size ∨ w'.heap.size ≤ b → some b ≠ (Value.slice Av k cv).ownBlock from fun b hb he => by
        have := hvlt b he.symm
        omega)
      have HDIS := Lib.hid (show (Value.slice Av k cv).ownBlock = none ∨ (Value.slice Av k cv).ownBlock ≠ (Value.slice Ak k ck).ownBlock by
        cases hvb : (Value.slice Av k cv).ownBlock with
        | none => exact .inl rfl
        | some g => exact .inr fun h => hdis g h.symm hvb)
      have HL1 := Lib.hid (show w.heap.size + 1 < w2.heap.size by omega)
      have HL2 := Lib.hid (show w.heap.size + 1 < w1.heap.size by omega)
      have HL3 := Lib.hid hs2
      have HL4 := Lib.hid (Nat.le_refl w'.heap.size)
      have HL5 := Lib.hid (show w'.heap.size ≤ w2.heap.size + 1 by omega)
      have HL6 := Lib.hid (show w'.heap.size ≤ w2.heap.size by omega)
      have HVO2 := Lib.hid HVO2.out.bound
      have HVR2 := Lib.hid (show Vr w2 (fun b => ((w1.heap.size ≤ b ∧ some b ≠ (Value.slice Ak k ck).ownBlock) ∧ b < w2.heap.size) ∧ some b ≠ (Value.slice Av k cv).ownBlock) j.v [.int .i64 k', .int .i64 h', .string t', .slice B1 l'.length d1, .slice B2 ks'.length d2, .slice B3 vs'.length d3] from by
        rw [← HJV.out] at *
        refine (HVR.out.keep hb2).bound.mono fun b hb => ⟨⟨⟨by omega, fun he => ?_⟩, hb.2⟩, fun he => ?_⟩
        · have := hklt b he.symm; omega
        · have := hvlt b he.symm; omega)
      have hL1 := HL1.out
      have hL1b : w.heap.size < w2.heap.size := by omega
      have HK0 := Lib.hid (show ∀ b, (Value.slice Ak k ck).ownBlock = some b → w1.heap.size ≤ b ∧ b < w2.heap.size from fun b h => by have := hklt b h; omega)
      have HV0 := Lib.hid (show ∀ b, (Value.slice Av k cv).ownBlock = some b → w1.heap.size ≤ b ∧ b < w2.heap.size from fun b h => by have := hvlt b h; omega)
      have HBEL2 := Lib.hid (below_trans hbel (below_trans hb' hb2))
      have HSZ2 := Lib.hid (show w1.heap.size ≤ w2.heap.size by omega)
      have HKEPT2 := Lib.hid (show ∀ b, b ≠ w.heap.size + 1 → b < w1.heap.size → w2.heap[b]? = w1.heap[b]? from fun b h1 h2 => (hb2.block b (by omega)).trans (HKEPT'.out b h1 h2))
      clear hout2 hz2 hklt hvlt
      have HZ0 := Lib.hid (show (fun W : World => W.cell? ⟨w'.heap.size, 0, none⟩ = some (.int .i64 k') ∧ W.cell? ⟨w'.heap.size, 1, none⟩ = some (.int .i64 h') ∧ W.cell? ⟨w'.heap.size, 2, none⟩ = some (.string t') ∧ W.cell? ⟨w'.heap.size, 3, none⟩ = some (.slice B1 l'.length d1) ∧ W.cell? ⟨w'.heap.size, 4, none⟩ = some (.slice B2 ks'.length d2) ∧ W.cell? ⟨w'.heap.size, 5, none⟩ = some (.slice B3 vs'.length d3)) w2.drew from ⟨z0, z1, z2, z3, z4, z5⟩)
      have HX0 := Lib.hid (show (fun W : World => W.cell? ⟨w.heap.size + 1, 4, none⟩ = some (.slice Ak k ck) ∧ W.cell? ⟨w.heap.size + 1, 5, none⟩ = some (.slice Av k cv)) w2.drew from ⟨x4, x5⟩)
      clear z0 z1 z2 z3 z4 z5 x4 x5
      refine region_L (S := SZ (fun W : World => W.cell? ⟨w'.heap.size, 0, none⟩ = some (.int .i64 k') ∧ W.cell? ⟨w'.heap.size, 1, none⟩ = some (.int .i64 h') ∧ W.cell? ⟨w'.heap.size, 2, none⟩ = some (.string t') ∧ W.cell? ⟨w'.heap.size, 3, none⟩ = some (.slice B1 l'.length d1) ∧ W.cell? ⟨w'.heap.size, 4, none⟩ = some (.slice B2 ks'.length d2) ∧ W.cell? ⟨w'.heap.size, 5, none⟩ = some (.slice B3 vs'.length d3)) (fun W : World => W.cell? ⟨w.heap.size + 1, 4, none⟩ = some (.slice Ak k ck) ∧ W.cell? ⟨w.heap.size + 1, 5, none⟩ = some (.slice Av k cv)) 11) 14 #[false, false, false, false, false, false, false, false, false, false, false, false, false, false] rfl rfl (by kernel_rfl) ?_
      refine anyL_take (i := 0) (t := 11) (v := .pointer (some ⟨w.heap.size + 1, 4, none⟩)) rfl (by decide)  (by kernel_rfl) (by kernel_rfl) (by kernel_rfl) (fun _ _ _ h => h) (Or.inl ⟨by rfl, ?_⟩) HZ0.out HX0.out ?_
      · intro W hSw
        clear hSw
        go_simp
      simp only [List.getElem_toArray, List.getElem_cons_zero, List.getElem_cons_succ, Act.put, List.setIfInBounds_toArray, List.set_cons_zero, List.set_cons_succ]
      refine anyL_take (i := 2) (t := 11) (v := .string s) rfl (by decide)  (by kernel_rfl) (by kernel_rfl) (by kernel_rfl) (fun _ _ _ h => h) (Or.inl ⟨by rfl, ?_⟩) HZ0.out HX0.out ?_
      · intro W hSw
        clear hSw
        go_simp
      simp only [List.getElem_toArray, List.getElem_cons_zero, List.getElem_cons_succ, Act.put, List.setIfInBounds_toArray, List.set_cons_zero, List.set_cons_succ]
      refine anyL_take (i := 5) (t := 11) (v := .pointer (some ⟨w.heap.size + 1, 5, none⟩)) rfl (by decide)  (by kernel_rfl) (by kernel_rfl) (by kernel_rfl) (fun _ _ _ h => h) (Or.inl ⟨by rfl, ?_⟩) HZ0.out HX0.out ?_
      · intro W hSw
        clear hSw
        go_simp
      simp only [List.getElem_toArray, List.getElem_cons_zero, List.getElem_cons_succ, Act.put, List.setIfInBounds_toArray, List.set_cons_zero, List.set_cons_succ]
      refine anyL_take_x (i := 1) (t := 11) (v := .slice Ak k ck) rfl (by decide) rfl (by kernel_rfl) rfl (by kernel_rfl) (by kernel_rfl) (by kernel_rfl) (fun _ _ _ h => h) (Or.inl ⟨by rfl, ?_⟩) HZ0.out HX0.out ?_
      · intro W hSw
        obtain ⟨s0, s1⟩ := hSw
        go_simp
      simp only [List.getElem_toArray, List.getElem_cons_zero, List.getElem_cons_succ, Act.put, List.setIfInBounds_toArray, List.set_cons_zero, List.set_cons_succ]
      refine anyL_take_x (i := 6) (t := 11) (v := .slice Av k cv) rfl (by decide) rfl (by kernel_rfl) rfl (by kernel_rfl) (by kernel_rfl) (by kernel_rfl) (fun _ _ _ h => h) (Or.inl ⟨by rfl, ?_⟩) HZ0.out HX0.out ?_
      · intro W hSw
        obtain ⟨s0, s1⟩ := hSw
        go_simp
      simp only [List.getElem_toArray, List.getElem_cons_zero, List.getElem_cons_succ, Act.put, List.setIfInBounds_toArray, List.set_cons_zero, List.set_cons_succ]
      refine anyL_take (i := 7) (t := 11) (v := .agg #[.int .i64 k', .int .i64 h', .string t', .slice B1 l'.length d1, .slice B2 ks'.length d2, .slice B3 vs'.length d3]) rfl (by decide)  (by kernel_rfl) (by kernel_rfl) (by kernel_rfl) (fun _ _ _ h => h) (Or.inl ⟨by rfl, ?_⟩) HZ0.out HX0.out ?_
      · intro W hSw
        obtain ⟨s0, s1, s2, s3, s4, s5⟩ := hSw
        go_simp
      simp only [List.getElem_toArray, List.getElem_cons_zero, List.getElem_cons_succ, Act.put, List.setIfInBounds_toArray, List.set_cons_zero, List.set_cons_succ]
      have HNE := Lib.hid (show w'.heap.size ≠ w.heap.size + 1 by omega)
      refine anyL_two (i := 3) (k := 8) (by kernel_rfl) ?_ ?_
      · refine wpOp_go (i := 3) rfl (by rfl) ?_
        intro K hK
        simp only [List.getElem_toArray, List.getElem_cons_zero, List.getElem_cons_succ]
        go_simp
        refine hK.out _ _ ⟨lays_SZ (((show Below w2.heap.size w2 _ by repeat (first | with_reducible exact Below.refl _ _ | with_reducible apply Below.drew | with_reducible refine Below.alloc ?_ (by (try simp); (try omega)) _)).block _ (heap_lt HOUT2.out)).trans HOUT2.out) (((show Below w2.heap.size w2 _ by repeat (first | with_reducible exact Below.refl _ _ | with_reducible apply Below.drew | with_reducible refine Below.alloc ?_ (by (try simp); (try omega)) _)).block _ (heap_lt HZ2.out)).trans HZ2.out) _ _, ?_⟩
        clear hK K
        simp only [List.getElem_toArray, List.getElem_cons_zero, List.getElem_cons_succ, Act.put, List.setIfInBounds_toArray, List.set_cons_zero, List.set_cons_succ]
        refine anyL_two (i := 4) (k := 8) (by kernel_rfl) ?_ ?_
        · refine wpOp_go (i := 4) rfl (by rfl) ?_
          intro K hK
          simp only [List.getElem_toArray, List.getElem_cons_zero, List.getElem_cons_succ]
          refine wp_append_Own (ok := fun _ => False) kS 9 w1.heap.size (.tmp 29) (.tmp 31) 24 (by rfl) i9 (.string ⟨#[]⟩) 16 Tryz.underlying24 HI9.out HZ9.out HS9.out HB9.out rfl (by decide) (.slice Ak k ck) (ks.take k) (by rfl) ?_ ⟨w2.heap.size, 0, none⟩ 1 [.string s] s (by rfl) (one_new (t := 9) (fz := (0, 0)) ?_) rfl HB1k.out HB2k.out ?_ ?_
          · repeat (first | with_reducible exact HKO2.out | with_reducible apply Own.drew | with_reducible apply Own.alloc)
          · exact heap_alloc_new _ _
          · (try simp); omega
          intro v3 w3 hown3 hgr3 hat3
          have hg3 : w2.grownBy w3 (Value.slice Ak k ck).ownBlock := by
            refine grow_block ?_ hgr3
            repeat (first | with_reducible exact Below.refl _ _ | with_reducible apply Below.drew | with_reducible refine Below.alloc ?_ (by (try simp); (try omega)) _)
          have hat3' : v3.ownBlock = (Value.slice Ak k ck).ownBlock ∨ ∃ g, v3.ownBlock = some g ∧ w2.heap.size ≤ g := hat3.imp id (fun h => ⟨_, h, by (try simp); (try omega)⟩)
          obtain ⟨A3, c3, hve3, hle3⟩ := hown3.form
          rw [HKL1.out] at hve3 hle3
          subst hve3
          have hout3 := (hg3.block _ HL1.out (HNOK.out _ (.inl HL2.out))).trans HOUT2.out
          have hzz3 := (hg3.block _ HL3.out (HNOK.out _ (.inr HL4.out))).trans HZ2.out
          have hs3 := hg3.size
          have HVO3 := Lib.hid (HVO2.out.grown hg3 HDIS.out (fun b hb => hb.1.2))
          have HVR3 := Lib.hid (HVR2.out.grown hg3 (fun b hb => hb.1.1.2))
          have HKO3 := Lib.hid hown3
          have HA3 := Lib.hid hat3'
          have HG3 := Lib.hid hg3

          have HOUT3 := Lib.hid hout3
          have HZZ3 := Lib.hid hzz3
          clear hgr3 hat3 hown3 hg3 hat3' hout3 hzz3
          refine hK.out _ _ ⟨lays_SZ HOUT3.out HZZ3.out _ _, ?_⟩
          clear hK K
          simp only [List.getElem_toArray, List.getElem_cons_zero, List.getElem_cons_succ, Act.put, List.setIfInBounds_toArray, List.set_cons_zero, List.set_cons_succ]
          refine anyL_take (i := 10) (t := 11) (v := .pointer (some ⟨w.heap.size + 1, 4, none⟩)) rfl (by decide)  (by kernel_rfl) (by kernel_rfl) (by kernel_rfl) (fun _ _ _ h => h) (Or.inl ⟨by rfl, ?_⟩) (laysZ HZZ3.out) (laysX HOUT3.out) ?_
          · intro W hSw
            clear hSw
            go_simp
          simp only [List.getElem_toArray, List.getElem_cons_zero, List.getElem_cons_succ, Act.put, List.setIfInBounds_toArray, List.set_cons_zero, List.set_cons_succ]
          refine anyL_one (i := 8) (by kernel_rfl) ?_
          refine wpOp_go (i := 8) rfl (by rfl) ?_
          intro K hK
          simp only [List.getElem_toArray, List.getElem_cons_zero, List.getElem_cons_succ]
          go_simp
          refine hK.out _ _ ⟨lays_SZ (((show Below w3.heap.size w3 _ by repeat (first | with_reducible exact Below.refl _ _ | with_reducible apply Below.drew | with_reducible refine Below.alloc ?_ (by (try simp); (try omega)) _)).block _ (heap_lt HOUT3.out)).trans HOUT3.out) (((show Below w3.heap.size w3 _ by repeat (first | with_reducible exact Below.refl _ _ | with_reducible apply Below.drew | with_reducible refine Below.alloc ?_ (by (try simp); (try omega)) _)).block _ (heap_lt HZZ3.out)).trans HZZ3.out) _ _, ?_⟩
          clear hK K
          simp only [List.getElem_toArray, List.getElem_cons_zero, List.getElem_cons_succ, Act.put, List.setIfInBounds_toArray, List.set_cons_zero, List.set_cons_succ]
          refine anyL_one (i := 9) (by kernel_rfl) ?_
          refine wpOp_go (i := 9) rfl (by rfl) ?_
          intro K hK
          simp only [List.getElem_toArray, List.getElem_cons_zero, List.getElem_cons_succ]
          refine wp_append_Own (ok := fun b => (w1.heap.size ≤ b ∧ some b ≠ (Value.slice Ak k ck).ownBlock) ∧ b < w2.heap.size) kV 26 w1.heap.size (.tmp 34) (.tmp 36) 23 (by rfl) i0 (.agg #[.int .i64 0, .int .i64 0, .string ⟨#[]⟩, .slice none 0 0, .slice none 0 0, .slice none 0 0]) 104 Tryz.underlying23 HI.out HZ.out HS.out HB.out rfl (by decide) (.slice Av k cv) ((J.vs vs).take k) (by rfl) ?_ ⟨w3.heap.size, 0, none⟩ 1 [.int .i64 k', .int .i64 h', .string t', .slice B1 l'.length d1, .slice B2 ks'.length d2, .slice B3 vs'.length d3] j.v (by rfl) (cells_six (t := 26) (fz := (0, 0)) ?_) ?_ HB1v.out HB2v.out ?_ ?_
          · repeat (first | with_reducible exact HVO3.out | with_reducible apply Own.drew | with_reducible apply Own.alloc)
          · exact heap_alloc_new _ _
          · exact Vr.keep (by repeat (first | with_reducible exact Below.refl _ _ | with_reducible apply Below.drew | with_reducible refine Below.alloc ?_ (by (try simp); (try omega)) _)) HVR3.out
          · (try simp); omega
          intro v4 w4 hown4 hgr4 hat4
          have hg4 : w3.grownBy w4 (Value.slice Av k cv).ownBlock := by
            refine grow_block ?_ hgr4
            repeat (first | with_reducible exact Below.refl _ _ | with_reducible apply Below.drew | with_reducible refine Below.alloc ?_ (by (try simp); (try omega)) _)
          have hat4' : v4.ownBlock = (Value.slice Av k cv).ownBlock ∨ ∃ g, v4.ownBlock = some g ∧ w3.heap.size ≤ g := hat4.imp id (fun h => ⟨_, h, by (try simp); (try omega)⟩)
          obtain ⟨A4, c4, hve4, hle4⟩ := hown4.form
          rw [HVL1.out] at hve4 hle4
          subst hve4
          have hout4 := (hg4.block _ (heap_lt HOUT3.out) (HNOV.out _ (.inl HL2.out))).trans HOUT3.out
          have hzz4 := (hg4.block _ (heap_lt HZZ3.out) (HNOV.out _ (.inr HL4.out))).trans HZZ3.out
          have y4 : w4.cell? ⟨w.heap.size + 1, 4, none⟩ = some (.slice Ak k ck) := (laysX hout4).1
          have y5 : w4.cell? ⟨w.heap.size + 1, 5, none⟩ = some (.slice Av k cv) := (laysX hout4).2
          have yf : ∀ i, w4.frozen? ⟨w.heap.size + 1, i, none⟩ = false := fun i => by simp [World.frozen?, hout4]
          have HF := Lib.hid (MFrom.step HBEL2.out HSZ2.out HKEPT2.out HL2.out HG3.out hg4 HK0.out HV0.out HDIS.out HSS.out HJL.out HKO3.out HA3.out hown4 hat4' hout4)
          have HOUT4 := Lib.hid hout4
          have HZZ4 := Lib.hid hzz4
          clear hgr4 hat4 hown4 hg4 hat4' hout4 hzz4
          refine hK.out _ _ ⟨lays_SZ HOUT4.out HZZ4.out _ _, ?_⟩
          clear hK K
          simp only [List.getElem_toArray, List.getElem_cons_zero, List.getElem_cons_succ, Act.put, List.setIfInBounds_toArray, List.set_cons_zero, List.set_cons_succ]
          refine anyL_one (i := 11) (by kernel_rfl) ?_
          refine wpOp_go (i := 11) rfl (by rfl) ?_
          intro K hK
          simp only [List.getElem_toArray, List.getElem_cons_zero, List.getElem_cons_succ]
          go_simp
          refine hK.out _ _ ⟨⟨laysZ ((Below.heap_setCell _ _ _ _ HNE.out).trans HZZ4.out), .inl rfl⟩, ?_⟩
          clear hK K
          simp only [List.getElem_toArray, List.getElem_cons_zero, List.getElem_cons_succ, Act.put, List.setIfInBounds_toArray, List.set_cons_zero, List.set_cons_succ]
          refine anyL_take_z (i := 12) (t := 11) (v := .pointer (some ⟨w.heap.size + 1, 5, none⟩)) rfl (by decide) (by kernel_rfl) (by kernel_rfl) (by kernel_rfl) (fun _ _ _ h => h) (Or.inl ⟨by rfl, ?_⟩) (laysZ ((Below.heap_setCell _ _ _ _ HNE.out).trans HZZ4.out)) rfl ?_
          · intro W hSw
            clear hSw
            go_simp
          simp only [List.getElem_toArray, List.getElem_cons_zero, List.getElem_cons_succ, Act.put, List.setIfInBounds_toArray, List.set_cons_zero, List.set_cons_succ]
          refine anyL_one (i := 13) (by kernel_rfl) ?_
          refine wpOp_go (i := 13) rfl (by rfl) ?_
          intro K hK
          simp only [List.getElem_toArray, List.getElem_cons_zero, List.getElem_cons_succ]
          go_simp
          refine hK.out _ _ ⟨⟨laysZ ((Below.heap_setCell _ _ _ _ HNE.out).trans ((Below.heap_setCell _ _ _ _ HNE.out).trans HZZ4.out)), .inl rfl⟩, ?_⟩
          clear hK K
          simp only [List.getElem_toArray, List.getElem_cons_zero, List.getElem_cons_succ, Act.put, List.setIfInBounds_toArray, List.set_cons_zero, List.set_cons_succ]
          refine anyL_done (by kernel_rfl) ?_ _
          refine NoPanic.normal ?_
          clear HVO2 HVR2 HKO2 HOUT2 HZ2 HNOK HNOV HDIS HL1 HL2 HL3 HL4 HL5 HL6 HK0 HV0 HBEL2 HSZ2 HKEPT2 HOUT' HKO' HVO' HKEPT' HVR HOUT HKO HVO HKEPT
          go_wp2_with fail
          go_roundw
          case rel => exact ⟨k + 1, by omega, by go_num, HF.out⟩
          case measure => simp [intOf]; omega
        · refine wpOp_go (i := 8) rfl (by rfl) ?_
          intro K hK
          simp only [List.getElem_toArray, List.getElem_cons_zero, List.getElem_cons_succ]
          go_simp
          refine hK.out _ _ ⟨lays_SZ (((show Below w2.heap.size w2 _ by repeat (first | with_reducible exact Below.refl _ _ | with_reducible apply Below.drew | with_reducible refine Below.alloc ?_ (by (try simp); (try omega)) _)).block _ (heap_lt HOUT2.out)).trans HOUT2.out) (((show Below w2.heap.size w2 _ by repeat (first | with_reducible exact Below.refl _ _ | with_reducible apply Below.drew | with_reducible refine Below.alloc ?_ (by (try simp); (try omega)) _)).block _ (heap_lt HZ2.out)).trans HZ2.out) _ _, ?_⟩
          clear hK K
          simp only [List.getElem_toArray, List.getElem_cons_zero, List.getElem_cons_succ, Act.put, List.setIfInBounds_toArray, List.set_cons_zero, List.set_cons_succ]
          refine anyL_one (i := 4) (by kernel_rfl) ?_
          refine wpOp_go (i := 4) rfl (by rfl) ?_
          intro K hK
          simp only [List.getElem_toArray, List.getElem_cons_zero, List.getElem_cons_succ]
          refine wp_append_Own (ok := fun _ => False) kS 9 w1.heap.size (.tmp 29) (.tmp 31) 24 (by rfl) i9 (.string ⟨#[]⟩) 16 Tryz.underlying24 HI9.out HZ9.out HS9.out HB9.out rfl (by decide) (.slice Ak k ck) (ks.take k) (by rfl) ?_ ⟨w2.heap.size, 0, none⟩ 1 [.string s] s (by rfl) (one_new (t := 9) (fz := (0, 0)) ?_) rfl HB1k.out HB2k.out ?_ ?_
          · repeat (first | with_reducible exact HKO2.out | with_reducible apply Own.drew | with_reducible apply Own.alloc)
          · exact (Below.heap_alloc _ _ _ (by simp)).trans (heap_alloc_new _ _)
          · (try simp); omega
          intro v3 w3 hown3 hgr3 hat3
          have hg3 : w2.grownBy w3 (Value.slice Ak k ck).ownBlock := by
            refine grow_block ?_ hgr3
            repeat (first | with_reducible exact Below.refl _ _ | with_reducible apply Below.drew | with_reducible refine Below.alloc ?_ (by (try simp); (try omega)) _)
          have hat3' : v3.ownBlock = (Value.slice Ak k ck).ownBlock ∨ ∃ g, v3.ownBlock = some g ∧ w2.heap.size ≤ g := hat3.imp id (fun h => ⟨_, h, by (try simp); (try omega)⟩)
          obtain ⟨A3, c3, hve3, hle3⟩ := hown3.form
          rw [HKL1.out] at hve3 hle3
          subst hve3
          have hout3 := (hg3.block _ HL1.out (HNOK.out _ (.inl HL2.out))).trans HOUT2.out
          have hzz3 := (hg3.block _ HL3.out (HNOK.out _ (.inr HL4.out))).trans HZ2.out
          have hs3 := hg3.size
          have HVO3 := Lib.hid (HVO2.out.grown hg3 HDIS.out (fun b hb => hb.1.2))
          have HVR3 := Lib.hid (HVR2.out.grown hg3 (fun b hb => hb.1.1.2))
          have HKO3 := Lib.hid hown3
          have HA3 := Lib.hid hat3'
          have HG3 := Lib.hid hg3
          have hsm3 : w3.heap[w2.heap.size + 1]? = some (.cells #[.int .i64 k', .int .i64 h', .string t', .slice B1 l'.length d1, .slice B2 ks'.length d2, .slice B3 vs'.length d3] 26) := by
            have hh := heap_alloc_new (w2.alloc (.cells #[.string s] 9)) (.cells #[.int .i64 k', .int .i64 h', .string t', .slice B1 l'.length d1, .slice B2 ks'.length d2, .slice B3 vs'.length d3] 26)
            refine (hgr3.block (w2.heap.size + 1) (by (try simp); (try omega)) (HNOK.out _ (.inr HL5.out))).trans ?_
            rw [show (w2.alloc (.cells #[.string s] 9)).heap.size = w2.heap.size + 1 from by simp] at hh
            exact hh
          have HOUT3 := Lib.hid hout3
          have HZZ3 := Lib.hid hzz3
          clear hgr3 hat3 hown3 hg3 hat3' hout3 hzz3
          refine hK.out _ _ ⟨lays_SZ HOUT3.out HZZ3.out _ _, ?_⟩
          clear hK K
          simp only [List.getElem_toArray, List.getElem_cons_zero, List.getElem_cons_succ, Act.put, List.setIfInBounds_toArray, List.set_cons_zero, List.set_cons_succ]
          refine anyL_take (i := 10) (t := 11) (v := .pointer (some ⟨w.heap.size + 1, 4, none⟩)) rfl (by decide)  (by kernel_rfl) (by kernel_rfl) (by kernel_rfl) (fun _ _ _ h => h) (Or.inl ⟨by rfl, ?_⟩) (laysZ HZZ3.out) (laysX HOUT3.out) ?_
          · intro W hSw
            clear hSw
            go_simp
          simp only [List.getElem_toArray, List.getElem_cons_zero, List.getElem_cons_succ, Act.put, List.setIfInBounds_toArray, List.set_cons_zero, List.set_cons_succ]
          refine anyL_one (i := 9) (by kernel_rfl) ?_
          refine wpOp_go (i := 9) rfl (by rfl) ?_
          intro K hK
          simp only [List.getElem_toArray, List.getElem_cons_zero, List.getElem_cons_succ]
          refine wp_append_Own (ok := fun b => (w1.heap.size ≤ b ∧ some b ≠ (Value.slice Ak k ck).ownBlock) ∧ b < w2.heap.size) kV 26 w1.heap.size (.tmp 34) (.tmp 36) 23 (by rfl) i0 (.agg #[.int .i64 0, .int .i64 0, .string ⟨#[]⟩, .slice none 0 0, .slice none 0 0, .slice none 0 0]) 104 Tryz.underlying23 HI.out HZ.out HS.out HB.out rfl (by decide) (.slice Av k cv) ((J.vs vs).take k) (by rfl) ?_ ⟨w2.heap.size + 1, 0, none⟩ 1 [.int .i64 k', .int .i64 h', .string t', .slice B1 l'.length d1, .slice B2 ks'.length d2, .slice B3 vs'.length d3] j.v (by rfl) (cells_six (t := 26) (fz := (0, 0)) ?_) ?_ HB1v.out HB2v.out ?_ ?_
          · repeat (first | with_reducible exact HVO3.out | with_reducible apply Own.drew | with_reducible apply Own.alloc)
          · exact hsm3
          · exact Vr.keep (by repeat (first | with_reducible exact Below.refl _ _ | with_reducible apply Below.drew | with_reducible refine Below.alloc ?_ (by (try simp); (try omega)) _)) HVR3.out
          · (try simp); omega
          intro v4 w4 hown4 hgr4 hat4
          have hg4 : w3.grownBy w4 (Value.slice Av k cv).ownBlock := by
            refine grow_block ?_ hgr4
            repeat (first | with_reducible exact Below.refl _ _ | with_reducible apply Below.drew | with_reducible refine Below.alloc ?_ (by (try simp); (try omega)) _)
          have hat4' : v4.ownBlock = (Value.slice Av k cv).ownBlock ∨ ∃ g, v4.ownBlock = some g ∧ w3.heap.size ≤ g := hat4.imp id (fun h => ⟨_, h, by (try simp); (try omega)⟩)
          obtain ⟨A4, c4, hve4, hle4⟩ := hown4.form
          rw [HVL1.out] at hve4 hle4
          subst hve4
          have hout4 := (hg4.block _ (heap_lt HOUT3.out) (HNOV.out _ (.inl HL2.out))).trans HOUT3.out
          have hzz4 := (hg4.block _ (heap_lt HZZ3.out) (HNOV.out _ (.inr HL4.out))).trans HZZ3.out
          have y4 : w4.cell? ⟨w.heap.size + 1, 4, none⟩ = some (.slice Ak k ck) := (laysX hout4).1
          have y5 : w4.cell? ⟨w.heap.size + 1, 5, none⟩ = some (.slice Av k cv) := (laysX hout4).2
          have yf : ∀ i, w4.frozen? ⟨w.heap.size + 1, i, none⟩ = false := fun i => by simp [World.frozen?, hout4]
          have HF := Lib.hid (MFrom.step HBEL2.out HSZ2.out HKEPT2.out HL2.out HG3.out hg4 HK0.out HV0.out HDIS.out HSS.out HJL.out HKO3.out HA3.out hown4 hat4' hout4)
          have HOUT4 := Lib.hid hout4
          have HZZ4 := Lib.hid hzz4
          clear hgr4 hat4 hown4 hg4 hat4' hout4 hzz4
          refine hK.out _ _ ⟨lays_SZ HOUT4.out HZZ4.out _ _, ?_⟩
          clear hK K
          simp only [List.getElem_toArray, List.getElem_cons_zero, List.getElem_cons_succ, Act.put, List.setIfInBounds_toArray, List.set_cons_zero, List.set_cons_succ]
          refine anyL_one (i := 11) (by kernel_rfl) ?_
          refine wpOp_go (i := 11) rfl (by rfl) ?_
          intro K hK
          simp only [List.getElem_toArray, List.getElem_cons_zero, List.getElem_cons_succ]
          go_simp
          refine hK.out _ _ ⟨⟨laysZ ((Below.heap_setCell _ _ _ _ HNE.out).trans HZZ4.out), .inl rfl⟩, ?_⟩
          clear hK K
          simp only [List.getElem_toArray, List.getElem_cons_zero, List.getElem_cons_succ, Act.put, List.setIfInBounds_toArray, List.set_cons_zero, List.set_cons_succ]
          refine anyL_take_z (i := 12) (t := 11) (v := .pointer (some ⟨w.heap.size + 1, 5, none⟩)) rfl (by decide) (by kernel_rfl) (by kernel_rfl) (by kernel_rfl) (fun _ _ _ h => h) (Or.inl ⟨by rfl, ?_⟩) (laysZ ((Below.heap_setCell _ _ _ _ HNE.out).trans HZZ4.out)) rfl ?_
          · intro W hSw
            clear hSw
            go_simp
          simp only [List.getElem_toArray, List.getElem_cons_zero, List.getElem_cons_succ, Act.put, List.setIfInBounds_toArray, List.set_cons_zero, List.set_cons_succ]
          refine anyL_one (i := 13) (by kernel_rfl) ?_
          refine wpOp_go (i := 13) rfl (by rfl) ?_
          intro K hK
          simp only [List.getElem_toArray, List.getElem_cons_zero, List.getElem_cons_succ]
          go_simp
          refine hK.out _ _ ⟨⟨laysZ ((Below.heap_setCell _ _ _ _ HNE.out).trans ((Below.heap_setCell _ _ _ _ HNE.out).trans HZZ4.out)), .inl rfl⟩, ?_⟩
          clear hK K
          simp only [List.getElem_toArray, List.getElem_cons_zero, List.getElem_cons_succ, Act.put, List.setIfInBounds_toArray, List.set_cons_zero, List.set_cons_succ]
          refine anyL_done (by kernel_rfl) ?_ _
          refine NoPanic.normal ?_
          clear HVO2 HVR2 HKO2 HOUT2 HZ2 HNOK HNOV HDIS HL1 HL2 HL3 HL4 HL5 HL6 HK0 HV0 HBEL2 HSZ2 HKEPT2 HOUT' HKO' HVO' HKEPT' HVR HOUT HKO HVO HKEPT
          go_wp2_with fail
          go_roundw
          case rel => exact ⟨k + 1, by omega, by go_num, HF.out⟩
          case measure => simp [intOf]; omega
      · refine wpOp_go (i := 8) rfl (by rfl) ?_
        intro K hK
        simp only [List.getElem_toArray, List.getElem_cons_zero, List.getElem_cons_succ]
        go_simp
        refine hK.out _ _ ⟨lays_SZ (((show Below w2.heap.size w2 _ by repeat (first | with_reducible exact Below.refl _ _ | with_reducible apply Below.drew | with_reducible refine Below.alloc ?_ (by (try simp); (try omega)) _)).block _ (heap_lt HOUT2.out)).trans HOUT2.out) (((show Below w2.heap.size w2 _ by repeat (first | with_reducible exact Below.refl _ _ | with_reducible apply Below.drew | with_reducible refine Below.alloc ?_ (by (try simp); (try omega)) _)).block _ (heap_lt HZ2.out)).trans HZ2.out) _ _, ?_⟩
        clear hK K
        simp only [List.getElem_toArray, List.getElem_cons_zero, List.getElem_cons_succ, Act.put, List.setIfInBounds_toArray, List.set_cons_zero, List.set_cons_succ]
        refine anyL_one (i := 3) (by kernel_rfl) ?_
        refine wpOp_go (i := 3) rfl (by rfl) ?_
        intro K hK
        simp only [List.getElem_toArray, List.getElem_cons_zero, List.getElem_cons_succ]
        go_simp
        refine hK.out _ _ ⟨lays_SZ (((show Below w2.heap.size w2 _ by repeat (first | with_reducible exact Below.refl _ _ | with_reducible apply Below.drew | with_reducible refine Below.alloc ?_ (by (try simp); (try omega)) _)).block _ (heap_lt HOUT2.out)).trans HOUT2.out) (((show Below w2.heap.size w2 _ by repeat (first | with_reducible exact Below.refl _ _ | with_reducible apply Below.drew | with_reducible refine Below.alloc ?_ (by (try simp); (try omega)) _)).block _ (heap_lt HZ2.out)).trans HZ2.out) _ _, ?_⟩
        clear hK K
        simp only [List.getElem_toArray, List.getElem_cons_zero, List.getElem_cons_succ, Act.put, List.setIfInBounds_toArray, List.set_cons_zero, List.set_cons_succ]
        refine anyL_one (i := 4) (by kernel_rfl) ?_
        refine wpOp_go (i := 4) rfl (by rfl) ?_
        intro K hK
        simp only [List.getElem_toArray, List.getElem_cons_zero, List.getElem_cons_succ]
        refine wp_append_Own (ok := fun _ => False) kS 9 w1.heap.size (.tmp 29) (.tmp 31) 24 (by rfl) i9 (.string ⟨#[]⟩) 16 Tryz.underlying24 HI9.out HZ9.out HS9.out HB9.out rfl (by decide) (.slice Ak k ck) (ks.take k) (by rfl) ?_ ⟨w2.heap.size + 1, 0, none⟩ 1 [.string s] s (by rfl) (one_new (t := 9) (fz := (0, 0)) ?_) rfl HB1k.out HB2k.out ?_ ?_
        · repeat (first | with_reducible exact HKO2.out | with_reducible apply Own.drew | with_reducible apply Own.alloc)
        · have hh := heap_alloc_new (w2.alloc (.cells #[.int .i64 k', .int .i64 h', .string t', .slice B1 l'.length d1, .slice B2 ks'.length d2, .slice B3 vs'.length d3] 26)) (.cells #[.string s] 9)
          rw [show (w2.alloc (.cells #[.int .i64 k', .int .i64 h', .string t', .slice B1 l'.length d1, .slice B2 ks'.length d2, .slice B3 vs'.length d3] 26)).heap.size = w2.heap.size + 1 from by simp] at hh
          exact hh
        · (try simp); omega
        intro v3 w3 hown3 hgr3 hat3
        have hg3 : w2.grownBy w3 (Value.slice Ak k ck).ownBlock := by
          refine grow_block ?_ hgr3
          repeat (first | with_reducible exact Below.refl _ _ | with_reducible apply Below.drew | with_reducible refine Below.alloc ?_ (by (try simp); (try omega)) _)
        have hat3' : v3.ownBlock = (Value.slice Ak k ck).ownBlock ∨ ∃ g, v3.ownBlock = some g ∧ w2.heap.size ≤ g := hat3.imp id (fun h => ⟨_, h, by (try simp); (try omega)⟩)
        obtain ⟨A3, c3, hve3, hle3⟩ := hown3.form
        rw [HKL1.out] at hve3 hle3
        subst hve3
        have hout3 := (hg3.block _ HL1.out (HNOK.out _ (.inl HL2.out))).trans HOUT2.out
        have hzz3 := (hg3.block _ HL3.out (HNOK.out _ (.inr HL4.out))).trans HZ2.out
        have hs3 := hg3.size
        have HVO3 := Lib.hid (HVO2.out.grown hg3 HDIS.out (fun b hb => hb.1.2))
        have HVR3 := Lib.hid (HVR2.out.grown hg3 (fun b hb => hb.1.1.2))
        have HKO3 := Lib.hid hown3
        have HA3 := Lib.hid hat3'
        have HG3 := Lib.hid hg3
        have hsm3 : w3.heap[w2.heap.size]? = some (.cells #[.int .i64 k', .int .i64 h', .string t', .slice B1 l'.length d1, .slice B2 ks'.length d2, .slice B3 vs'.length d3] 26) := by
          have hh := heap_alloc_new w2 (.cells #[.int .i64 k', .int .i64 h', .string t', .slice B1 l'.length d1, .slice B2 ks'.length d2, .slice B3 vs'.length d3] 26)
          refine (hgr3.block w2.heap.size (by (try simp); (try omega)) (HNOK.out _ (.inr HL6.out))).trans ?_
          exact (Below.heap_alloc _ _ _ (by simp)).trans hh
        have HOUT3 := Lib.hid hout3
        have HZZ3 := Lib.hid hzz3
        clear hgr3 hat3 hown3 hg3 hat3' hout3 hzz3
        refine hK.out _ _ ⟨lays_SZ HOUT3.out HZZ3.out _ _, ?_⟩
        clear hK K
        simp only [List.getElem_toArray, List.getElem_cons_zero, List.getElem_cons_succ, Act.put, List.setIfInBounds_toArray, List.set_cons_zero, List.set_cons_succ]
        refine anyL_take (i := 10) (t := 11) (v := .pointer (some ⟨w.heap.size + 1, 4, none⟩)) rfl (by decide)  (by kernel_rfl) (by kernel_rfl) (by kernel_rfl) (fun _ _ _ h => h) (Or.inl ⟨by rfl, ?_⟩) (laysZ HZZ3.out) (laysX HOUT3.out) ?_
        · intro W hSw
          clear hSw
          go_simp
        simp only [List.getElem_toArray, List.getElem_cons_zero, List.getElem_cons_succ, Act.put, List.setIfInBounds_toArray, List.set_cons_zero, List.set_cons_succ]
        refine anyL_one (i := 9) (by kernel_rfl) ?_
        refine wpOp_go (i := 9) rfl (by rfl) ?_
        intro K hK
        simp only [List.getElem_toArray, List.getElem_cons_zero, List.getElem_cons_succ]
        refine wp_append_Own (ok := fun b => (w1.heap.size ≤ b ∧ some b ≠ (Value.slice Ak k ck).ownBlock) ∧ b < w2.heap.size) kV 26 w1.heap.size (.tmp 34) (.tmp 36) 23 (by rfl) i0 (.agg #[.int .i64 0, .int .i64 0, .string ⟨#[]⟩, .slice none 0 0, .slice none 0 0, .slice none 0 0]) 104 Tryz.underlying23 HI.out HZ.out HS.out HB.out rfl (by decide) (.slice Av k cv) ((J.vs vs).take k) (by rfl) ?_ ⟨w2.heap.size, 0, none⟩ 1 [.int .i64 k', .int .i64 h', .string t', .slice B1 l'.length d1, .slice B2 ks'.length d2, .slice B3 vs'.length d3] j.v (by rfl) (cells_six (t := 26) (fz := (0, 0)) ?_) ?_ HB1v.out HB2v.out ?_ ?_
        · repeat (first | with_reducible exact HVO3.out | with_reducible apply Own.drew | with_reducible apply Own.alloc)
        · exact hsm3
        · exact Vr.keep (by repeat (first | with_reducible exact Below.refl _ _ | with_reducible apply Below.drew | with_reducible refine Below.alloc ?_ (by (try simp); (try omega)) _)) HVR3.out
        · (try simp); omega
        intro v4 w4 hown4 hgr4 hat4
        have hg4 : w3.grownBy w4 (Value.slice Av k cv).ownBlock := by
          refine grow_block ?_ hgr4
          repeat (first | with_reducible exact Below.refl _ _ | with_reducible apply Below.drew | with_reducible refine Below.alloc ?_ (by (try simp); (try omega)) _)
        have hat4' : v4.ownBlock = (Value.slice Av k cv).ownBlock ∨ ∃ g, v4.ownBlock = some g ∧ w3.heap.size ≤ g := hat4.imp id (fun h => ⟨_, h, by (try simp); (try omega)⟩)
        obtain ⟨A4, c4, hve4, hle4⟩ := hown4.form
        rw [HVL1.out] at hve4 hle4
        subst hve4
        have hout4 := (hg4.block _ (heap_lt HOUT3.out) (HNOV.out _ (.inl HL2.out))).trans HOUT3.out
        have hzz4 := (hg4.block _ (heap_lt HZZ3.out) (HNOV.out _ (.inr HL4.out))).trans HZZ3.out
        have y4 : w4.cell? ⟨w.heap.size + 1, 4, none⟩ = some (.slice Ak k ck) := (laysX hout4).1
        have y5 : w4.cell? ⟨w.heap.size + 1, 5, none⟩ = some (.slice Av k cv) := (laysX hout4).2
        have yf : ∀ i, w4.frozen? ⟨w.heap.size + 1, i, none⟩ = false := fun i => by simp [World.frozen?, hout4]
        have HF := Lib.hid (MFrom.step HBEL2.out HSZ2.out HKEPT2.out HL2.out HG3.out hg4 HK0.out HV0.out HDIS.out HSS.out HJL.out HKO3.out HA3.out hown4 hat4' hout4)
        have HOUT4 := Lib.hid hout4
        have HZZ4 := Lib.hid hzz4
        clear hgr4 hat4 hown4 hg4 hat4' hout4 hzz4
        refine hK.out _ _ ⟨lays_SZ HOUT4.out HZZ4.out _ _, ?_⟩
        clear hK K
        simp only [List.getElem_toArray, List.getElem_cons_zero, List.getElem_cons_succ, Act.put, List.setIfInBounds_toArray, List.set_cons_zero, List.set_cons_succ]
        refine anyL_one (i := 11) (by kernel_rfl) ?_
        refine wpOp_go (i := 11) rfl (by rfl) ?_
        intro K hK
        simp only [List.getElem_toArray, List.getElem_cons_zero, List.getElem_cons_succ]
        go_simp
        refine hK.out _ _ ⟨⟨laysZ ((Below.heap_setCell _ _ _ _ HNE.out).trans HZZ4.out), .inl rfl⟩, ?_⟩
        clear hK K
        simp only [List.getElem_toArray, List.getElem_cons_zero, List.getElem_cons_succ, Act.put, List.setIfInBounds_toArray, List.set_cons_zero, List.set_cons_succ]
        refine anyL_take_z (i := 12) (t := 11) (v := .pointer (some ⟨w.heap.size + 1, 5, none⟩)) rfl (by decide) (by kernel_rfl) (by kernel_rfl) (by kernel_rfl) (fun _ _ _ h => h) (Or.inl ⟨by rfl, ?_⟩) (laysZ ((Below.heap_setCell _ _ _ _ HNE.out).trans HZZ4.out)) rfl ?_
        · intro W hSw
          clear hSw
          go_simp
        simp only [List.getElem_toArray, List.getElem_cons_zero, List.getElem_cons_succ, Act.put, List.setIfInBounds_toArray, List.set_cons_zero, List.set_cons_succ]
        refine anyL_one (i := 13) (by kernel_rfl) ?_
        refine wpOp_go (i := 13) rfl (by rfl) ?_
        intro K hK
        simp only [List.getElem_toArray, List.getElem_cons_zero, List.getElem_cons_succ]
        go_simp
        refine hK.out _ _ ⟨⟨laysZ ((Below.heap_setCell _ _ _ _ HNE.out).trans ((Below.heap_setCell _ _ _ _ HNE.out).trans HZZ4.out)), .inl rfl⟩, ?_⟩
        clear hK K
        simp only [List.getElem_toArray, List.getElem_cons_zero, List.getElem_cons_succ, Act.put, List.setIfInBounds_toArray, List.set_cons_zero, List.set_cons_succ]
        refine anyL_done (by kernel_rfl) ?_ _
        refine NoPanic.normal ?_
        clear HVO2 HVR2 HKO2 HOUT2 HZ2 HNOK HNOV HDIS HL1 HL2 HL3 HL4 HL5 HL6 HK0 HV0 HBEL2 HSZ2 HKEPT2 HOUT' HKO' HVO' HKEPT' HVR HOUT HKO HVO HKEPT
        go_wp2_with fail
        go_roundw
        case rel => exact ⟨k + 1, by omega, by go_num, HF.out⟩
        case measure => simp [intOf]; omega
    · have hkn : k = m := by omega
      subst hkn
      have hout' := hout
      have hr' := (hkept _ (by omega) (by have h1 := HB1.out.size; have h2 := HS0.out; simp at h1; omega)).trans HRES1.out
      have hkl : (ks.take k).length = k := by rw [List.length_take, HM.out]; omega
      have hvl : ((J.vs vs).take k).length = k := by rw [List.length_take, vs_len, HV.out]; omega
      obtain ⟨Ak, ck, hke, hkle⟩ := hko.form
      obtain ⟨Av, cv, hve, hvle⟩ := hvo.form
      rw [hkl] at hke hkle
      rw [hvl] at hve hvle
      subst hke hve
      rw [List.take_of_length_le (by rw [vs_len, HV.out]; exact Nat.le_refl _)] at hvo
      rw [List.take_of_length_le (by rw [HM.out]; exact Nat.le_refl _)] at hko
      have HKO := Lib.hid hko
      have HVO := Lib.hid hvo
      have hw1z : w.heap.size + 3 ≤ w1.heap.size := by have h1 := HB1.out.size; have h2 := HS0.out; simp at h1; omega
      have x0 : wr.cell? ⟨w.heap.size + 1, 0, none⟩ = some (.int .i64 6) := by simp [World.cell?, hout']
      have x1 : wr.cell? ⟨w.heap.size + 1, 1, none⟩ = some (.int .i64 0) := by simp [World.cell?, hout']
      have x2 : wr.cell? ⟨w.heap.size + 1, 2, none⟩ = some (.string ⟨#[]⟩) := by simp [World.cell?, hout']
      have x3 : wr.cell? ⟨w.heap.size + 1, 3, none⟩ = some (.slice none 0 0) := by simp [World.cell?, hout']
      have x4 : wr.cell? ⟨w.heap.size + 1, 4, none⟩ = some (.slice Ak k ck) := by simp [World.cell?, hout']
      have x5 : wr.cell? ⟨w.heap.size + 1, 5, none⟩ = some (.slice Av k cv) := by simp [World.cell?, hout']
      have y0 : wr.cell? ⟨w.heap.size, 0, none⟩ = some (.int .i64 0) := by simp [World.cell?, hr']
      have y1 : wr.cell? ⟨w.heap.size, 1, none⟩ = some (.int .i64 0) := by simp [World.cell?, hr']
      have y2 : wr.cell? ⟨w.heap.size, 2, none⟩ = some (.string ⟨#[]⟩) := by simp [World.cell?, hr']
      have y3 : wr.cell? ⟨w.heap.size, 3, none⟩ = some (.slice none 0 0) := by simp [World.cell?, hr']
      have y4 : wr.cell? ⟨w.heap.size, 4, none⟩ = some (.slice none 0 0) := by simp [World.cell?, hr']
      have y5 : wr.cell? ⟨w.heap.size, 5, none⟩ = some (.slice none 0 0) := by simp [World.cell?, hr']
      have yf : ∀ i, wr.frozen? ⟨w.heap.size, i, none⟩ = false := fun i => by simp [World.frozen?, hr']
      clear hout hout' hr' hko hvo hkl hvl hkept
      go_wp2_with fail
      refine bodyPost_ret (v := .tuple #[.agg #[.int .i64 6, .int .i64 0, .string ⟨#[]⟩, .slice none 0 0, .slice Ak k ck, .slice Av k cv], .bool true]) (by simp [results, Tryz.results142, go_sem, y0, y1, y2, y3, y4, y5]) rfl ?_
      refine ⟨[.int .i64 6, .int .i64 0, .string ⟨#[]⟩, .slice none 0 0, .slice Ak k ck, .slice Av k cv], rfl, ?_, ?_⟩
      · have hset : ∀ {α : Type} {d : Kn α} {e : Nat} {W : World} {ok : Nat → Prop} {v : Value} {xs : List α} (i : Nat) (u : Value), Own d e W w1.heap.size ok v xs → (∀ b, ok b → w1.heap.size ≤ b) → Own d e (W.setCell ⟨w.heap.size, i, none⟩ u) w1.heap.size ok v xs := fun i u h h' => by
          refine h.set (fun he => ?_) (fun b hb => ?_) _
          · have h : w1.heap.size ≤ w.heap.size := (h.lt _ he.symm).1
            omega
          · have := h' b hb
            show b ≠ w.heap.size
            omega
        have hk6 := hset 5 (.slice Av k cv) (hset 4 (.slice Ak k ck) (hset 3 (.slice none 0 0) (hset 2 (.string ⟨#[]⟩) (hset 1 (.int .i64 0) (hset 0 (.int .i64 6) HKO.out (fun b h => h.elim)) (fun b h => h.elim)) (fun b h => h.elim)) (fun b h => h.elim)) (fun b h => h.elim)) (fun b h => h.elim)
        have hv6 := hset 5 (.slice Av k cv) (hset 4 (.slice Ak k ck) (hset 3 (.slice none 0 0) (hset 2 (.string ⟨#[]⟩) (hset 1 (.int .i64 0) (hset 0 (.int .i64 6) HVO.out (fun b h => h.1)) (fun b h => h.1)) (fun b h => h.1)) (fun b h => h.1)) (fun b h => h.1)) (fun b h => h.1)
        exact vr_own_obj hk6 hv6 (fun b hb => by have := hb.1; omega) (fun b hb => hb.elim) (fun b hb _ => by omega) HM.out (by rw [vs_len, HV.out]) hkle hvle (by omega) hsize
      · exact (((((hbel.setCell (Nat.le_refl _) _).setCell (Nat.le_refl _) _).setCell (Nat.le_refl _) _).setCell (Nat.le_refl _) _).setCell (Nat.le_refl _) _).setCell (Nat.le_refl _) _
end Go.Proofs.YtpamlgdcnmcedaaGreatDoor
