/- impl.listFromGo. -/
import Derived.Test.YtpamlgdcnmcedaaGreatDoorG3
import Derived.Test.YtpamlgdcnmcedaaGreatDoorA
import Derived.OwnWalk
import Derived.Deep.DeepMust
set_option linter.unusedVariables false
set_option linter.unusedSimpArgs false
set_option maxRecDepth 100000
namespace Go.Proofs.YtpamlgdcnmcedaaGreatDoor
open Go Go.RowKit
theorem info26 : (Tryz.prog.info? 26).map (fun i => (i.zero, i.size, i.bytes)) = some (some (.agg #[.int .i64 0, .int .i64 0, .string ⟨#[]⟩, .slice none 0 0, .slice none 0 0, .slice none 0 0]), 6, 104) := by kernel_rfl

/-- Where the walk is to stand still. -/
structure Stop (p : Prop) : Prop where mk :: (out : p)

inductive GJ : J → Prop
  | null : GJ .null
  | bool (b : Bool) : GJ (.bool b)
  | int (n : Int) (h : -4611686018427387904 ≤ n ∧ n ≤ 4611686018427387903) : GJ (.int n)
  | hf (h : Int) (h0 : h ≠ 0) (hb : h.natAbs < 2 ^ 53) : GJ (.hf h)
  | str (s : ByteArray) (h : s.size ≤ 140737488351232) : GJ (.str s)
  | arr (l : List J) (h : l.length ≤ 1000000) (e : ∀ j, j ∈ l → GJ j) : GJ (.arr l)
  | obj (ks : List ByteArray) (vs : List J) (h : ks.length ≤ 1000000) (hl : ks.length = vs.length) (hs : sortedS ks) (hz : ∀ (i : Nat) (s : ByteArray), ks[i]? = some s → s.size ≤ 140737488351232) (e : ∀ j, j ∈ vs → GJ j) : GJ (.obj ks vs)

def FromGoPost (j : J) (w : World) (e : Ending) (w' : World) : Prop := ∃ cs, e = .returned (.tuple #[.agg (List.toArray cs), .bool true]) ∧ Vr w' (fun b => w.heap.size ≤ b) j.v cs ∧ Below w.heap.size w w'
def FromGoIH (n : Nat) : Prop := ∀ j ok x w, SizeOf.sizeOf j < n → GJ j → Jr w ok j x → Calls Tryz.prog 93 #[x] w (FromGoPost j w)

/-- The list under way. -/
structure LFrom (w : World) (k : Nat) (l : List J) (wr : World) : Prop where
  below : Below w.heap.size w wr
  res : wr.heap[w.heap.size]? = some (.cells #[.int .i64 0, .int .i64 0, .string ⟨#[]⟩, .slice none 0 0, .slice none 0 0, .slice none 0 0] 26 (0, 0))
  out : ∃ v, wr.heap[w.heap.size + 1]? = some (.cells #[.int .i64 5, .int .i64 0, .string ⟨#[]⟩, v, .slice none 0 0, .slice none 0 0] 26 (0, 0)) ∧
    Own kV 26 wr (w.heap.size + 2) (fun b => w.heap.size + 2 ≤ b) v ((J.vs l).take k)

theorem LFrom.start (w : World) (l : List J) : LFrom w 0 l ((w.alloc (.cells #[.int .i64 0, .int .i64 0, .string ⟨#[]⟩, .slice none 0 0, .slice none 0 0, .slice none 0 0] 26)).alloc (.cells #[.int .i64 5, .int .i64 0, .string ⟨#[]⟩, .slice none 0 0, .slice none 0 0, .slice none 0 0] 26)) := by
  refine ⟨((Below.refl _ _).alloc (Nat.le_refl _) _).alloc (by simp) _, (Below.heap_alloc _ _ _ (by simp)).trans (heap_alloc_new w _), ⟨.slice none 0 0, ?_, Own.nil _ _ _ _ _⟩⟩
  have := heap_alloc_new (w.alloc (.cells #[.int .i64 0, .int .i64 0, .string ⟨#[]⟩, .slice none 0 0, .slice none 0 0, .slice none 0 0] 26)) (.cells #[.int .i64 5, .int .i64 0, .string ⟨#[]⟩, .slice none 0 0, .slice none 0 0, .slice none 0 0] 26)
  simpa using this
theorem grown_below {w w' : World} {row : Option Nat} {B : Nat} (h : w.grownBy w' row) (hB : B ≤ w.heap.size) (hr : ∀ k, row = some k → B ≤ k) : Below B w w' :=
  ⟨h.os, h.tape, h.output, h.size, fun k hk => h.block k (by omega) (fun e => by have := hr k e.symm; omega)⟩
theorem cells_six {w : World} {g : Nat} {c0 c1 c2 c3 c4 c5 : Value} {t : TypeId} {fz : Nat × Nat} (h : w.heap[g]? = some (.cells #[c0, c1, c2, c3, c4, c5] t fz)) (j : Nat) (u : Value) (hu : [c0, c1, c2, c3, c4, c5][j]? = some u) : w.cell? ((⟨g, 0, none⟩ : Addr).add j) = some u := by
  match j, hu with
  | 0, hu => simp at hu; subst hu; simp [Addr.add, World.cell?, h]
  | 1, hu => simp at hu; subst hu; simp [Addr.add, World.cell?, h]
  | 2, hu => simp at hu; subst hu; simp [Addr.add, World.cell?, h]
  | 3, hu => simp at hu; subst hu; simp [Addr.add, World.cell?, h]
  | 4, hu => simp at hu; subst hu; simp [Addr.add, World.cell?, h]
  | 5, hu => simp at hu; subst hu; simp [Addr.add, World.cell?, h]
  | j + 6, hu => simp at hu
theorem vs_len (l : List J) : (J.vs l).length = l.length := by rw [J.vs_map, List.length_map]
theorem vs_get {l : List J} {i : Nat} {j : J} (h : l[i]? = some j) : (J.vs l)[i]? = some j.v := by rw [J.vs_map, List.getElem?_map, h]; rfl

theorem vr_own_list {w : World} {ok ok0 : Nat → Prop} {base k c : Nat} {A : Option Addr} {l : List V} (h : Own kV 26 w base ok0 (.slice A k c) l) (h0 : ∀ b, ok0 b → ok b) (hb : ∀ b, base ≤ b → b < w.heap.size → ok b) (hk : l.length = k) (hc : k ≤ c) (hm : k ≤ 140737488351232) :
    Vr w ok (.mk 5 0 ⟨#[]⟩ l [] []) [.int .i64 5, .int .i64 0, .string ⟨#[]⟩, .slice A k c, .slice none 0 0, .slice none 0 0] := by
  obtain ⟨f, hr, hf⟩ := h.reads h0 hb (by decide)
  subst hk
  exact .mk 5 0 ⟨#[]⟩ l [] [] A c none 0 none 0 f (fun _ => []) (by decide) hc (by simp) (by simp) hm (by simp) (by simp) (by omega) (by omega) (fun i s h => by simp at h) hr hf (fun h => by simp at h) (fun h => by simp at h) (fun i v h => by simp at h)
theorem take_next {l : List J} {k : Nat} {j : J} (h : l[k]? = some j) : (J.vs l).take k ++ [j.v] = (J.vs l).take (k + 1) := by
  rw [List.take_add_one, vs_get h]; rfl

theorem listFromGo_one (n : Nat) (ih : FromGoIH n) (l : List J) (m : Nat) (hm : l.length = m) (ok : Nat → Prop) (A : Option Addr) (c : Nat) (f : Nat → Value) (w : World)
    (hn : ∀ j, j ∈ l → SizeOf.sizeOf j < n) (hG : ∀ j, j ∈ l → GJ j) (hmax : m ≤ 1000000) (r : RowAt w ok 1 A m fun i => [f i]) (e : ∀ (i : Nat) (j : J), l[i]? = some j → Jr w ok j (f i)) :
    Calls Tryz.prog 141 #[.slice A m c] w (FromGoPost (.arr l) w) := by
  obtain ⟨i0, hi, hzz⟩ := Option.map_eq_some_iff.1 info26
  simp only [Prod.mk.injEq] at hzz
  obtain ⟨hz, hsz, hby⟩ := hzz
  have HI := Lib.hid hi
  have HZ := Lib.hid hz
  have HS := Lib.hid hsz
  have HB := Lib.hid hby
  have HM := Lib.hid hm
  clear hi hz hsz hby hm
  go_enter Tryz.func141, Tryz.ntmps141
  go_wp2_with fail
  go_loopw [12] (fun i wr => ∃ k : Nat, k ≤ m ∧ i = .int .i64 k ∧ LFrom w k l wr) (fun i _ => m - (intOf i).toNat)
  case atStart => exact ⟨0, Nat.zero_le _, rfl, LFrom.start w l⟩
  case round =>
    obtain ⟨k, hk, rfl, hrel⟩ := hrel
    obtain ⟨hbel, hres, ⟨v, hout, hown⟩⟩ := hrel
    by_cases hlt : k < m
    · obtain ⟨j, hj⟩ := at_lt (l := l) (p := k) (by rw [HM.out]; exact hlt)
      obtain ⟨ad, hA, _, hc0⟩ := r (by omega)
      subst hA
      have hx := cell_kept hbel (hc0 k 0 (f k) hlt rfl)
      simp only [Nat.mul_one, Nat.add_zero] at hx
      have HJ := Lib.hid ((e k j hj).keep hbel)
      have HJL := Lib.hid hj
      have HRES := Lib.hid hres
      have HOUT := Lib.hid hout
      have HOWN := Lib.hid hown
      clear hj hres hout hown
      go_wp2_with fail
      refine (ih j ok _ _ (hn j (List.mem_of_getElem? HJL.out)) (hG j (List.mem_of_getElem? HJL.out)) HJ.out).mono ?_
      rintro e' w' ⟨cs, rfl, hv, hb⟩
      have hout' := (hb.block _ (heap_lt HOUT.out)).trans HOUT.out
      have hown' := HOWN.out.keep hb
      have htk : ((J.vs l).take k).length = k := by rw [List.length_take, vs_len, HM.out]; omega
      obtain ⟨Av, cv, hve, hle⟩ := hown'.form
      rw [htk] at hve hle
      subst hve
      have HTK := Lib.hid htk
      have y3 : w'.cell? ⟨w.heap.size + 1, 3, none⟩ = some (.slice Av k cv) := by simp [World.cell?, hout']
      have yf : w'.frozen? ⟨w.heap.size + 1, 3, none⟩ = false := by simp [World.frozen?, hout']
      have hlt' : w.heap.size + 1 < w'.heap.size := heap_lt hout'
      have HV := Lib.hid hv
      have HOUT' := Lib.hid hout'
      have HOWN' := Lib.hid hown'
      clear hout' hown' hx htk
      generalize hjv : j.v = jv at hv
      have HJV := Lib.hid hjv
      clear hjv
      obtain ⟨k', h', t', l', ks', vs', B1, d1, B2, d2, B3, d3, f1, g1, ht, h1, h2, h3, b1, b2, b3, hk', hh', hs', q1, e1, q2, q3, e3'⟩ := hv
      go_wp2_with (at_builtin; refine Stop.out ?_)
      refine Stop.mk ?_
      obtain ⟨w2, hw2⟩ : ∃ w2, w2 = (w'.alloc (.cells #[.int .i64 k', .int .i64 h', .string t', .slice B1 l'.length d1, .slice B2 ks'.length d2, .slice B3 vs'.length d3] 26)).alloc (.cells #[.int .i64 k', .int .i64 h', .string t', .slice B1 l'.length d1, .slice B2 ks'.length d2, .slice B3 vs'.length d3] 26) := ⟨_, rfl⟩
      rw [← hw2]
      have hb2 : Below w'.heap.size w' w2 := by rw [hw2]; exact ((Below.refl _ _).alloc (Nat.le_refl _) _).alloc (by simp) _
      have hc2 : w2.heap[w'.heap.size + 1]? = some (.cells #[.int .i64 k', .int .i64 h', .string t', .slice B1 l'.length d1, .slice B2 ks'.length d2, .slice B3 vs'.length d3] 26) := by
        rw [hw2]
        have := heap_alloc_new (w'.alloc (.cells #[.int .i64 k', .int .i64 h', .string t', .slice B1 l'.length d1, .slice B2 ks'.length d2, .slice B3 vs'.length d3] 26)) (.cells #[.int .i64 k', .int .i64 h', .string t', .slice B1 l'.length d1, .slice B2 ks'.length d2, .slice B3 vs'.length d3] 26)
        simpa using this
      clear hw2
      have hwr := heap_lt HOUT.out
      have hsz2 := hb2.size
      have hown := HOWN'.out.keep hb2
      have hlt2 := HOWN.out.lt
      refine wpList_append_Own (ok := fun b => w.heap.size + 2 ≤ b) kV 26 (w.heap.size + 2) rfl (.tmp 25) (.tmp 27) 23 rfl i0 (.agg #[.int .i64 0, .int .i64 0, .string ⟨#[]⟩, .slice none 0 0, .slice none 0 0, .slice none 0 0]) 104 Tryz.underlying23 HI.out HZ.out HS.out HB.out rfl (by decide) (.slice Av k cv) ((J.vs l).take k) rfl hown ⟨w'.heap.size + 1, 0, none⟩ 1 [.int .i64 k', .int .i64 h', .string t', .slice B1 l'.length d1, .slice B2 ks'.length d2, .slice B3 vs'.length d3] j.v rfl (cells_six hc2) ?c2 ?c3 ?c4 (by omega) ?_
      case c2 =>
        refine Vr.mono (fun b hb => ⟨?_, fun he => ?_⟩) (HV.out.keep hb2)
        · omega
        · have := hlt2 b he.symm
          omega
      case c3 => rw [HTK.out]; simp only [maxLen]; omega
      case c4 => rw [HTK.out]; omega
      intro v' w3 hown3 hgr hvo
      obtain ⟨A3, c3, hve3, hle3⟩ := hown3.form
      have hlk : ((J.vs l).take k ++ [j.v]).length = k + 1 := by rw [List.length_append, HTK.out]; rfl
      rw [hlk] at hve3 hle3
      clear hlk
      rw [take_next HJL.out] at hown3
      have h3b : Below (w.heap.size + 2) w2 w3 := grown_below hgr (by omega) (fun k hk => (hown.lt k hk).1)
      have h3a : w3.heap[w.heap.size + 1]? = _ := (h3b.block _ (by omega)).trans ((hb2.block _ hlt').trans HOUT'.out)
      have hbw : Below w.heap.size w w3 := (below_trans hbel (below_trans hb hb2)).trans (h3b.mono (by omega))
      have hres3 : w3.heap[w.heap.size]? = _ := (h3b.block _ (by omega)).trans ((hb2.block _ (by omega)).trans ((hb.block _ (by omega)).trans HRES.out))
      have z3 : w3.cell? ⟨w.heap.size + 1, 3, none⟩ = some (.slice Av k cv) := by simp [World.cell?, h3a]
      have zf : w3.frozen? ⟨w.heap.size + 1, 3, none⟩ = false := by simp [World.frozen?, h3a]
      subst hve3
      have hnext : LFrom w (k + 1) l (w3.setCell ⟨w.heap.size + 1, 3, none⟩ (.slice A3 (k + 1) c3)) := by
        refine ⟨hbw.setCell (by show w.heap.size ≤ w.heap.size + 1; omega) _, (Below.heap_setCell _ _ _ _ (by show w.heap.size ≠ w.heap.size + 1; omega)).trans hres3, _, heap_setCell_row h3a _, ?_⟩
        refine hown3.set (fun he => ?_) (fun b hb => by show b ≠ w.heap.size + 1; omega) _
        have h : w.heap.size + 2 ≤ w.heap.size + 1 := (hown3.lt _ he.symm).1
        omega
      have HN := Lib.hid hnext
      clear hnext h3a hres3 hgr h3b y3 yf hc2 hown hown3 q1 q2 q3
      go_wp2_with fail
      go_roundw
      case rel => exact ⟨k + 1, by omega, by go_num, HN.out⟩
      case measure => simp [intOf]; omega
    · have hkn : k = m := by omega
      subst hkn
      obtain ⟨A3, c3, hve3, hle3⟩ := hown.form
      have hlk : ((J.vs l).take k).length = k := by rw [List.length_take, vs_len, HM.out]; omega
      rw [hlk] at hve3 hle3
      clear hlk
      subst hve3
      rw [List.take_of_length_le (by rw [vs_len, HM.out]; exact Nat.le_refl _)] at hown
      have hout' := hout
      have HOUT := Lib.hid hout
      have HRES := Lib.hid hres
      have HOWN := Lib.hid hown
      clear hout hown hres
      have x0 : wr.cell? ⟨w.heap.size + 1, 0, none⟩ = some (.int .i64 5) := by simp [World.cell?, hout']
      have x1 : wr.cell? ⟨w.heap.size + 1, 1, none⟩ = some (.int .i64 0) := by simp [World.cell?, hout']
      have x2 : wr.cell? ⟨w.heap.size + 1, 2, none⟩ = some (.string ⟨#[]⟩) := by simp [World.cell?, hout']
      have x3 : wr.cell? ⟨w.heap.size + 1, 3, none⟩ = some (.slice A3 k c3) := by simp [World.cell?, hout']
      have x4 : wr.cell? ⟨w.heap.size + 1, 4, none⟩ = some (.slice none 0 0) := by simp [World.cell?, hout']
      have x5 : wr.cell? ⟨w.heap.size + 1, 5, none⟩ = some (.slice none 0 0) := by simp [World.cell?, hout']
      have hr' := HRES.out
      have y0 : wr.cell? ⟨w.heap.size, 0, none⟩ = some (.int .i64 0) := by simp [World.cell?, hr']
      have y1 : wr.cell? ⟨w.heap.size, 1, none⟩ = some (.int .i64 0) := by simp [World.cell?, hr']
      have y2 : wr.cell? ⟨w.heap.size, 2, none⟩ = some (.string ⟨#[]⟩) := by simp [World.cell?, hr']
      have y3 : wr.cell? ⟨w.heap.size, 3, none⟩ = some (.slice none 0 0) := by simp [World.cell?, hr']
      have y4 : wr.cell? ⟨w.heap.size, 4, none⟩ = some (.slice none 0 0) := by simp [World.cell?, hr']
      have y5 : wr.cell? ⟨w.heap.size, 5, none⟩ = some (.slice none 0 0) := by simp [World.cell?, hr']
      have yf : ∀ i, wr.frozen? ⟨w.heap.size, i, none⟩ = false := fun i => by simp [World.frozen?, hr']
      clear hout' hr'
      go_wp2_with fail
      have hown := HOWN.out
      refine bodyPost_ret (v := .tuple #[.agg #[.int .i64 5, .int .i64 0, .string ⟨#[]⟩, .slice A3 k c3, .slice none 0 0, .slice none 0 0], .bool true]) (by simp [results, Tryz.results141, go_sem, y0, y1, y2, y3, y4, y5]) rfl ?_
      refine ⟨[.int .i64 5, .int .i64 0, .string ⟨#[]⟩, .slice A3 k c3, .slice none 0 0, .slice none 0 0], rfl, ?_, ?_⟩
      · have hlt := hown.lt
        have hset : ∀ (W : World) (i : Nat) (u : Value), Own kV 26 W (w.heap.size + 2) (fun b => w.heap.size + 2 ≤ b) (.slice A3 k c3) (J.vs l) → Own kV 26 (W.setCell ⟨w.heap.size, i, none⟩ u) (w.heap.size + 2) (fun b => w.heap.size + 2 ≤ b) (.slice A3 k c3) (J.vs l) := fun W i u h => by
          refine h.set (fun he => ?_) (fun b hb => by show b ≠ w.heap.size; omega) _
          have h : w.heap.size + 2 ≤ w.heap.size := (hlt _ he.symm).1
          omega
        exact vr_own_list (hset _ _ _ (hset _ _ _ (hset _ _ _ (hset _ _ _ (hset _ _ _ (hset _ _ _ hown)))))) (fun b hb => by omega) (fun b hb _ => by omega) (by rw [vs_len, HM.out]) hle3 (by omega)
      · exact (((((hbel.setCell (Nat.le_refl _) _).setCell (Nat.le_refl _) _).setCell (Nat.le_refl _) _).setCell (Nat.le_refl _) _).setCell (Nat.le_refl _) _).setCell (Nat.le_refl _) _
end Go.Proofs.YtpamlgdcnmcedaaGreatDoor
