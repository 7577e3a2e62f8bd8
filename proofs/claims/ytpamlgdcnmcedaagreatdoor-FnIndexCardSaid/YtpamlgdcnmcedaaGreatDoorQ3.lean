/- laws.told. -/
import Derived.Test.YtpamlgdcnmcedaaGreatDoorQ2
set_option linter.unusedVariables false
set_option linter.unusedSimpArgs false
set_option maxRecDepth 100000
namespace Go.Proofs.YtpamlgdcnmcedaaGreatDoor
open Go Go.RowKit
theorem told_fine (a b : V) (ok : Nat → Prop) (cs ds : List Value) (w : World) (wa : WF a) (wb : WF b) (ha : Vr w ok a cs) (hb : Vr w ok b ds) (hab : cmpV a b = 0) :
    Calls Tryz.prog 13 #[.agg (cs ++ [Value.int .i64 0]).toArray, .agg ds.toArray, .int .i64 0] w fun e w' => e = .returned (.bool true) ∧ Below w.heap.size w w' := by
  have HVA := Lib.hid ha
  have HVB := Lib.hid hb
  obtain ⟨k, h, t, l, ks, vs, A1, c1, A2, c2, A3, c3, f, g, ht, h1, h2, h3, b1, b2, b3, hk', hh', hs', r1, e1, r2, r3, e3⟩ := ha
  obtain ⟨dk, dh, dt, dl, dks, dvs, D1, p1, D2, p2, D3, p3, df, dg, dht, dh1, dh2, dh3, db1, db2, db3, dhk, dhh, dhs, dr1, de1, dr2, dr3, de3⟩ := hb
  have hB : Below w.heap.size w ((w.alloc (.cells #[.int .i64 k, .int .i64 h, .string t, .slice A1 l.length c1, .slice A2 ks.length c2, .slice A3 vs.length c3, .int .i64 0] 34)).alloc (.cells #[.int .i64 dk, .int .i64 dh, .string dt, .slice D1 dl.length p1, .slice D2 dks.length p2, .slice D3 dvs.length p3] 26)) := ((Below.refl _ _).alloc (Nat.le_refl _) _).alloc (by simp) _
  have HC := Lib.hid (same_any _ _ ok _ _ _ wa wb (HVA.out.keep hB) (HVB.out.keep hB))
  have HB := Lib.hid hB
  have HAB := Lib.hid hab
  clear hB hab
  go_enter Tryz.func13, Tryz.ntmps13
  go_wp2_with fail
  refine HC.out.mono ?_
  rintro e' w' ⟨rfl, hb'⟩
  rw [HAB.out]
  go_wp2_with fail
  go_ret
  exact ⟨rfl, below_trans HB.out hb'⟩
theorem told_raises (ds : List Value) (b : V) (ok : Nat → Prop) (w : World) (hb : Vr w ok b ds) :
    Calls Tryz.prog 13 #[.agg #[.int .i64 0, .int .i64 0, .string ⟨#[]⟩, .slice none 0 0, .slice none 0 0, .slice none 0 0, .int .i64 1], .agg ds.toArray, .int .i64 1] w fun e w' => e = .returned (.bool true) ∧ Below w.heap.size w w' := by
  obtain ⟨dk, dh, dt, dl, dks, dvs, D1, p1, D2, p2, D3, p3, df, dg, dht, dh1, dh2, dh3, db1, db2, db3, dhk, dhh, dhs, dr1, de1, dr2, dr3, de3⟩ := hb
  go_enter Tryz.func13, Tryz.ntmps13
  go_wp2_with fail
  go_ret
  exact ⟨rfl, ((Below.refl _ _).alloc (Nat.le_refl _) _).alloc (by simp) _⟩
end Go.Proofs.YtpamlgdcnmcedaaGreatDoor
