/- What spec.Fit lets in. -/
import Derived.Test.YtpamlgdcnmcedaaGreatDoorD
set_option linter.unusedVariables false
namespace Go.Proofs.YtpamlgdcnmcedaaGreatDoor
open Go Go.RowKit
mutual
def V.parts : V → Nat
  | .mk _ _ _ l _ vs => 1 + V.partsL l + V.partsL vs
def V.partsL : List V → Nat
  | [] => 0
  | v :: vs => V.parts v + V.partsL vs
end
theorem V.parts_pos (v : V) : 1 ≤ v.parts := by cases v; rw [V.parts]; omega
theorem V.partsL_len : ∀ l : List V, l.length ≤ V.partsL l
  | [] => by simp [V.partsL]
  | v :: vs => by rw [V.partsL]; have := V.partsL_len vs; have := V.parts_pos v; simp; omega
theorem V.parts_mem : ∀ (l : List V) (v : V), v ∈ l → v.parts ≤ V.partsL l
  | v :: vs, u, h => by
    rw [V.partsL]
    rcases List.mem_cons.1 h with rfl | h
    · omega
    · have := V.parts_mem vs u h; omega
def sortedS (ks : List ByteArray) : Prop := ∀ (i : Nat) (a b : ByteArray), ks[i]? = some a → ks[i + 1]? = some b → Op.bytesLess a.toList b.toList = true
inductive WF : V → Prop
  | mk (k h : Int) (t : ByteArray) (l : List V) (ks : List ByteArray) (vs : List V) (hk : 0 ≤ k ∧ k ≤ 6) (hh : k = 3 ∨ h = 0) (ht : k = 4 ∨ t = ⟨#[]⟩)
      (hl : k = 5 ∨ l = []) (hks : k = 6 ∨ ks = []) (hlen : ks.length = vs.length) (hb : -18014398509481984 ≤ h ∧ h ≤ 18014398509481984)
      (ho : h.tmod 2 = 0 ∨ (-9007199254740992 < h ∧ h < 9007199254740992)) (hs : sortedS ks)
      (wl : ∀ v, v ∈ l → WF v) (wv : ∀ v, v ∈ vs → WF v) : WF (.mk k h t l ks vs)
end Go.Proofs.YtpamlgdcnmcedaaGreatDoor
