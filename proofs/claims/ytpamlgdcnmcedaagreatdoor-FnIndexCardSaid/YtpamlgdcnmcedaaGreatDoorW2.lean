/- A value none of whose lists is long. -/
import Derived.Test.YtpamlgdcnmcedaaGreatDoorW
set_option linter.unusedVariables false
namespace Go.Proofs.YtpamlgdcnmcedaaGreatDoor
open Go Go.RowKit
theorem sizeOf_lt_list {k h : Int} {t : ByteArray} {l : List V} {ks : List ByteArray} {vs : List V} {v : V} (hv : v ∈ l) : SizeOf.sizeOf v < SizeOf.sizeOf (V.mk k h t l ks vs) := by
  have := List.sizeOf_lt_of_mem hv
  simp only [V.mk.sizeOf_spec]
  omega
theorem sizeOf_lt_vals {k h : Int} {t : ByteArray} {l : List V} {ks : List ByteArray} {vs : List V} {v : V} (hv : v ∈ vs) : SizeOf.sizeOf v < SizeOf.sizeOf (V.mk k h t l ks vs) := by
  have := List.sizeOf_lt_of_mem hv
  simp only [V.mk.sizeOf_spec]
  omega
inductive Sm : V → Prop
  | mk (k h : Int) (t : ByteArray) (l : List V) (ks : List ByteArray) (vs : List V) (h1 : l.length ≤ 1000000) (h2 : vs.length ≤ 1000000) (el : ∀ v, v ∈ l → Sm v) (ev : ∀ v, v ∈ vs → Sm v) : Sm (.mk k h t l ks vs)
theorem sm_parts : ∀ (n : Nat) (v : V), SizeOf.sizeOf v < n → v.parts ≤ 1000000 → Sm v
  | 0, v, hn, _ => absurd hn (Nat.not_lt_zero _)
  | n + 1, .mk k h t l ks vs, hn, hp => by
    rw [V.parts] at hp
    have h1 := V.partsL_len l
    have h2 := V.partsL_len vs
    refine .mk k h t l ks vs (by omega) (by omega) (fun v hv => sm_parts n v ?_ ?_) (fun v hv => sm_parts n v ?_ ?_)
    · have := sizeOf_lt_list (k := k) (h := h) (t := t) (ks := ks) (vs := vs) hv; omega
    · have := V.parts_mem l v hv; omega
    · have := sizeOf_lt_vals (k := k) (h := h) (t := t) (l := l) (ks := ks) hv; omega
    · have := V.parts_mem vs v hv; omega
theorem sm_of {v : V} (hp : v.parts ≤ 1000000) : Sm v := sm_parts (SizeOf.sizeOf v + 1) v (Nat.lt_succ_self _) hp
end Go.Proofs.YtpamlgdcnmcedaaGreatDoor
