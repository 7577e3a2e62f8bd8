/- 'slices.Sorted(maps.Keys(m))' and utf8.ValidString: the shelf's contracts at this dump; what lays them was printed by a program. -/
import Derived.Shelf.SlIter.Nil
import Derived.Shelf.SortM.Plain
import Derived.Shelf.SortM.SortNone
import Derived.Ground.GgzProg
import Derived.Ground.SlgmProg
import Derived.Shelf.Unicode.ValidAny
import Derived.Test.YtpamlgdcnmcedaaGreatDoorProg
set_option linter.unusedVariables false
set_option linter.unusedSimpArgs false
namespace Go.Proofs.YtpamlgdcnmcedaaGreatDoor
open Go Go.RowKit Go.Maps Go.Sort Go.Shelf Go.Proofs
def keys186_ren : Go.Shelf.Ren := ⟨fun | 7 => 186 | 10 => 220 | n => n, fun | 23 => 85 | 26 => 9 | 3 => 20 | 28 => 208 | 0 => 0 | 27 => 207 | 33 => 114 | 4 => 4 | n => n, fun | n => n⟩
theorem keys186 : Go.Proofs.SlLaysZ.n7 Tryz.prog keys186_ren where
  mixed := by kernel_rfl
  f7 := ⟨ "maps.Keys[map[string]any,string,any]", by decide, Tryz.func186.trans (congrArg some (by kernel_rfl))⟩
  f10 := ⟨ "maps.Keys[map[string]any,string,any]$1", by decide, Tryz.func220.trans (congrArg some (by kernel_rfl))⟩
  t0 := Tryz.underlying0
  a0 := Tryz.isAgg0
  z0 := Tryz.sizeOf0
  v0 := Tryz.zeroValue0
  t4 := Tryz.underlying4
  a4 := Tryz.isAgg4
  z4 := Tryz.sizeOf4
  v4 := Tryz.zeroValue4
  t23 := Tryz.underlying85
  a23 := Tryz.isAgg85
  z23 := Tryz.sizeOf85
  v23 := Tryz.zeroValue85
  t26 := Tryz.underlying9
  a26 := Tryz.isAgg9
  z26 := Tryz.sizeOf9
  v26 := Tryz.zeroValue9
  t27 := Tryz.underlying207
  a27 := Tryz.isAgg207
  z27 := Tryz.sizeOf207
  v27 := Tryz.zeroValue207
  t28 := Tryz.underlying208
  a28 := Tryz.isAgg208
  z28 := Tryz.sizeOf208
  v28 := Tryz.zeroValue208
  t33 := Tryz.underlying114
  a33 := Tryz.isAgg114
  z33 := Tryz.sizeOf114
  v33 := Tryz.zeroValue114
def sorted185_ren : Go.Shelf.Ren := ⟨fun | 6 => 185 | 8 => 218 | 9 => 219 | 11 => 255 | 13 => 257 | 12 => 256 | 23 => 297 | 24 => 298 | 14 => 288 | 15 => 289 | 16 => 290 | 17 => 291 | 18 => 292 | 19 => 293 | 20 => 294 | 21 => 295 | 22 => 296 | 25 => 310 | 26 => 311 | 27 => 312 | 28 => 313 | 29 => 314 | 30 => 262 | 31 => 322 | n => n, fun | 26 => 9 | 28 => 208 | 24 => 24 | 0 => 0 | 3 => 3 | 37 => 118 | 48 => 264 | 50 => 235 | 4 => 4 | 40 => 315 | 39 => 314 | 45 => 71 | 5 => 5 | 9 => 9 | 51 => 330 | 55 => 333 | 57 => 344 | 58 => 345 | 33 => 114 | n => n, fun | n => n⟩
theorem sorted185 : Go.Proofs.SlLaysZ.n6 Tryz.prog sorted185_ren where
  mixed := by kernel_rfl
  f6 := ⟨ "slices.Sorted[string]", by decide, Tryz.func185.trans (congrArg some (by kernel_rfl))⟩
  f8 := ⟨ "slices.Collect[string]", by decide, Tryz.func218.trans (congrArg some (by kernel_rfl))⟩
  f11 := ⟨ "slices.AppendSeq[[]string,string]", by decide, Tryz.func255.trans (congrArg some (by kernel_rfl))⟩
  t0 := Tryz.underlying0
  a0 := Tryz.isAgg0
  z0 := Tryz.sizeOf0
  v0 := Tryz.zeroValue0
  t24 := Tryz.underlying24
  a24 := Tryz.isAgg24
  z24 := Tryz.sizeOf24
  v24 := Tryz.zeroValue24
  t26 := Tryz.underlying9
  a26 := Tryz.isAgg9
  z26 := Tryz.sizeOf9
  v26 := Tryz.zeroValue9
  t28 := Tryz.underlying208
  a28 := Tryz.isAgg208
  z28 := Tryz.sizeOf208
  v28 := Tryz.zeroValue208
  i26 := by kernel_rfl
def sort219_ren : Go.Shelf.Ren := ⟨fun | 6 => 219 | 8 => 257 | 9 => 256 | 19 => 297 | 20 => 298 | 21 => 288 | 22 => 289 | 23 => 290 | 24 => 291 | 25 => 292 | 26 => 293 | 27 => 294 | 28 => 295 | 29 => 296 | 36 => 310 | 31 => 311 | 32 => 312 | 37 => 313 | 38 => 314 | 39 => 262 | 41 => 322 | n => n, fun | 27 => 24 | 29 => 9 | 3 => 3 | 32 => 118 | 26 => 24 | 0 => 0 | 44 => 264 | 46 => 235 | 4 => 4 | 36 => 315 | 35 => 314 | 41 => 71 | 5 => 5 | 9 => 9 | 53 => 330 | 57 => 333 | 63 => 344 | 64 => 345 | n => n, fun | n => n⟩
theorem sort219 : Go.Proofs.SlLaysM.n6 Tryz.prog sort219_ren where
  mixed := by kernel_rfl
  f6 := ⟨ "slices.Sort[[]string,string]", by decide, Tryz.func219.trans (congrArg some (by kernel_rfl))⟩
  f8 := Tryz.func257.trans (congrArg some (by kernel_rfl))
  f9 := ⟨ "slices.pdqsortOrdered[string]", by decide, Tryz.func256.trans (congrArg some (by kernel_rfl))⟩
  f19 := Tryz.func297.trans (congrArg some (by kernel_rfl))
  f20 := Tryz.func298.trans (congrArg some (by kernel_rfl))
  f21 := ⟨ "slices.insertionSortOrdered[string]", by decide, Tryz.func288.trans (congrArg some (by kernel_rfl))⟩
  f22 := ⟨ "slices.heapSortOrdered[string]", by decide, Tryz.func289.trans (congrArg some (by kernel_rfl))⟩
  f23 := ⟨ "slices.breakPatternsOrdered[string]", by decide, Tryz.func290.trans (congrArg some (by kernel_rfl))⟩
  f24 := ⟨ "slices.choosePivotOrdered[string]", by decide, Tryz.func291.trans (congrArg some (by kernel_rfl))⟩
  f25 := ⟨ "slices.reverseRangeOrdered[string]", by decide, Tryz.func292.trans (congrArg some (by kernel_rfl))⟩
  f26 := ⟨ "slices.partialInsertionSortOrdered[string]", by decide, Tryz.func293.trans (congrArg some (by kernel_rfl))⟩
  f27 := ⟨ "cmp.Less[string]", by decide, Tryz.func294.trans (congrArg some (by kernel_rfl))⟩
  f28 := ⟨ "slices.partitionEqualOrdered[string]", by decide, Tryz.func295.trans (congrArg some (by kernel_rfl))⟩
  f29 := ⟨ "slices.partitionOrdered[string]", by decide, Tryz.func296.trans (congrArg some (by kernel_rfl))⟩
  f31 := Tryz.func311.trans (congrArg some (by kernel_rfl))
  f32 := Tryz.func312.trans (congrArg some (by kernel_rfl))
  f36 := ⟨ "slices.siftDownOrdered[string]", by decide, Tryz.func310.trans (congrArg some (by kernel_rfl))⟩
  f37 := ⟨ "slices.medianAdjacentOrdered[string]", by decide, Tryz.func313.trans (congrArg some (by kernel_rfl))⟩
  f38 := ⟨ "slices.medianOrdered[string]", by decide, Tryz.func314.trans (congrArg some (by kernel_rfl))⟩
  f39 := ⟨ "cmp.isNaN[string]", by decide, Tryz.func262.trans (congrArg some (by kernel_rfl))⟩
  f41 := ⟨ "slices.order2Ordered[string]", by decide, Tryz.func322.trans (congrArg some (by kernel_rfl))⟩
  t0 := Tryz.underlying0
  a0 := Tryz.isAgg0
  z0 := Tryz.sizeOf0
  v0 := Tryz.zeroValue0
  t3 := Tryz.underlying3
  a3 := Tryz.isAgg3
  z3 := Tryz.sizeOf3
  v3 := Tryz.zeroValue3
  t4 := Tryz.underlying4
  a4 := Tryz.isAgg4
  z4 := Tryz.sizeOf4
  v4 := Tryz.zeroValue4
  t5 := Tryz.underlying5
  a5 := Tryz.isAgg5
  z5 := Tryz.sizeOf5
  v5 := Tryz.zeroValue5
  t9 := Tryz.underlying9
  a9 := Tryz.isAgg9
  z9 := Tryz.sizeOf9
  v9 := Tryz.zeroValue9
  t26 := Tryz.underlying24
  a26 := Tryz.isAgg24
  z26 := Tryz.sizeOf24
  v26 := Tryz.zeroValue24
  t27 := Tryz.underlying24
  a27 := Tryz.isAgg24
  z27 := Tryz.sizeOf24
  v27 := Tryz.zeroValue24
  t29 := Tryz.underlying9
  a29 := Tryz.isAgg9
  z29 := Tryz.sizeOf9
  v29 := Tryz.zeroValue9
  t32 := Tryz.underlying118
  a32 := Tryz.isAgg118
  z32 := Tryz.sizeOf118
  v32 := Tryz.zeroValue118
  t35 := Tryz.underlying314
  a35 := Tryz.isAgg314
  z35 := Tryz.sizeOf314
  v35 := Tryz.zeroValue314
  t36 := Tryz.underlying315
  a36 := Tryz.isAgg315
  z36 := Tryz.sizeOf315
  v36 := Tryz.zeroValue315
  t41 := Tryz.underlying71
  a41 := Tryz.isAgg71
  z41 := Tryz.sizeOf71
  v41 := Tryz.zeroValue71
  t44 := Tryz.underlying264
  a44 := Tryz.isAgg264
  z44 := Tryz.sizeOf264
  v44 := Tryz.zeroValue264
  t46 := Tryz.underlying235
  a46 := Tryz.isAgg235
  z46 := Tryz.sizeOf235
  v46 := Tryz.zeroValue235
  t53 := Tryz.underlying330
  a53 := Tryz.isAgg330
  z53 := Tryz.sizeOf330
  v53 := Tryz.zeroValue330
  t57 := Tryz.underlying333
  a57 := Tryz.isAgg333
  z57 := Tryz.sizeOf333
  v57 := Tryz.zeroValue333
  t63 := Tryz.underlying344
  a63 := Tryz.isAgg344
  z63 := Tryz.sizeOf344
  v63 := Tryz.zeroValue344
  t64 := Tryz.underlying345
  a64 := Tryz.isAgg345
  z64 := Tryz.sizeOf345
  v64 := Tryz.zeroValue345
/-- slices.Sort's two contracts at this dump, at the fence that asks nothing. -/
theorem sorts185 (m : Nat) : AnyZ.SortsIn Tryz.prog sorted185_ren Fence.wide m :=
  ⟨fun blk off cap ss W hH hblk hsz => callsIn_wide.2 (AnyM.slices_Sort_string sort219 blk off cap ss W hH hblk hsz),
   fun p cap W => callsIn_wide.2 (AnyM.slices_Sort_string_none sort219 p cap W)⟩

/-- **maps.Keys[map[string]any,string,any], at whatever map, the nil one too:** a function value over ONE NEW BLOCK, which holds the map. -/
theorem maps_Keys_186 (mb : Option Nat) (W : World) : CallsIn Fence.wide 5 Tryz.prog 186 #[.map mb] W fun e w' => e = .returned (.func (.func 220) #[] #[.pointer (some ⟨W.heap.size, 0, none⟩)]) ∧ w' = W.alloc (.cells #[.map mb] 85) :=
  AnyZ.keys_in keys186 Fence.wide 5 trivial rfl mb W

set_option maxHeartbeats 1000000 in
/-- **slices.Sorted[string] AT WHAT maps.Keys[map[string]any,string,any] HANDED BACK FOR A MAP THAT IS NOT nil** ('w': the world AHEAD of maps.Keys' call): A NEW SLICE THAT HOLDS THE MAP's KEYS, SORTED; nil just where it has none; nothing that lay before has turned. -/
theorem slices_Sorted_keys_185_186 {H : Type} (b nn : Nat) (D0 : DataW H) (R : Value → Option (DataW H × List MemPlace)) (w : World) (hown : w.ownsMap Tryz.prog 9 R b nn D0) (hmax : Maps.size D0 ≤ maxLen) (hbytes : Maps.size D0 * 16 ≤ 140737488355328) :
    CallsIn Fence.wide 5 Tryz.prog 185 #[.func (.func 220) #[] #[.pointer (some ⟨w.heap.size, 0, none⟩)]] (w.alloc (.cells #[.map (some b)] 85)) fun e w' => ∃ (v : Value) (ss : List (List UInt8)), e = .returned v ∧ ss.Perm (strKeys D0) ∧
      w'.ownsRow (w.alloc (.cells #[.map (some b)] 85)).heap.size 9 1 v ss.length ((ss.mergeSort (fun x y => decide (x ≤ y))).map encStr) ∧ (v = .slice none 0 0 ↔ ss = []) ∧ Below (w.alloc (.cells #[.map (some b)] 85)).heap.size (w.alloc (.cells #[.map (some b)] 85)) w' := by
  have hbl := hown.lt
  have hseq : SeqGives Fence.wide 2 Tryz.prog 220 #[.pointer (some ⟨w.heap.size, 0, none⟩)] encStr (fun ss => ss.Perm (strKeys D0)) (Maps.size D0) (w.alloc (.cells #[.map (some b)] 85)) :=
    AnyZ.keys_gives (ρ := keys186_ren) { keys186 with } Fence.wide _ trivial rfl (by omega) w.heap.size b nn D0 _ (by simp) (by simp) (by
      obtain ⟨es, clock, hb, Ft, hs, hD⟩ := hown
      exact ⟨es, clock, (Below.heap_alloc _ _ b hbl).trans hb, Ft, hs, hD⟩)
  exact AnyZ.sorted_in sorted185 Fence.wide 5 trivial trivial trivial trivial rfl (by omega) (sorts185 _) (enters_of Tryz.func219 (by kernel_rfl) rfl) 220 #[.pointer (some ⟨w.heap.size, 0, none⟩)] trivial (enters_of Tryz.func220 (by kernel_rfl) rfl) _ _ hmax hbytes _ hseq

set_option maxHeartbeats 1000000 in
/-- **.. AND FOR THE nil MAP: nil.** -/
theorem slices_Sorted_keys_nil_185_186 (w : World) :
    CallsIn Fence.wide 5 Tryz.prog 185 #[.func (.func 220) #[] #[.pointer (some ⟨w.heap.size, 0, none⟩)]] (w.alloc (.cells #[.map none] 85)) fun e w' => ∃ (v : Value) (ss : List (List UInt8)), e = .returned v ∧ ss = [] ∧
      w'.ownsRow (w.alloc (.cells #[.map none] 85)).heap.size 9 1 v ss.length ((ss.mergeSort (fun x y => decide (x ≤ y))).map encStr) ∧ (v = .slice none 0 0 ↔ ss = []) ∧ Below (w.alloc (.cells #[.map none] 85)).heap.size (w.alloc (.cells #[.map none] 85)) w' := by
  have hseq : SeqGives Fence.wide 2 Tryz.prog 220 #[.pointer (some ⟨w.heap.size, 0, none⟩)] encStr (fun ss : List (List UInt8) => ss = []) 0 (w.alloc (.cells #[.map none] 85)) :=
    AnyZ.keys_gives_nil (ρ := keys186_ren) { keys186 with } Fence.wide _ trivial rfl w.heap.size _ (by simp) (by simp)
  exact AnyZ.sorted_in sorted185 Fence.wide 5 trivial trivial trivial trivial rfl (by omega) (sorts185 _) (enters_of Tryz.func219 (by kernel_rfl) rfl) 220 #[.pointer (some ⟨w.heap.size, 0, none⟩)] trivial (enters_of Tryz.func220 (by kernel_rfl) rfl) _ 0 (Nat.zero_le _) (by omega) _ hseq


def valid147_ren : Go.Shelf.Ren := ⟨fun | 196 => 147 | 259 => 189 | n => n, fun | 9 => 9 | 4 => 4 | 3 => 3 | 5 => 5 | 12 => 12 | 119 => 214 | 0 => 0 | 46 => 118 | 139 => 217 | 138 => 216 | 53 => 235 | n => n, fun | 3 => 0 | 4 => 1 | n => n⟩
theorem valid147 : Go.Proofs.Lays.n196 Tryz.prog valid147_ren where
  mixed := by kernel_rfl
  f196 := Tryz.func147.trans (congrArg some (by kernel_rfl))
  f259 := Tryz.func189.trans (congrArg some (by kernel_rfl))
  t0 := Tryz.underlying0
  a0 := Tryz.isAgg0
  z0 := Tryz.sizeOf0
  v0 := Tryz.zeroValue0
  t3 := Tryz.underlying3
  a3 := Tryz.isAgg3
  z3 := Tryz.sizeOf3
  v3 := Tryz.zeroValue3
  t4 := Tryz.underlying4
  a4 := Tryz.isAgg4
  z4 := Tryz.sizeOf4
  v4 := Tryz.zeroValue4
  t5 := Tryz.underlying5
  a5 := Tryz.isAgg5
  z5 := Tryz.sizeOf5
  v5 := Tryz.zeroValue5
  t9 := Tryz.underlying9
  a9 := Tryz.isAgg9
  z9 := Tryz.sizeOf9
  v9 := Tryz.zeroValue9
  t12 := Tryz.underlying12
  a12 := Tryz.isAgg12
  z12 := Tryz.sizeOf12
  v12 := Tryz.zeroValue12
  t46 := Tryz.underlying118
  a46 := Tryz.isAgg118
  z46 := Tryz.sizeOf118
  v46 := Tryz.zeroValue118
  t53 := Tryz.underlying235
  a53 := Tryz.isAgg235
  z53 := Tryz.sizeOf235
  v53 := Tryz.zeroValue235
  t119 := Tryz.underlying214
  a119 := Tryz.isAgg214
  z119 := Tryz.sizeOf214
  t138 := Tryz.underlying216
  a138 := Tryz.isAgg216
  z138 := Tryz.sizeOf216
  v138 := Tryz.zeroValue216
  t139 := Tryz.underlying217
  a139 := Tryz.isAgg217
  z139 := Tryz.sizeOf217
  v139 := Tryz.zeroValue217
  g3 := by kernel_rfl
  g4 := by kernel_rfl
theorem validString_any (s : ByteArray) (w : World) (hs : s.size ≤ 9223372036854775807) (hT : Lib.Utf8Tabs 0 1 w) : Calls Tryz.prog 147 #[.string s] w fun e w' => e = .returned (.bool (Lib.validD s.data.toList)) ∧ Below w.heap.size w w' :=
  Any.utf8_ValidString valid147 s w hs hT
end Go.Proofs.YtpamlgdcnmcedaaGreatDoor
