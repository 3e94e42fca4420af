/-
  slices.Sorted(maps.Keys(m)) by the shelf's contracts, laid at this dump (written by the kit's lay-iter.mjs and lay-plain.mjs).
-/
import Derived.Shelf.SlGeneric
import Derived.Shelf.SlIter.Nil
import Derived.Shelf.SortM.Plain
import Derived.Shelf.SortM.SortNone
import Derived.Ground.GgzProg
import Derived.Ground.SlgmProg
import Derived.Test.Qxb6609165aRows
namespace Go.Proofs.Qxb6609165a
open Go Go.RowKit Go.Maps Go.Sort Go.Shelf
def Try.keys30_ren : Go.Shelf.Ren := ⟨fun | 7 => 30 | 10 => 37 | n => n, fun | 23 => 72 | 26 => 9 | 3 => 73 | 28 => 70 | 0 => 0 | 27 => 69 | 33 => 81 | 4 => 4 | n => n, fun | n => n⟩
theorem Try.keys30 : Go.Proofs.SlLaysZ.n7 Try.prog Try.keys30_ren := {
  mixed := by kernel_rfl
  f7 := ⟨Try.f30.name, by decide, Try.func30.trans (congrArg some (by kernel_rfl))⟩
  f10 := ⟨Try.f37.name, by decide, Try.func37.trans (congrArg some (by kernel_rfl))⟩
  t0 := Try.underlying0
  a0 := Try.isAgg0
  z0 := Try.sizeOf0
  v0 := Try.zeroValue0
  t4 := Try.underlying4
  a4 := Try.isAgg4
  z4 := Try.sizeOf4
  v4 := Try.zeroValue4
  t23 := Try.underlying72
  a23 := Try.isAgg72
  z23 := Try.sizeOf72
  v23 := Try.zeroValue72
  t26 := Try.underlying9
  a26 := Try.isAgg9
  z26 := Try.sizeOf9
  v26 := Try.zeroValue9
  t27 := Try.underlying69
  a27 := Try.isAgg69
  z27 := Try.sizeOf69
  v27 := Try.zeroValue69
  t28 := Try.underlying70
  a28 := Try.isAgg70
  z28 := Try.sizeOf70
  v28 := Try.zeroValue70
  t33 := Try.underlying81
  a33 := Try.isAgg81
  z33 := Try.sizeOf81
  v33 := Try.zeroValue81 }
def Try.sorted29_ren : Go.Shelf.Ren := ⟨fun | 6 => 29 | 8 => 35 | 9 => 36 | 11 => 41 | 13 => 43 | 12 => 42 | 23 => 56 | 24 => 57 | 14 => 47 | 15 => 48 | 16 => 49 | 17 => 50 | 18 => 51 | 19 => 52 | 20 => 53 | 21 => 54 | 22 => 55 | 25 => 59 | 26 => 60 | 27 => 61 | 28 => 62 | 29 => 63 | 30 => 64 | 31 => 66 | n => n, fun | 26 => 9 | 28 => 70 | 24 => 38 | 0 => 0 | 3 => 3 | 37 => 89 | 48 => 102 | 50 => 22 | 4 => 4 | 40 => 95 | 39 => 94 | 45 => 26 | 5 => 5 | 9 => 9 | 51 => 104 | 55 => 108 | 57 => 110 | 58 => 111 | 33 => 81 | n => n, fun | n => n⟩
theorem Try.sorted29 : Go.Proofs.SlLaysZ.n6 Try.prog Try.sorted29_ren := {
  mixed := by kernel_rfl
  f6 := ⟨Try.f29.name, by decide, Try.func29.trans (congrArg some (by kernel_rfl))⟩
  f8 := ⟨Try.f35.name, by decide, Try.func35.trans (congrArg some (by kernel_rfl))⟩
  f11 := ⟨Try.f41.name, by decide, Try.func41.trans (congrArg some (by kernel_rfl))⟩
  t0 := Try.underlying0
  a0 := Try.isAgg0
  z0 := Try.sizeOf0
  v0 := Try.zeroValue0
  t24 := Try.underlying38
  a24 := Try.isAgg38
  z24 := Try.sizeOf38
  v24 := Try.zeroValue38
  t26 := Try.underlying9
  a26 := Try.isAgg9
  z26 := Try.sizeOf9
  v26 := Try.zeroValue9
  t28 := Try.underlying70
  a28 := Try.isAgg70
  z28 := Try.sizeOf70
  v28 := Try.zeroValue70
  i26 := by kernel_rfl }
def Try.sort36_ren : Go.Shelf.Ren := ⟨fun | 6 => 36 | 8 => 43 | 9 => 42 | 19 => 56 | 20 => 57 | 21 => 47 | 22 => 48 | 23 => 49 | 24 => 50 | 25 => 51 | 26 => 52 | 27 => 53 | 28 => 54 | 29 => 55 | 36 => 59 | 31 => 60 | 32 => 61 | 37 => 62 | 38 => 63 | 39 => 64 | 41 => 66 | n => n, fun | 27 => 38 | 29 => 9 | 3 => 3 | 32 => 89 | 26 => 38 | 0 => 0 | 44 => 102 | 46 => 22 | 4 => 4 | 36 => 95 | 35 => 94 | 41 => 26 | 5 => 5 | 9 => 9 | 53 => 104 | 57 => 108 | 63 => 110 | 64 => 111 | n => n, fun | n => n⟩
theorem Try.sort36 : Go.Proofs.SlLaysM.n6 Try.prog Try.sort36_ren := {
  mixed := by kernel_rfl
  f6 := ⟨Try.f36.name, by decide, Try.func36.trans (congrArg some (by kernel_rfl))⟩
  f8 := Try.func43.trans (congrArg some (by kernel_rfl))
  f9 := ⟨Try.f42.name, by decide, Try.func42.trans (congrArg some (by kernel_rfl))⟩
  f19 := Try.func56.trans (congrArg some (by kernel_rfl))
  f20 := Try.func57.trans (congrArg some (by kernel_rfl))
  f21 := ⟨Try.f47.name, by decide, Try.func47.trans (congrArg some (by kernel_rfl))⟩
  f22 := ⟨Try.f48.name, by decide, Try.func48.trans (congrArg some (by kernel_rfl))⟩
  f23 := ⟨Try.f49.name, by decide, Try.func49.trans (congrArg some (by kernel_rfl))⟩
  f24 := ⟨Try.f50.name, by decide, Try.func50.trans (congrArg some (by kernel_rfl))⟩
  f25 := ⟨Try.f51.name, by decide, Try.func51.trans (congrArg some (by kernel_rfl))⟩
  f26 := ⟨Try.f52.name, by decide, Try.func52.trans (congrArg some (by kernel_rfl))⟩
  f27 := ⟨Try.f53.name, by decide, Try.func53.trans (congrArg some (by kernel_rfl))⟩
  f28 := ⟨Try.f54.name, by decide, Try.func54.trans (congrArg some (by kernel_rfl))⟩
  f29 := ⟨Try.f55.name, by decide, Try.func55.trans (congrArg some (by kernel_rfl))⟩
  f31 := Try.func60.trans (congrArg some (by kernel_rfl))
  f32 := Try.func61.trans (congrArg some (by kernel_rfl))
  f36 := ⟨Try.f59.name, by decide, Try.func59.trans (congrArg some (by kernel_rfl))⟩
  f37 := ⟨Try.f62.name, by decide, Try.func62.trans (congrArg some (by kernel_rfl))⟩
  f38 := ⟨Try.f63.name, by decide, Try.func63.trans (congrArg some (by kernel_rfl))⟩
  f39 := ⟨Try.f64.name, by decide, Try.func64.trans (congrArg some (by kernel_rfl))⟩
  f41 := ⟨Try.f66.name, by decide, Try.func66.trans (congrArg some (by kernel_rfl))⟩
  t0 := Try.underlying0
  a0 := Try.isAgg0
  z0 := Try.sizeOf0
  v0 := Try.zeroValue0
  t3 := Try.underlying3
  a3 := Try.isAgg3
  z3 := Try.sizeOf3
  v3 := Try.zeroValue3
  t4 := Try.underlying4
  a4 := Try.isAgg4
  z4 := Try.sizeOf4
  v4 := Try.zeroValue4
  t5 := Try.underlying5
  a5 := Try.isAgg5
  z5 := Try.sizeOf5
  v5 := Try.zeroValue5
  t9 := Try.underlying9
  a9 := Try.isAgg9
  z9 := Try.sizeOf9
  v9 := Try.zeroValue9
  t26 := Try.underlying38
  a26 := Try.isAgg38
  z26 := Try.sizeOf38
  v26 := Try.zeroValue38
  t27 := Try.underlying38
  a27 := Try.isAgg38
  z27 := Try.sizeOf38
  v27 := Try.zeroValue38
  t29 := Try.underlying9
  a29 := Try.isAgg9
  z29 := Try.sizeOf9
  v29 := Try.zeroValue9
  t32 := Try.underlying89
  a32 := Try.isAgg89
  z32 := Try.sizeOf89
  v32 := Try.zeroValue89
  t35 := Try.underlying94
  a35 := Try.isAgg94
  z35 := Try.sizeOf94
  v35 := Try.zeroValue94
  t36 := Try.underlying95
  a36 := Try.isAgg95
  z36 := Try.sizeOf95
  v36 := Try.zeroValue95
  t41 := Try.underlying26
  a41 := Try.isAgg26
  z41 := Try.sizeOf26
  v41 := Try.zeroValue26
  t44 := Try.underlying102
  a44 := Try.isAgg102
  z44 := Try.sizeOf102
  v44 := Try.zeroValue102
  t46 := Try.underlying22
  a46 := Try.isAgg22
  z46 := Try.sizeOf22
  v46 := Try.zeroValue22
  t53 := Try.underlying104
  a53 := Try.isAgg104
  z53 := Try.sizeOf104
  v53 := Try.zeroValue104
  t57 := Try.underlying108
  a57 := Try.isAgg108
  z57 := Try.sizeOf108
  v57 := Try.zeroValue108
  t63 := Try.underlying110
  a63 := Try.isAgg110
  z63 := Try.sizeOf110
  v63 := Try.zeroValue110
  t64 := Try.underlying111
  a64 := Try.isAgg111
  z64 := Try.sizeOf111
  v64 := Try.zeroValue111 }
/-- slices.Sort's two contracts at this dump, at the fence that asks nothing. -/
theorem Try.sorts29 (m : Nat) : AnyZ.SortsIn Try.prog Try.sorted29_ren Fence.wide m :=
  ⟨fun blk off cap ss W hH hblk hsz => callsIn_wide.2 (AnyM.slices_Sort_string Try.sort36 blk off cap ss W hH hblk hsz),
   fun p cap W => callsIn_wide.2 (AnyM.slices_Sort_string_none Try.sort36 p cap W)⟩

/-- maps.Keys[map[string]struct{},string,struct{}], at whatever map, the nil one too: a function value over ONE NEW BLOCK, which holds the map. -/
theorem Try.maps_Keys_30 (mb : Option Nat) (W : World) : CallsIn Fence.wide 5 Try.prog 30 #[.map mb] W fun e w' => e = .returned (.func (.func 37) #[] #[.pointer (some ⟨W.heap.size, 0, none⟩)]) ∧ w' = W.alloc (.cells #[.map mb] 72) :=
  AnyZ.keys_in Try.keys30 Fence.wide 5 trivial rfl mb W

set_option maxHeartbeats 1000000 in
/-- slices.Sorted[string] AT WHAT maps.Keys[map[string]struct{},string,struct{}] HANDED BACK FOR A MAP THAT IS NOT nil ('w': the world AHEAD of maps.Keys' call): A NEW SLICE THAT HOLDS THE MAP's KEYS, SORTED; nil just where it has none; nothing that lay before has turned. -/
theorem Try.slices_Sorted_keys_29_30 {H : Type} (b nn : Nat) (D0 : DataW H) (R : Value → Option (DataW H × List MemPlace)) (w : World) (hown : w.ownsMap Try.prog 9 R b nn D0) (hmax : Maps.size D0 ≤ maxLen) (hbytes : Maps.size D0 * 16 ≤ 140737488355328) :
    CallsIn Fence.wide 5 Try.prog 29 #[.func (.func 37) #[] #[.pointer (some ⟨w.heap.size, 0, none⟩)]] (w.alloc (.cells #[.map (some b)] 72)) fun e w' => ∃ (v : Value) (ss : List (List UInt8)), e = .returned v ∧ ss.Perm (strKeys D0) ∧
      w'.ownsRow (w.alloc (.cells #[.map (some b)] 72)).heap.size 9 1 v ss.length ((ss.mergeSort (fun x y => decide (x ≤ y))).map encStr) ∧ (v = .slice none 0 0 ↔ ss = []) ∧ Below (w.alloc (.cells #[.map (some b)] 72)).heap.size (w.alloc (.cells #[.map (some b)] 72)) w' := by
  have hbl := hown.lt
  have hseq : SeqGives Fence.wide 2 Try.prog 37 #[.pointer (some ⟨w.heap.size, 0, none⟩)] encStr (fun ss => ss.Perm (strKeys D0)) (Maps.size D0) (w.alloc (.cells #[.map (some b)] 72)) :=
    AnyZ.keys_gives (ρ := Try.keys30_ren) { Try.keys30 with } Fence.wide _ trivial rfl (by omega) w.heap.size b nn D0 _ (by simp) (by simp) (by
      obtain ⟨es, clock, hb, Ft, hs, hD⟩ := hown
      exact ⟨es, clock, (Below.heap_alloc _ _ b hbl).trans hb, Ft, hs, hD⟩)
  exact AnyZ.sorted_in Try.sorted29 Fence.wide 5 trivial trivial trivial trivial rfl (by omega) (Try.sorts29 _) (enters_of Try.func36 (by kernel_rfl) rfl) 37 #[.pointer (some ⟨w.heap.size, 0, none⟩)] trivial (enters_of Try.func37 (by kernel_rfl) rfl) _ _ hmax hbytes _ hseq

set_option maxHeartbeats 1000000 in
/-- .. AND FOR THE nil MAP: nil. -/
theorem Try.slices_Sorted_keys_nil_29_30 (w : World) :
    CallsIn Fence.wide 5 Try.prog 29 #[.func (.func 37) #[] #[.pointer (some ⟨w.heap.size, 0, none⟩)]] (w.alloc (.cells #[.map none] 72)) fun e w' => ∃ (v : Value) (ss : List (List UInt8)), e = .returned v ∧ ss = [] ∧
      w'.ownsRow (w.alloc (.cells #[.map none] 72)).heap.size 9 1 v ss.length ((ss.mergeSort (fun x y => decide (x ≤ y))).map encStr) ∧ (v = .slice none 0 0 ↔ ss = []) ∧ Below (w.alloc (.cells #[.map none] 72)).heap.size (w.alloc (.cells #[.map none] 72)) w' := by
  have hseq : SeqGives Fence.wide 2 Try.prog 37 #[.pointer (some ⟨w.heap.size, 0, none⟩)] encStr (fun ss : List (List UInt8) => ss = []) 0 (w.alloc (.cells #[.map none] 72)) :=
    AnyZ.keys_gives_nil (ρ := Try.keys30_ren) { Try.keys30 with } Fence.wide _ trivial rfl w.heap.size _ (by simp) (by simp)
  exact AnyZ.sorted_in Try.sorted29 Fence.wide 5 trivial trivial trivial trivial rfl (by omega) (Try.sorts29 _) (enters_of Try.func36 (by kernel_rfl) rfl) 37 #[.pointer (some ⟨w.heap.size, 0, none⟩)] trivial (enters_of Try.func37 (by kernel_rfl) rfl) _ 0 (Nat.zero_le _) (by omega) _ hseq
end Go.Proofs.Qxb6609165a
