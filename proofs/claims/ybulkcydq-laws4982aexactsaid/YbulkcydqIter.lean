import Derived.Shelf.SlIter.Nil
import Derived.Shelf.SortM.Plain
import Derived.Shelf.SortM.SortNone
import Derived.Ground.GgzProg
import Derived.Ground.SlgmProg
import Derived.Test.YbulkcydqProg
namespace Go.Proofs
open Go.RowKit Go.Maps Go.Sort Go.Shelf

def Yba.keys11_ren : Go.Shelf.Ren := ⟨fun | 7 => 11 | 10 => 15 | n => n, fun | 23 => 25 | 26 => 9 | 3 => 31 | 28 => 50 | 0 => 0 | 27 => 49 | 33 => 54 | 4 => 4 | n => n, fun | n => n⟩
theorem Yba.keys11 : Go.Proofs.SlLaysZ.n7 Yba.prog Yba.keys11_ren := {
  mixed := by kernel_rfl
  f7 := ⟨Yba.f11.name, by decide, Yba.func11.trans (congrArg some (by kernel_rfl))⟩
  f10 := ⟨Yba.f15.name, by decide, Yba.func15.trans (congrArg some (by kernel_rfl))⟩
  t0 := Yba.underlying0
  a0 := Yba.isAgg0
  z0 := Yba.sizeOf0
  v0 := Yba.zeroValue0
  t4 := Yba.underlying4
  a4 := Yba.isAgg4
  z4 := Yba.sizeOf4
  v4 := Yba.zeroValue4
  t23 := Yba.underlying25
  a23 := Yba.isAgg25
  z23 := Yba.sizeOf25
  v23 := Yba.zeroValue25
  t26 := Yba.underlying9
  a26 := Yba.isAgg9
  z26 := Yba.sizeOf9
  v26 := Yba.zeroValue9
  t27 := Yba.underlying49
  a27 := Yba.isAgg49
  z27 := Yba.sizeOf49
  v27 := Yba.zeroValue49
  t28 := Yba.underlying50
  a28 := Yba.isAgg50
  z28 := Yba.sizeOf50
  v28 := Yba.zeroValue50
  t33 := Yba.underlying54
  a33 := Yba.isAgg54
  z33 := Yba.sizeOf54
  v33 := Yba.zeroValue54 }
def Yba.sorted10_ren : Go.Shelf.Ren := ⟨fun | 6 => 10 | 8 => 13 | 9 => 14 | 11 => 16 | 13 => 18 | 12 => 17 | 23 => 28 | 24 => 29 | 14 => 19 | 15 => 20 | 16 => 21 | 17 => 22 | 18 => 23 | 19 => 24 | 20 => 25 | 21 => 26 | 22 => 27 | 25 => 30 | 26 => 31 | 27 => 32 | 28 => 33 | 29 => 34 | 30 => 35 | 31 => 36 | n => n, fun | 26 => 9 | 28 => 50 | 24 => 26 | 0 => 0 | 3 => 3 | 37 => 58 | 48 => 22 | 50 => 70 | 4 => 4 | 40 => 61 | 39 => 60 | 45 => 66 | 5 => 5 | 9 => 9 | 51 => 71 | 55 => 75 | 57 => 77 | 58 => 78 | 33 => 54 | n => n, fun | n => n⟩
theorem Yba.sorted10 : Go.Proofs.SlLaysZ.n6 Yba.prog Yba.sorted10_ren := {
  mixed := by kernel_rfl
  f6 := ⟨Yba.f10.name, by decide, Yba.func10.trans (congrArg some (by kernel_rfl))⟩
  f8 := ⟨Yba.f13.name, by decide, Yba.func13.trans (congrArg some (by kernel_rfl))⟩
  f11 := ⟨Yba.f16.name, by decide, Yba.func16.trans (congrArg some (by kernel_rfl))⟩
  t0 := Yba.underlying0
  a0 := Yba.isAgg0
  z0 := Yba.sizeOf0
  v0 := Yba.zeroValue0
  t24 := Yba.underlying26
  a24 := Yba.isAgg26
  z24 := Yba.sizeOf26
  v24 := Yba.zeroValue26
  t26 := Yba.underlying9
  a26 := Yba.isAgg9
  z26 := Yba.sizeOf9
  v26 := Yba.zeroValue9
  t28 := Yba.underlying50
  a28 := Yba.isAgg50
  z28 := Yba.sizeOf50
  v28 := Yba.zeroValue50
  i26 := by kernel_rfl }
def Yba.sort14_ren : Go.Shelf.Ren := ⟨fun | 6 => 14 | 8 => 18 | 9 => 17 | 19 => 28 | 20 => 29 | 21 => 19 | 22 => 20 | 23 => 21 | 24 => 22 | 25 => 23 | 26 => 24 | 27 => 25 | 28 => 26 | 29 => 27 | 36 => 30 | 31 => 31 | 32 => 32 | 37 => 33 | 38 => 34 | 39 => 35 | 41 => 36 | n => n, fun | 27 => 26 | 29 => 9 | 3 => 3 | 32 => 58 | 26 => 26 | 0 => 0 | 44 => 22 | 46 => 70 | 4 => 4 | 36 => 61 | 35 => 60 | 41 => 66 | 5 => 5 | 9 => 9 | 53 => 71 | 57 => 75 | 63 => 77 | 64 => 78 | n => n, fun | n => n⟩
theorem Yba.sort14 : Go.Proofs.SlLaysM.n6 Yba.prog Yba.sort14_ren := {
  mixed := by kernel_rfl
  f6 := ⟨Yba.f14.name, by decide, Yba.func14.trans (congrArg some (by kernel_rfl))⟩
  f8 := Yba.func18.trans (congrArg some (by kernel_rfl))
  f9 := ⟨Yba.f17.name, by decide, Yba.func17.trans (congrArg some (by kernel_rfl))⟩
  f19 := Yba.func28.trans (congrArg some (by kernel_rfl))
  f20 := Yba.func29.trans (congrArg some (by kernel_rfl))
  f21 := ⟨Yba.f19.name, by decide, Yba.func19.trans (congrArg some (by kernel_rfl))⟩
  f22 := ⟨Yba.f20.name, by decide, Yba.func20.trans (congrArg some (by kernel_rfl))⟩
  f23 := ⟨Yba.f21.name, by decide, Yba.func21.trans (congrArg some (by kernel_rfl))⟩
  f24 := ⟨Yba.f22.name, by decide, Yba.func22.trans (congrArg some (by kernel_rfl))⟩
  f25 := ⟨Yba.f23.name, by decide, Yba.func23.trans (congrArg some (by kernel_rfl))⟩
  f26 := ⟨Yba.f24.name, by decide, Yba.func24.trans (congrArg some (by kernel_rfl))⟩
  f27 := ⟨Yba.f25.name, by decide, Yba.func25.trans (congrArg some (by kernel_rfl))⟩
  f28 := ⟨Yba.f26.name, by decide, Yba.func26.trans (congrArg some (by kernel_rfl))⟩
  f29 := ⟨Yba.f27.name, by decide, Yba.func27.trans (congrArg some (by kernel_rfl))⟩
  f31 := Yba.func31.trans (congrArg some (by kernel_rfl))
  f32 := Yba.func32.trans (congrArg some (by kernel_rfl))
  f36 := ⟨Yba.f30.name, by decide, Yba.func30.trans (congrArg some (by kernel_rfl))⟩
  f37 := ⟨Yba.f33.name, by decide, Yba.func33.trans (congrArg some (by kernel_rfl))⟩
  f38 := ⟨Yba.f34.name, by decide, Yba.func34.trans (congrArg some (by kernel_rfl))⟩
  f39 := ⟨Yba.f35.name, by decide, Yba.func35.trans (congrArg some (by kernel_rfl))⟩
  f41 := ⟨Yba.f36.name, by decide, Yba.func36.trans (congrArg some (by kernel_rfl))⟩
  t0 := Yba.underlying0
  a0 := Yba.isAgg0
  z0 := Yba.sizeOf0
  v0 := Yba.zeroValue0
  t3 := Yba.underlying3
  a3 := Yba.isAgg3
  z3 := Yba.sizeOf3
  v3 := Yba.zeroValue3
  t4 := Yba.underlying4
  a4 := Yba.isAgg4
  z4 := Yba.sizeOf4
  v4 := Yba.zeroValue4
  t5 := Yba.underlying5
  a5 := Yba.isAgg5
  z5 := Yba.sizeOf5
  v5 := Yba.zeroValue5
  t9 := Yba.underlying9
  a9 := Yba.isAgg9
  z9 := Yba.sizeOf9
  v9 := Yba.zeroValue9
  t26 := Yba.underlying26
  a26 := Yba.isAgg26
  z26 := Yba.sizeOf26
  v26 := Yba.zeroValue26
  t27 := Yba.underlying26
  a27 := Yba.isAgg26
  z27 := Yba.sizeOf26
  v27 := Yba.zeroValue26
  t29 := Yba.underlying9
  a29 := Yba.isAgg9
  z29 := Yba.sizeOf9
  v29 := Yba.zeroValue9
  t32 := Yba.underlying58
  a32 := Yba.isAgg58
  z32 := Yba.sizeOf58
  v32 := Yba.zeroValue58
  t35 := Yba.underlying60
  a35 := Yba.isAgg60
  z35 := Yba.sizeOf60
  v35 := Yba.zeroValue60
  t36 := Yba.underlying61
  a36 := Yba.isAgg61
  z36 := Yba.sizeOf61
  v36 := Yba.zeroValue61
  t41 := Yba.underlying66
  a41 := Yba.isAgg66
  z41 := Yba.sizeOf66
  v41 := Yba.zeroValue66
  t44 := Yba.underlying22
  a44 := Yba.isAgg22
  z44 := Yba.sizeOf22
  v44 := Yba.zeroValue22
  t46 := Yba.underlying70
  a46 := Yba.isAgg70
  z46 := Yba.sizeOf70
  v46 := Yba.zeroValue70
  t53 := Yba.underlying71
  a53 := Yba.isAgg71
  z53 := Yba.sizeOf71
  v53 := Yba.zeroValue71
  t57 := Yba.underlying75
  a57 := Yba.isAgg75
  z57 := Yba.sizeOf75
  v57 := Yba.zeroValue75
  t63 := Yba.underlying77
  a63 := Yba.isAgg77
  z63 := Yba.sizeOf77
  v63 := Yba.zeroValue77
  t64 := Yba.underlying78
  a64 := Yba.isAgg78
  z64 := Yba.sizeOf78
  v64 := Yba.zeroValue78 }

theorem Yba.sorts10 (m : Nat) : AnyZ.SortsIn Yba.prog Yba.sorted10_ren Fence.wide m :=
  ⟨fun blk off cap ss W hH hblk hsz => callsIn_wide.2 (AnyM.slices_Sort_string Yba.sort14 blk off cap ss W hH hblk hsz),
   fun p cap W => callsIn_wide.2 (AnyM.slices_Sort_string_none Yba.sort14 p cap W)⟩

theorem Yba.maps_Keys_11 (mb : Option Nat) (W : World) : CallsIn Fence.wide 5 Yba.prog 11 #[.map mb] W fun e w' => e = .returned (.func (.func 15) #[] #[.pointer (some ⟨W.heap.size, 0, none⟩)]) ∧ w' = W.alloc (.cells #[.map mb] 25) :=
  AnyZ.keys_in Yba.keys11 Fence.wide 5 trivial rfl mb W

set_option maxHeartbeats 1000000 in
theorem Yba.slices_Sorted_keys_10_11 {H : Type} (b nn : Nat) (D0 : DataW H) (R : Value → Option (DataW H × List MemPlace)) (w : World) (hown : w.ownsMap Yba.prog 9 R b nn D0) (hmax : Maps.size D0 ≤ maxLen) (hbytes : Maps.size D0 * 16 ≤ 140737488355328) :
    CallsIn Fence.wide 5 Yba.prog 10 #[.func (.func 15) #[] #[.pointer (some ⟨w.heap.size, 0, none⟩)]] (w.alloc (.cells #[.map (some b)] 25)) fun e w' => ∃ (v : Value) (ss : List (List UInt8)), e = .returned v ∧ ss.Perm (strKeys D0) ∧
      w'.ownsRow (w.alloc (.cells #[.map (some b)] 25)).heap.size 9 1 v ss.length ((ss.mergeSort (fun x y => decide (x ≤ y))).map encStr) ∧ (v = .slice none 0 0 ↔ ss = []) ∧ Below (w.alloc (.cells #[.map (some b)] 25)).heap.size (w.alloc (.cells #[.map (some b)] 25)) w' := by
  have hbl := hown.lt
  have hseq : SeqGives Fence.wide 2 Yba.prog 15 #[.pointer (some ⟨w.heap.size, 0, none⟩)] encStr (fun ss => ss.Perm (strKeys D0)) (Maps.size D0) (w.alloc (.cells #[.map (some b)] 25)) :=
    AnyZ.keys_gives (ρ := Yba.keys11_ren) { Yba.keys11 with } Fence.wide _ trivial rfl (by omega) w.heap.size b nn D0 _ (by simp) (by simp) (by
      obtain ⟨es, clock, hb, Ft, hs, hD⟩ := hown
      exact ⟨es, clock, (Below.heap_alloc _ _ b hbl).trans hb, Ft, hs, hD⟩)
  exact AnyZ.sorted_in Yba.sorted10 Fence.wide 5 trivial trivial trivial trivial rfl (by omega) (Yba.sorts10 _) (enters_of Yba.func14 (by kernel_rfl) rfl) 15 #[.pointer (some ⟨w.heap.size, 0, none⟩)] trivial (enters_of Yba.func15 (by kernel_rfl) rfl) _ _ hmax hbytes _ hseq

set_option maxHeartbeats 1000000 in
theorem Yba.slices_Sorted_keys_nil_10_11 (w : World) :
    CallsIn Fence.wide 5 Yba.prog 10 #[.func (.func 15) #[] #[.pointer (some ⟨w.heap.size, 0, none⟩)]] (w.alloc (.cells #[.map none] 25)) fun e w' => ∃ (v : Value) (ss : List (List UInt8)), e = .returned v ∧ ss = [] ∧
      w'.ownsRow (w.alloc (.cells #[.map none] 25)).heap.size 9 1 v ss.length ((ss.mergeSort (fun x y => decide (x ≤ y))).map encStr) ∧ (v = .slice none 0 0 ↔ ss = []) ∧ Below (w.alloc (.cells #[.map none] 25)).heap.size (w.alloc (.cells #[.map none] 25)) w' := by
  have hseq : SeqGives Fence.wide 2 Yba.prog 15 #[.pointer (some ⟨w.heap.size, 0, none⟩)] encStr (fun ss : List (List UInt8) => ss = []) 0 (w.alloc (.cells #[.map none] 25)) :=
    AnyZ.keys_gives_nil (ρ := Yba.keys11_ren) { Yba.keys11 with } Fence.wide _ trivial rfl w.heap.size _ (by simp) (by simp)
  exact AnyZ.sorted_in Yba.sorted10 Fence.wide 5 trivial trivial trivial trivial rfl (by omega) (Yba.sorts10 _) (enters_of Yba.func14 (by kernel_rfl) rfl) 15 #[.pointer (some ⟨w.heap.size, 0, none⟩)] trivial (enters_of Yba.func15 (by kernel_rfl) rfl) _ 0 (Nat.zero_le _) (by omega) _ hseq



end Go.Proofs
