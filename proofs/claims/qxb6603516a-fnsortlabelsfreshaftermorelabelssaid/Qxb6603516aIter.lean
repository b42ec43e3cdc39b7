import Derived.Shelf.SlIter.Nil
import Derived.Shelf.SortM.Plain
import Derived.Shelf.SortM.SortNone
import Derived.Test.Qxb6603516aRows
namespace Go.Proofs.Qxb6603516a
open Go.RowKit Go.Maps Go.Sort Go.Shelf

def Try.keys19_ren : Go.Shelf.Ren := ⟨fun | 7 => 19 | 10 => 22 | n => n, fun | 23 => 37 | 26 => 9 | 3 => 35 | 28 => 42 | 0 => 0 | 27 => 41 | 33 => 45 | 4 => 4 | n => n, fun | n => n⟩
theorem Try.keys19 : Go.Proofs.SlLaysZ.n7 Try.prog Try.keys19_ren := {
  mixed := by kernel_rfl
  f7 := ⟨Try.f19.name, by kernel_rfl, Try.func19.trans (congrArg some (by kernel_rfl))⟩
  f10 := ⟨Try.f22.name, by kernel_rfl, Try.func22.trans (congrArg some (by kernel_rfl))⟩
  t0 := Try.underlying0
  a0 := Try.isAgg0
  z0 := Try.sizeOf0
  v0 := Try.zeroValue0
  t4 := Try.underlying4
  a4 := Try.isAgg4
  z4 := Try.sizeOf4
  v4 := Try.zeroValue4
  t23 := Try.underlying37
  a23 := Try.isAgg37
  z23 := Try.sizeOf37
  v23 := Try.zeroValue37
  t26 := Try.underlying9
  a26 := Try.isAgg9
  z26 := Try.sizeOf9
  v26 := Try.zeroValue9
  t27 := Try.underlying41
  a27 := Try.isAgg41
  z27 := Try.sizeOf41
  v27 := Try.zeroValue41
  t28 := Try.underlying42
  a28 := Try.isAgg42
  z28 := Try.sizeOf42
  v28 := Try.zeroValue42
  t33 := Try.underlying45
  a33 := Try.isAgg45
  z33 := Try.sizeOf45
  v33 := Try.zeroValue45 }

def Try.sorted18_ren : Go.Shelf.Ren := ⟨fun | 6 => 18 | 8 => 20 | 9 => 21 | 11 => 23 | 13 => 25 | 12 => 24 | 23 => 35 | 24 => 36 | 14 => 26 | 15 => 27 | 16 => 28 | 17 => 29 | 18 => 30 | 19 => 31 | 20 => 32 | 21 => 33 | 22 => 34 | 25 => 37 | 26 => 38 | 27 => 39 | 28 => 40 | 29 => 41 | 30 => 42 | 31 => 43 | n => n, fun | 26 => 9 | 28 => 42 | 24 => 22 | 0 => 0 | 3 => 3 | 37 => 49 | 48 => 60 | 50 => 62 | 4 => 4 | 40 => 52 | 39 => 51 | 45 => 57 | 5 => 5 | 9 => 9 | 51 => 63 | 55 => 67 | 57 => 69 | 58 => 70 | 33 => 45 | n => n, fun | n => n⟩
theorem Try.sorted18 : Go.Proofs.SlLaysZ.n6 Try.prog Try.sorted18_ren := {
  mixed := by kernel_rfl
  f6 := ⟨Try.f18.name, by kernel_rfl, Try.func18.trans (congrArg some (by kernel_rfl))⟩
  f8 := ⟨Try.f20.name, by kernel_rfl, Try.func20.trans (congrArg some (by kernel_rfl))⟩
  f11 := ⟨Try.f23.name, by kernel_rfl, Try.func23.trans (congrArg some (by kernel_rfl))⟩
  t0 := Try.underlying0
  a0 := Try.isAgg0
  z0 := Try.sizeOf0
  v0 := Try.zeroValue0
  t24 := Try.underlying22
  a24 := Try.isAgg22
  z24 := Try.sizeOf22
  v24 := Try.zeroValue22
  t26 := Try.underlying9
  a26 := Try.isAgg9
  z26 := Try.sizeOf9
  v26 := Try.zeroValue9
  t28 := Try.underlying42
  a28 := Try.isAgg42
  z28 := Try.sizeOf42
  v28 := Try.zeroValue42
  i26 := by kernel_rfl }

def Try.sort21_ren : Go.Shelf.Ren := ⟨fun | 6 => 21 | 8 => 25 | 9 => 24 | 19 => 35 | 20 => 36 | 21 => 26 | 22 => 27 | 23 => 28 | 24 => 29 | 25 => 30 | 26 => 31 | 27 => 32 | 28 => 33 | 29 => 34 | 36 => 37 | 31 => 38 | 32 => 39 | 37 => 40 | 38 => 41 | 39 => 42 | 41 => 43 | n => n, fun | 27 => 22 | 29 => 9 | 3 => 3 | 32 => 49 | 26 => 22 | 0 => 0 | 44 => 60 | 46 => 62 | 4 => 4 | 36 => 52 | 35 => 51 | 41 => 57 | 5 => 5 | 9 => 9 | 53 => 63 | 57 => 67 | 63 => 69 | 64 => 70 | n => n, fun | n => n⟩
theorem Try.sort21 : Go.Proofs.SlLaysM.n6 Try.prog Try.sort21_ren := {
  mixed := by kernel_rfl
  f6 := ⟨Try.f21.name, by kernel_rfl, Try.func21.trans (congrArg some (by kernel_rfl))⟩
  f8 := Try.func25.trans (congrArg some (by kernel_rfl))
  f9 := ⟨Try.f24.name, by kernel_rfl, Try.func24.trans (congrArg some (by kernel_rfl))⟩
  f19 := Try.func35.trans (congrArg some (by kernel_rfl))
  f20 := Try.func36.trans (congrArg some (by kernel_rfl))
  f21 := ⟨Try.f26.name, by kernel_rfl, Try.func26.trans (congrArg some (by kernel_rfl))⟩
  f22 := ⟨Try.f27.name, by kernel_rfl, Try.func27.trans (congrArg some (by kernel_rfl))⟩
  f23 := ⟨Try.f28.name, by kernel_rfl, Try.func28.trans (congrArg some (by kernel_rfl))⟩
  f24 := ⟨Try.f29.name, by kernel_rfl, Try.func29.trans (congrArg some (by kernel_rfl))⟩
  f25 := ⟨Try.f30.name, by kernel_rfl, Try.func30.trans (congrArg some (by kernel_rfl))⟩
  f26 := ⟨Try.f31.name, by kernel_rfl, Try.func31.trans (congrArg some (by kernel_rfl))⟩
  f27 := ⟨Try.f32.name, by kernel_rfl, Try.func32.trans (congrArg some (by kernel_rfl))⟩
  f28 := ⟨Try.f33.name, by kernel_rfl, Try.func33.trans (congrArg some (by kernel_rfl))⟩
  f29 := ⟨Try.f34.name, by kernel_rfl, Try.func34.trans (congrArg some (by kernel_rfl))⟩
  f31 := Try.func38.trans (congrArg some (by kernel_rfl))
  f32 := Try.func39.trans (congrArg some (by kernel_rfl))
  f36 := ⟨Try.f37.name, by kernel_rfl, Try.func37.trans (congrArg some (by kernel_rfl))⟩
  f37 := ⟨Try.f40.name, by kernel_rfl, Try.func40.trans (congrArg some (by kernel_rfl))⟩
  f38 := ⟨Try.f41.name, by kernel_rfl, Try.func41.trans (congrArg some (by kernel_rfl))⟩
  f39 := ⟨Try.f42.name, by kernel_rfl, Try.func42.trans (congrArg some (by kernel_rfl))⟩
  f41 := ⟨Try.f43.name, by kernel_rfl, Try.func43.trans (congrArg some (by kernel_rfl))⟩
  t0 := Try.underlying0
  a0 := Try.isAgg0
  z0 := Try.sizeOf0
  v0 := Try.zeroValue0
  t3 := Try.underlying3
  a3 := Try.isAgg3
  z3 := Try.sizeOf3
  v3 := Try.zeroValue3
  t4 := Try.underlying4
  a4 := Try.isAgg4
  z4 := Try.sizeOf4
  v4 := Try.zeroValue4
  t5 := Try.underlying5
  a5 := Try.isAgg5
  z5 := Try.sizeOf5
  v5 := Try.zeroValue5
  t9 := Try.underlying9
  a9 := Try.isAgg9
  z9 := Try.sizeOf9
  v9 := Try.zeroValue9
  t26 := Try.underlying22
  a26 := Try.isAgg22
  z26 := Try.sizeOf22
  v26 := Try.zeroValue22
  t27 := Try.underlying22
  a27 := Try.isAgg22
  z27 := Try.sizeOf22
  v27 := Try.zeroValue22
  t29 := Try.underlying9
  a29 := Try.isAgg9
  z29 := Try.sizeOf9
  v29 := Try.zeroValue9
  t32 := Try.underlying49
  a32 := Try.isAgg49
  z32 := Try.sizeOf49
  v32 := Try.zeroValue49
  t35 := Try.underlying51
  a35 := Try.isAgg51
  z35 := Try.sizeOf51
  v35 := Try.zeroValue51
  t36 := Try.underlying52
  a36 := Try.isAgg52
  z36 := Try.sizeOf52
  v36 := Try.zeroValue52
  t41 := Try.underlying57
  a41 := Try.isAgg57
  z41 := Try.sizeOf57
  v41 := Try.zeroValue57
  t44 := Try.underlying60
  a44 := Try.isAgg60
  z44 := Try.sizeOf60
  v44 := Try.zeroValue60
  t46 := Try.underlying62
  a46 := Try.isAgg62
  z46 := Try.sizeOf62
  v46 := Try.zeroValue62
  t53 := Try.underlying63
  a53 := Try.isAgg63
  z53 := Try.sizeOf63
  v53 := Try.zeroValue63
  t57 := Try.underlying67
  a57 := Try.isAgg67
  z57 := Try.sizeOf67
  v57 := Try.zeroValue67
  t63 := Try.underlying69
  a63 := Try.isAgg69
  z63 := Try.sizeOf69
  v63 := Try.zeroValue69
  t64 := Try.underlying70
  a64 := Try.isAgg70
  z64 := Try.sizeOf70
  v64 := Try.zeroValue70 }

theorem Try.sorts18 (m : Nat) : AnyZ.SortsIn Try.prog Try.sorted18_ren Fence.wide m :=
  ⟨fun blk off cap ss W hH hblk hsz => callsIn_wide.2 (AnyM.slices_Sort_string Try.sort21 blk off cap ss W hH hblk hsz),
   fun p cap W => callsIn_wide.2 (AnyM.slices_Sort_string_none Try.sort21 p cap W)⟩

theorem Try.maps_Keys_19 (mb : Option Nat) (W : World) : CallsIn Fence.wide 5 Try.prog 19 #[.map mb] W fun e w' => e = .returned (.func (.func 22) #[] #[.pointer (some ⟨W.heap.size, 0, none⟩)]) ∧ w' = W.alloc (.cells #[.map mb] 37) :=
  AnyZ.keys_in Try.keys19 Fence.wide 5 trivial rfl mb W

set_option maxHeartbeats 1000000 in
theorem Try.slices_Sorted_keys_18_19 {H : Type} (b nn : Nat) (D0 : DataW H) (R : Value → Option (DataW H × List MemPlace)) (w : World) (hown : w.ownsMap Try.prog 9 R b nn D0) (hmax : Maps.size D0 ≤ maxLen) (hbytes : Maps.size D0 * 16 ≤ 140737488355328) :
    CallsIn Fence.wide 5 Try.prog 18 #[.func (.func 22) #[] #[.pointer (some ⟨w.heap.size, 0, none⟩)]] (w.alloc (.cells #[.map (some b)] 37)) fun e w' => ∃ (v : Value) (ss : List (List UInt8)), e = .returned v ∧ ss.Perm (strKeys D0) ∧
      w'.ownsRow (w.alloc (.cells #[.map (some b)] 37)).heap.size 9 1 v ss.length ((ss.mergeSort (fun x y => decide (x ≤ y))).map encStr) ∧ (v = .slice none 0 0 ↔ ss = []) ∧ Below (w.alloc (.cells #[.map (some b)] 37)).heap.size (w.alloc (.cells #[.map (some b)] 37)) w' := by
  have hbl := hown.lt
  have hseq : SeqGives Fence.wide 2 Try.prog 22 #[.pointer (some ⟨w.heap.size, 0, none⟩)] encStr (fun ss => ss.Perm (strKeys D0)) (Maps.size D0) (w.alloc (.cells #[.map (some b)] 37)) :=
    AnyZ.keys_gives (ρ := Try.keys19_ren) { Try.keys19 with } Fence.wide _ trivial rfl (by omega) w.heap.size b nn D0 _ (by simp) (by simp) (by
      obtain ⟨es, clock, hb, Ft, hs, hD⟩ := hown
      exact ⟨es, clock, (Below.heap_alloc _ _ b hbl).trans hb, Ft, hs, hD⟩)
  exact AnyZ.sorted_in Try.sorted18 Fence.wide 5 trivial trivial trivial trivial rfl (by omega) (Try.sorts18 _) (enters_of Try.func21 (by kernel_rfl) rfl) 22 #[.pointer (some ⟨w.heap.size, 0, none⟩)] trivial (enters_of Try.func22 (by kernel_rfl) rfl) _ _ hmax hbytes _ hseq

set_option maxHeartbeats 1000000 in
theorem Try.slices_Sorted_keys_nil_18_19 (w : World) :
    CallsIn Fence.wide 5 Try.prog 18 #[.func (.func 22) #[] #[.pointer (some ⟨w.heap.size, 0, none⟩)]] (w.alloc (.cells #[.map none] 37)) fun e w' => ∃ (v : Value) (ss : List (List UInt8)), e = .returned v ∧ ss = [] ∧
      w'.ownsRow (w.alloc (.cells #[.map none] 37)).heap.size 9 1 v ss.length ((ss.mergeSort (fun x y => decide (x ≤ y))).map encStr) ∧ (v = .slice none 0 0 ↔ ss = []) ∧ Below (w.alloc (.cells #[.map none] 37)).heap.size (w.alloc (.cells #[.map none] 37)) w' := by
  have hseq : SeqGives Fence.wide 2 Try.prog 22 #[.pointer (some ⟨w.heap.size, 0, none⟩)] encStr (fun ss : List (List UInt8) => ss = []) 0 (w.alloc (.cells #[.map none] 37)) :=
    AnyZ.keys_gives_nil (ρ := Try.keys19_ren) { Try.keys19 with } Fence.wide _ trivial rfl w.heap.size _ (by simp) (by simp)
  exact AnyZ.sorted_in Try.sorted18 Fence.wide 5 trivial trivial trivial trivial rfl (by omega) (Try.sorts18 _) (enters_of Try.func21 (by kernel_rfl) rfl) 22 #[.pointer (some ⟨w.heap.size, 0, none⟩)] trivial (enters_of Try.func22 (by kernel_rfl) rfl) _ 0 (Nat.zero_le _) (by omega) _ hseq



end Go.Proofs.Qxb6603516a
