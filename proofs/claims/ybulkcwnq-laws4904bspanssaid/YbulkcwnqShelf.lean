/-
  The shelf's layings at this program, in plain words (made by the kit's lay-plain.mjs): slices.SortFunc (function 7), slices.BinarySearchFunc (function 36).
-/
import Derived.Shelf.SlSortCmp.Whole1
import Derived.Shelf.SlCmpFuncs.BinarySearchFunc
import Derived.Test.YbulkcwnqProg
namespace Go.Proofs
open Go.Shelf
def Yba.laysSlF6_f7_ren : Go.Shelf.Ren := ⟨fun | 6 => 7 | 15 => 16 | 14 => 15 | 28 => 31 | 29 => 32 | 20 => 23 | 21 => 24 | 22 => 25 | 23 => 26 | 24 => 27 | 25 => 28 | 26 => 29 | 27 => 30 | 46 => 38 | 47 => 39 | 48 => 40 | 49 => 41 | 50 => 42 | 57 => 45 | n => n, fun | 22 => 77 | 24 => 23 | 25 => 79 | 3 => 3 | 39 => 124 | 0 => 0 | 53 => 26 | 55 => 27 | 4 => 4 | 46 => 143 | 45 => 142 | 50 => 147 | 5 => 5 | 9 => 9 | 66 => 157 | 70 => 161 | 76 => 164 | 77 => 127 | n => n, fun | n => n⟩
theorem Yba.laysSlF6_f7 : Go.Proofs.SlLaysF.n6 Yba.prog Yba.laysSlF6_f7_ren := {
  mixed := by kernel_rfl
  f6 := ⟨Yba.f7.name, by decide, Yba.func7.trans (congrArg some (by kernel_rfl))⟩
  f14 := ⟨Yba.f15.name, by decide, Yba.func15.trans (congrArg some (by kernel_rfl))⟩
  f15 := Yba.func16.trans (congrArg some (by kernel_rfl))
  f20 := ⟨Yba.f23.name, by decide, Yba.func23.trans (congrArg some (by kernel_rfl))⟩
  f21 := ⟨Yba.f24.name, by decide, Yba.func24.trans (congrArg some (by kernel_rfl))⟩
  f22 := ⟨Yba.f25.name, by decide, Yba.func25.trans (congrArg some (by kernel_rfl))⟩
  f23 := ⟨Yba.f26.name, by decide, Yba.func26.trans (congrArg some (by kernel_rfl))⟩
  f24 := ⟨Yba.f27.name, by decide, Yba.func27.trans (congrArg some (by kernel_rfl))⟩
  f25 := ⟨Yba.f28.name, by decide, Yba.func28.trans (congrArg some (by kernel_rfl))⟩
  f26 := ⟨Yba.f29.name, by decide, Yba.func29.trans (congrArg some (by kernel_rfl))⟩
  f27 := ⟨Yba.f30.name, by decide, Yba.func30.trans (congrArg some (by kernel_rfl))⟩
  f28 := Yba.func31.trans (congrArg some (by kernel_rfl))
  f29 := Yba.func32.trans (congrArg some (by kernel_rfl))
  f46 := ⟨Yba.f38.name, by decide, Yba.func38.trans (congrArg some (by kernel_rfl))⟩
  f47 := Yba.func39.trans (congrArg some (by kernel_rfl))
  f48 := Yba.func40.trans (congrArg some (by kernel_rfl))
  f49 := ⟨Yba.f41.name, by decide, Yba.func41.trans (congrArg some (by kernel_rfl))⟩
  f50 := ⟨Yba.f42.name, by decide, Yba.func42.trans (congrArg some (by kernel_rfl))⟩
  f57 := ⟨Yba.f45.name, by decide, Yba.func45.trans (congrArg some (by kernel_rfl))⟩
  t0 := Yba.underlying0
  a0 := Yba.isAgg0
  z0 := Yba.sizeOf0
  v0 := Yba.zeroValue0
  t3 := Yba.underlying3
  a3 := Yba.isAgg3
  z3 := Yba.sizeOf3
  v3 := Yba.zeroValue3
  t4 := Yba.underlying4
  a4 := Yba.isAgg4
  z4 := Yba.sizeOf4
  v4 := Yba.zeroValue4
  t5 := Yba.underlying5
  a5 := Yba.isAgg5
  z5 := Yba.sizeOf5
  v5 := Yba.zeroValue5
  t9 := Yba.underlying9
  a9 := Yba.isAgg9
  z9 := Yba.sizeOf9
  v9 := Yba.zeroValue9
  t22 := Yba.underlying77
  a22 := Yba.isAgg77
  z22 := Yba.sizeOf77
  v22 := Yba.zeroValue77
  a24 := Yba.isAgg23
  z24 := Yba.sizeOf23
  t25 := Yba.underlying79
  a25 := Yba.isAgg79
  z25 := Yba.sizeOf79
  v25 := Yba.zeroValue79
  t39 := Yba.underlying124
  a39 := Yba.isAgg124
  z39 := Yba.sizeOf124
  v39 := Yba.zeroValue124
  t45 := Yba.underlying142
  a45 := Yba.isAgg142
  z45 := Yba.sizeOf142
  v45 := Yba.zeroValue142
  t46 := Yba.underlying143
  a46 := Yba.isAgg143
  z46 := Yba.sizeOf143
  v46 := Yba.zeroValue143
  t50 := Yba.underlying147
  a50 := Yba.isAgg147
  z50 := Yba.sizeOf147
  v50 := Yba.zeroValue147
  t53 := Yba.underlying26
  a53 := Yba.isAgg26
  z53 := Yba.sizeOf26
  v53 := Yba.zeroValue26
  t55 := Yba.underlying27
  a55 := Yba.isAgg27
  z55 := Yba.sizeOf27
  v55 := Yba.zeroValue27
  t66 := Yba.underlying157
  a66 := Yba.isAgg157
  z66 := Yba.sizeOf157
  v66 := Yba.zeroValue157
  t70 := Yba.underlying161
  a70 := Yba.isAgg161
  z70 := Yba.sizeOf161
  v70 := Yba.zeroValue161
  t76 := Yba.underlying164
  a76 := Yba.isAgg164
  z76 := Yba.sizeOf164
  v76 := Yba.zeroValue164
  t77 := Yba.underlying127
  a77 := Yba.isAgg127
  z77 := Yba.sizeOf127
  v77 := Yba.zeroValue127 }
open Go.RowKit Go.Lib Go.Sort in
/-- **slices.SortFunc, IN THE DOCUMENTATION's OWN TERMS: A PERMUTATION OF WHAT THE ROW HELD, SORTED BY 'cmp(a, b) < 0'.** Which of two equals comes first is left open ("The sort is not guaranteed to be stable"). (LAID AT THE INSTANCE 'slices.SortFunc[[][]uint32,[]uint32]': no walk: one application.) -/
theorem Yba.slices_SortFunc {α : Type} [Inhabited α] (enc : α → Value) (h1 : OneCell enc) (cf : α → α → Int) (hO : SWO (ltOf cf)) (g : Nat) (cb : Array Value) (blk off cap : Nat) (d : Array α) (w : World) (eg : ∀ args w, (callFunc g args).run Yba.prog w = .ok (.enter g args) w) (hcmp : CmpLays1 Yba.prog g cb enc cf blk off d.size w) (hH : Holds enc w blk off d) (hblk : blk < w.heap.size) (hsz : d.size < 4611686018427387904) :
    Calls Yba.prog 7 #[.slice (some ⟨blk, off, none⟩) d.size cap, .func (.func g) #[] cb] w fun e w' =>
      e = .returned (.tuple #[]) ∧ ∃ d' n os, PermIn 0 d.size d d' ∧ SortedIn (ltOf cf) 0 d.size d' ∧ w' = sortWorld enc w blk off n d' os := Any.slices_SortFunc Yba.laysSlF6_f7 enc h1 cf hO g cb blk off cap d w eg hcmp hH hblk hsz
def Yba.laysSlG14_f36_ren : Go.Shelf.Ren := ⟨fun | 14 => 36 | n => n, fun | 22 => 57 | 24 => 3 | 29 => 2 | 32 => 152 | 3 => 3 | 4 => 4 | 35 => 124 | 0 => 0 | n => n, fun | n => n⟩
theorem Yba.laysSlG14_f36 : Go.Proofs.SlLaysG2.n14 Yba.prog Yba.laysSlG14_f36_ren := {
  mixed := by kernel_rfl
  f14 := ⟨Yba.f36.name, by decide, Yba.func36.trans (congrArg some (by kernel_rfl))⟩
  t0 := Yba.underlying0
  a0 := Yba.isAgg0
  z0 := Yba.sizeOf0
  v0 := Yba.zeroValue0
  t3 := Yba.underlying3
  a3 := Yba.isAgg3
  z3 := Yba.sizeOf3
  v3 := Yba.zeroValue3
  t4 := Yba.underlying4
  a4 := Yba.isAgg4
  z4 := Yba.sizeOf4
  v4 := Yba.zeroValue4
  t22 := Yba.underlying57
  a22 := Yba.isAgg57
  z22 := Yba.sizeOf57
  v22 := Yba.zeroValue57
  a24 := Yba.isAgg3
  z24 := Yba.sizeOf3
  a29 := Yba.isAgg2
  z29 := Yba.sizeOf2
  t32 := Yba.underlying152
  a32 := Yba.isAgg152
  z32 := Yba.sizeOf152
  v32 := Yba.zeroValue152
  t35 := Yba.underlying124
  a35 := Yba.isAgg124
  z35 := Yba.sizeOf124
  v35 := Yba.zeroValue124 }
open Go.RowKit Go.Lib Go.Sort in
theorem Yba.slices_BinarySearchFunc {α : Type} [Inhabited α] (enc : α → Value) (h1 : OneCell enc) (tv : Value) (cft : α → Int) (g : Nat) (cb : Array Value) (blk off cap : Nat) (d : Array α) (w0 : World) (eg : ∀ args w, (callFunc g args).run Yba.prog w = .ok (.enter g args) w) (hcmp : CmpLaysT Yba.prog g cb enc tv cft blk off d.size w0) (hH : Holds enc w0 blk off d) (hblk : blk < w0.heap.size) (hsz : d.size < 4611686018427387904) (hmono : ∀ a b, a ≤ b → b < d.size → cft d[b]! < 0 → cft d[a]! < 0) :
    Calls Yba.prog 36 #[.slice (some ⟨blk, off, none⟩) d.size cap, tv, .func (.func g) #[] cb] w0 fun e w' =>
      e = .returned (.tuple #[.int .i64 (d.toList.countP (fun x => decide (cft x < 0)) : Nat), .bool (decide (d.toList.countP (fun x => decide (cft x < 0)) < d.size) && decide (cft d[d.toList.countP (fun x => decide (cft x < 0))]! = 0))]) ∧ SW enc w0 blk off d w' := Any.slices_BinarySearchFunc Yba.laysSlG14_f36 enc h1 tv cft g cb blk off cap d w0 eg hcmp hH hblk hsz hmono
end Go.Proofs
