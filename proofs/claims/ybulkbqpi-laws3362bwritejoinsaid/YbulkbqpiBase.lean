/-
  THE GROUND OF BOTH JOIN LAWS: the shelf's bytes.Join and bytes.Clone laid at this dump; small laws on 'HoldsBytes'.
-/
import Derived.Test.YbulkbqpiRows
import Derived.Shelf.Bytes.SlJoin
import Derived.Shelf.Bytes.SlClone
import Derived.WalkKit
import Derived.WalkSpells
import Derived.WalkLawsBesides
import Derived.Laws.CopyOwn
import Derived.ArgAppend
import Derived.Deep.QuietTactic
import Derived.BigQuiet
import Derived.Deep.RegionWith
namespace Go.Proofs.Ybulkbqpi
open Go.RowKit Go.Shelf

def renJ : Go.Shelf.Ren := ⟨fun | 14 => 10 | 15 => 12 | n => n, fun | 22 => 23 | 26 => 22 | n => n, fun n => n⟩
theorem laysJ : SlLaysJ.n14 Yba.prog renJ := {
  mixed := by kernel_rfl
  f14 := Yba.func10.trans (congrArg some (by kernel_rfl))
  f15 := Yba.func12.trans (congrArg some (by kernel_rfl))
  t0 := Yba.underlying0
  a0 := Yba.isAgg0
  z0 := Yba.sizeOf0
  v0 := Yba.zeroValue0
  t3 := Yba.underlying3
  a3 := Yba.isAgg3
  z3 := Yba.sizeOf3
  v3 := Yba.zeroValue3
  t4 := Yba.underlying4
  a4 := Yba.isAgg4
  z4 := Yba.sizeOf4
  v4 := Yba.zeroValue4
  t9 := Yba.underlying9
  a9 := Yba.isAgg9
  z9 := Yba.sizeOf9
  v9 := Yba.zeroValue9
  t20 := Yba.underlying20
  a20 := Yba.isAgg20
  z20 := Yba.sizeOf20
  v20 := Yba.zeroValue20
  t22 := Yba.underlying23
  a22 := Yba.isAgg23
  z22 := Yba.sizeOf23
  v22 := Yba.zeroValue23
  t26 := Yba.underlying22
  a26 := Yba.isAgg22
  z26 := Yba.sizeOf22
  v26 := Yba.zeroValue22
  t5 := Yba.underlying5
  z5 := Yba.sizeOf5
  i5 := by kernel_rfl }

def renK : Go.Shelf.Ren := ⟨fun | 4 => 11 | n => n, fun | 22 => 23 | n => n, fun n => n⟩
theorem laysK : SlLaysK.n4 Yba.prog renK := {
  mixed := by kernel_rfl
  f4 := Yba.func11.trans (congrArg some (by kernel_rfl))
  t4 := Yba.underlying4
  a4 := Yba.isAgg4
  z4 := Yba.sizeOf4
  v4 := Yba.zeroValue4
  t22 := Yba.underlying23
  a22 := Yba.isAgg23
  z22 := Yba.sizeOf23
  v22 := Yba.zeroValue23
  t5 := Yba.underlying5
  i5 := by kernel_rfl }

end Go.Proofs.Ybulkbqpi
