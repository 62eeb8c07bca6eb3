/-
  Contracts of Go's library at this dump, in plain words, laid by the kit's own program; of these what this claim stands on (wip/shelf_cut.py).
-/
import Derived.Shelf.Strings.Builder1
import Derived.Shelf.Strings.Builder2
import Derived.Shelf.Strings.OnBuilder
import Derived.Shelf.Strings.TrimSpace
import Derived.Shelf.Small.Utf8
import Derived.Shelf.Small.Bits
import Derived.Shelf.Small.Strs
import Derived.Shelf.Strings.BuilderF
import Derived.Shelf.Strings.BuilderK
import Derived.Shelf.Strings.BuilderRune
import Derived.Shelf.Strings.Builder2Cap
import Derived.Shelf.Strconv.Itoa0
import Derived.Shelf.Strings.Search1
import Derived.Ground.GgsProg
import Derived.Shelf.GgSortFunc.Insertion
import Derived.Shelf.GgSortFunc.Small
import Derived.Shelf.GgSortFunc.InsertionK
import Derived.Shelf.GgSortFunc.SmallK
import Derived.Shelf.GgSortFunc.Tiny
import Derived.Shelf.GgSortFunc.Compose
import Derived.Shelf.GgSortFunc.LotD
import Derived.Shelf.GgSortFunc.Pivot
import Derived.Shelf.GgSortFunc.Partition
import Derived.Shelf.GgSortFunc.Pdq
import Derived.Shelf.GgSortFunc.Whole
import Derived.Shelf.Strings.Prefix
import Derived.Shelf.Strings.Fields
import Derived.Shelf.Strings.Fold
import Derived.Shelf.LaysM
import Derived.Shelf.Strings.SplitShaped
import Derived.Shelf.Unicode.Latin
import Derived.Shelf.Unicode.Decode
import Derived.Shelf.Unicode.DecodeSlow
import Derived.Shelf.Unicode.DecodeAny
import Derived.Shelf.Unicode.Is16White
import Derived.Shelf.Unicode.IsSpaceAny
import Derived.Shelf.Unicode.DecodeLast
import Derived.Shelf.Unicode.CaseLookup
import Derived.Shelf.Unicode.CaseConvert
import Derived.Shelf.Unicode.CaseTo
import Derived.Shelf.Unicode.CaseLaid
import Derived.Shelf.Unicode.Is16Any
import Derived.Shelf.Unicode.Is32Any
import Derived.Shelf.Unicode.ExclAny
import Derived.Shelf.SlSortFunc.Xorshift
import Derived.Shelf.SlSortFuncK.ComposeK
import Derived.Shelf.SlSortFuncK.SiftDownK
import Derived.Shelf.SlSortFuncK.HeapSortK
import Derived.Shelf.SlSortFuncK.PartialInsertionK
import Derived.Shelf.SlSortFuncK.LotDK
import Derived.Shelf.SlSortFuncK.PivotK
import Derived.Shelf.SlSortFuncK.PartitionK
import Derived.Shelf.SlSortFunc.SiftDown
import Derived.Shelf.SlSortFunc.HeapSort
import Derived.Shelf.SlSortFunc.PartialInsertion
import Derived.Shelf.SlSortFuncK.PdqK
import Derived.Shelf.SlSortFuncK.WholeK
import Derived.Test.YtldiamldbpobgaaGreatDoorProg
namespace Go.Proofs
open Go.Shelf
def Tryz.claysGg6_ren : Go.Shelf.Ren := ⟨fun | 6 => 24 | 10 => 39 | 11 => 40 | 12 => 41 | 13 => 42 | 14 => 43 | 24 => 73 | 25 => 74 | 26 => 75 | 27 => 76 | 28 => 77 | 29 => 78 | 30 => 79 | 31 => 80 | 32 => 81 | 33 => 82 | 34 => 100 | 35 => 101 | 36 => 102 | 37 => 103 | 38 => 104 | 39 => 110 | n => n, fun | 20 => 20 | 26 => 55 | 35 => 75 | 0 => 0 | 37 => 77 | 3 => 3 | 41 => 81 | 44 => 84 | 49 => 89 | 51 => 113 | 4 => 4 | 54 => 116 | 53 => 115 | 58 => 120 | 5 => 5 | 9 => 9 | 60 => 148 | 64 => 152 | 66 => 168 | 67 => 169 | 17 => 17 | 32 => 72 | 33 => 73 | 82 => 182 | 12 => 12 | 75 => 176 | 76 => 177 | 77 => 178 | 78 => 141 | 79 => 179 | 80 => 180 | n => n, fun | n => n⟩
theorem Tryz.claysGg6 : Go.Proofs.LaysGg.n6 Tryz.prog Tryz.claysGg6_ren := {
  mixed := by kernel_rfl
  f6 := Tryz.func24.trans (congrArg some (by kernel_rfl))
  f10 := Tryz.func39.trans (congrArg some (by kernel_rfl))
  f11 := Tryz.func40.trans (congrArg some (by kernel_rfl))
  f12 := Tryz.func41.trans (congrArg some (by kernel_rfl))
  f13 := Tryz.func42.trans (congrArg some (by kernel_rfl))
  f14 := Tryz.func43.trans (congrArg some (by kernel_rfl))
  f24 := Tryz.func73.trans (congrArg some (by kernel_rfl))
  f25 := Tryz.func74.trans (congrArg some (by kernel_rfl))
  f26 := Tryz.func75.trans (congrArg some (by kernel_rfl))
  f27 := Tryz.func76.trans (congrArg some (by kernel_rfl))
  f28 := Tryz.func77.trans (congrArg some (by kernel_rfl))
  f29 := Tryz.func78.trans (congrArg some (by kernel_rfl))
  f30 := Tryz.func79.trans (congrArg some (by kernel_rfl))
  f31 := Tryz.func80.trans (congrArg some (by kernel_rfl))
  f32 := Tryz.func81.trans (congrArg some (by kernel_rfl))
  f33 := Tryz.func82.trans (congrArg some (by kernel_rfl))
  f34 := Tryz.func100.trans (congrArg some (by kernel_rfl))
  f35 := Tryz.func101.trans (congrArg some (by kernel_rfl))
  f36 := Tryz.func102.trans (congrArg some (by kernel_rfl))
  f37 := Tryz.func103.trans (congrArg some (by kernel_rfl))
  f38 := Tryz.func104.trans (congrArg some (by kernel_rfl))
  f39 := Tryz.func110.trans (congrArg some (by kernel_rfl))
  t0 := Tryz.underlying0
  a0 := Tryz.isAgg0
  z0 := Tryz.sizeOf0
  v0 := Tryz.zeroValue0
  i0 := by kernel_rfl
  t3 := Tryz.underlying3
  a3 := Tryz.isAgg3
  z3 := Tryz.sizeOf3
  v3 := Tryz.zeroValue3
  i3 := by kernel_rfl
  t4 := Tryz.underlying4
  a4 := Tryz.isAgg4
  z4 := Tryz.sizeOf4
  v4 := Tryz.zeroValue4
  i4 := by kernel_rfl
  t5 := Tryz.underlying5
  a5 := Tryz.isAgg5
  z5 := Tryz.sizeOf5
  v5 := Tryz.zeroValue5
  i5 := by kernel_rfl
  t9 := Tryz.underlying9
  a9 := Tryz.isAgg9
  z9 := Tryz.sizeOf9
  v9 := Tryz.zeroValue9
  i9 := by kernel_rfl
  t12 := Tryz.underlying12
  a12 := Tryz.isAgg12
  z12 := Tryz.sizeOf12
  v12 := Tryz.zeroValue12
  i12 := by kernel_rfl
  t17 := Tryz.underlying17
  a17 := Tryz.isAgg17
  z17 := Tryz.sizeOf17
  v17 := Tryz.zeroValue17
  i17 := by kernel_rfl
  t20 := Tryz.underlying20
  a20 := Tryz.isAgg20
  z20 := Tryz.sizeOf20
  v20 := Tryz.zeroValue20
  i20 := by kernel_rfl
  t26 := Tryz.underlying55
  a26 := Tryz.isAgg55
  z26 := Tryz.sizeOf55
  v26 := Tryz.zeroValue55
  i26 := by kernel_rfl
  t32 := Tryz.underlying72
  a32 := Tryz.isAgg72
  z32 := Tryz.sizeOf72
  v32 := Tryz.zeroValue72
  i32 := by kernel_rfl
  t33 := Tryz.underlying73
  a33 := Tryz.isAgg73
  z33 := Tryz.sizeOf73
  v33 := Tryz.zeroValue73
  i33 := by kernel_rfl
  t35 := Tryz.underlying75
  a35 := Tryz.isAgg75
  z35 := Tryz.sizeOf75
  v35 := Tryz.zeroValue75
  i35 := by kernel_rfl
  t37 := Tryz.underlying77
  a37 := Tryz.isAgg77
  z37 := Tryz.sizeOf77
  v37 := Tryz.zeroValue77
  i37 := by kernel_rfl
  t41 := Tryz.underlying81
  a41 := Tryz.isAgg81
  z41 := Tryz.sizeOf81
  v41 := Tryz.zeroValue81
  i41 := by kernel_rfl
  t44 := Tryz.underlying84
  a44 := Tryz.isAgg84
  z44 := Tryz.sizeOf84
  v44 := Tryz.zeroValue84
  i44 := by kernel_rfl
  t49 := Tryz.underlying89
  a49 := Tryz.isAgg89
  z49 := Tryz.sizeOf89
  v49 := Tryz.zeroValue89
  i49 := by kernel_rfl
  t51 := Tryz.underlying113
  a51 := Tryz.isAgg113
  z51 := Tryz.sizeOf113
  v51 := Tryz.zeroValue113
  i51 := by kernel_rfl
  t53 := Tryz.underlying115
  a53 := Tryz.isAgg115
  z53 := Tryz.sizeOf115
  v53 := Tryz.zeroValue115
  i53 := by kernel_rfl
  t54 := Tryz.underlying116
  a54 := Tryz.isAgg116
  z54 := Tryz.sizeOf116
  v54 := Tryz.zeroValue116
  i54 := by kernel_rfl
  t58 := Tryz.underlying120
  a58 := Tryz.isAgg120
  z58 := Tryz.sizeOf120
  v58 := Tryz.zeroValue120
  i58 := by kernel_rfl
  t60 := Tryz.underlying148
  a60 := Tryz.isAgg148
  z60 := Tryz.sizeOf148
  v60 := Tryz.zeroValue148
  i60 := by kernel_rfl
  t64 := Tryz.underlying152
  a64 := Tryz.isAgg152
  z64 := Tryz.sizeOf152
  v64 := Tryz.zeroValue152
  i64 := by kernel_rfl
  t66 := Tryz.underlying168
  a66 := Tryz.isAgg168
  z66 := Tryz.sizeOf168
  v66 := Tryz.zeroValue168
  i66 := by kernel_rfl
  t67 := Tryz.underlying169
  a67 := Tryz.isAgg169
  z67 := Tryz.sizeOf169
  v67 := Tryz.zeroValue169
  i67 := by kernel_rfl
  t75 := Tryz.underlying176
  a75 := Tryz.isAgg176
  z75 := Tryz.sizeOf176
  v75 := Tryz.zeroValue176
  i75 := by kernel_rfl
  t76 := Tryz.underlying177
  a76 := Tryz.isAgg177
  z76 := Tryz.sizeOf177
  v76 := Tryz.zeroValue177
  i76 := by kernel_rfl
  t77 := Tryz.underlying178
  a77 := Tryz.isAgg178
  z77 := Tryz.sizeOf178
  v77 := Tryz.zeroValue178
  i77 := by kernel_rfl
  t78 := Tryz.underlying141
  a78 := Tryz.isAgg141
  z78 := Tryz.sizeOf141
  v78 := Tryz.zeroValue141
  i78 := by kernel_rfl
  t79 := Tryz.underlying179
  a79 := Tryz.isAgg179
  z79 := Tryz.sizeOf179
  v79 := Tryz.zeroValue179
  i79 := by kernel_rfl
  t80 := Tryz.underlying180
  a80 := Tryz.isAgg180
  z80 := Tryz.sizeOf180
  v80 := Tryz.zeroValue180
  i80 := by kernel_rfl
  t82 := Tryz.underlying182
  a82 := Tryz.isAgg182
  z82 := Tryz.sizeOf182
  v82 := Tryz.zeroValue182
  i82 := by kernel_rfl }
end Go.Proofs
