/-
  Contracts of Go's library at this dump, in plain words, laid by the kit's own program; of these what this claim stands on (wip/shelf_cut.py).
-/
import Derived.Shelf.Strconv.Itoa0
import Derived.Shelf.Strconv.Itoa1
import Derived.Shelf.LaysM
import Derived.Shelf.Strconv.Itoa2
import Derived.Shelf.Strconv.Itoa3
import Derived.Shelf.Strconv.Clone
import Derived.Shelf.Strconv.SyntaxError
import Derived.Shelf.LaysC
import Derived.Shelf.Strconv.ToError
import Derived.Shelf.Strconv.Lower
import Derived.Shelf.Strconv.ParseUint10
import Derived.Shelf.Strconv.ParseUint10Empty
import Derived.Shelf.Strconv.ParseUint10Any
import Derived.Shelf.Strconv.RangeError
import Derived.Shelf.Strconv.ToErrorRange
import Derived.Shelf.Strconv.ParseUintEmpty
import Derived.Shelf.Strconv.ParseUint10b64
import Derived.Shelf.Strconv.ParseUint10b32
import Derived.Shelf.Strconv.ParseUint10b16
import Derived.Shelf.Strconv.ParseUint10b8
import Derived.Shelf.Strconv.ParseUint10At
import Derived.Ground.MpProg
import Derived.Shelf.Pu.ParseUintPublic10
import Derived.Shelf.Pu.ErrVarParseUint
import Derived.Shelf.Strconv.AppendUint10
import Derived.Shelf.Strconv.AppendInt10
import Derived.Test.YtajifebphcgcpaaDoorProg
namespace Go.Proofs
open Go.Shelf
def Tryd.claysPu14_ren : Go.Shelf.Ren := ⟨fun | 14 => 59 | 16 => 65 | 17 => 66 | 19 => 69 | 20 => 70 | 21 => 71 | 22 => 72 | 23 => 73 | 24 => 74 | 25 => 75 | 27 => 77 | 26 => 76 | 28 => 78 | 29 => 79 | 30 => 55 | 31 => 56 | 32 => 57 | 33 => 58 | 35 => 61 | 34 => 60 | 36 => 62 | 37 => 63 | 38 => 64 | 39 => 67 | 40 => 68 | n => n, fun | 9 => 9 | 3 => 3 | 22 => 49 | 24 => 60 | 25 => 98 | 4 => 4 | 34 => 108 | 5 => 5 | 36 => 86 | 37 => 74 | 0 => 0 | 39 => 110 | 21 => 21 | 44 => 117 | 47 => 118 | 50 => 121 | 48 => 119 | 2 => 2 | 52 => 93 | 55 => 96 | 59 => 102 | 60 => 22 | 20 => 20 | 61 => 103 | 65 => 113 | 66 => 114 | 67 => 54 | n => n, fun | 0 => 3 | 1 => 4 | 2 => 0 | 3 => 1 | 4 => 2 | n => n⟩
theorem Tryd.claysPu14 : Go.Proofs.LaysPu.n14 Tryd.prog Tryd.claysPu14_ren := {
  mixed := by kernel_rfl
  f14 := Tryd.func59.trans (congrArg some (by kernel_rfl))
  f16 := Tryd.func65.trans (congrArg some (by kernel_rfl))
  f17 := Tryd.func66.trans (congrArg some (by kernel_rfl))
  f19 := Tryd.func69.trans (congrArg some (by kernel_rfl))
  f20 := Tryd.func70.trans (congrArg some (by kernel_rfl))
  f21 := Tryd.func71.trans (congrArg some (by kernel_rfl))
  f22 := Tryd.func72.trans (congrArg some (by kernel_rfl))
  f23 := Tryd.func73.trans (congrArg some (by kernel_rfl))
  f24 := Tryd.func74.trans (congrArg some (by kernel_rfl))
  f25 := Tryd.func75.trans (congrArg some (by kernel_rfl))
  f26 := Tryd.func76.trans (congrArg some (by kernel_rfl))
  f27 := Tryd.func77.trans (congrArg some (by kernel_rfl))
  f28 := Tryd.func78.trans (congrArg some (by kernel_rfl))
  f29 := Tryd.func79.trans (congrArg some (by kernel_rfl))
  f30 := Tryd.func55.trans (congrArg some (by kernel_rfl))
  f31 := Tryd.func56.trans (congrArg some (by kernel_rfl))
  f32 := Tryd.func57.trans (congrArg some (by kernel_rfl))
  f33 := Tryd.func58.trans (congrArg some (by kernel_rfl))
  f34 := Tryd.func60.trans (congrArg some (by kernel_rfl))
  f35 := Tryd.func61.trans (congrArg some (by kernel_rfl))
  f36 := Tryd.func62.trans (congrArg some (by kernel_rfl))
  f37 := Tryd.func63.trans (congrArg some (by kernel_rfl))
  f38 := Tryd.func64.trans (congrArg some (by kernel_rfl))
  f39 := Tryd.func67.trans (congrArg some (by kernel_rfl))
  f40 := Tryd.func68.trans (congrArg some (by kernel_rfl))
  t0 := Tryd.underlying0
  a0 := Tryd.isAgg0
  z0 := Tryd.sizeOf0
  v0 := Tryd.zeroValue0
  i0 := by kernel_rfl
  t2 := Tryd.underlying2
  a2 := Tryd.isAgg2
  z2 := Tryd.sizeOf2
  v2 := Tryd.zeroValue2
  i2 := by kernel_rfl
  t3 := Tryd.underlying3
  a3 := Tryd.isAgg3
  z3 := Tryd.sizeOf3
  v3 := Tryd.zeroValue3
  i3 := by kernel_rfl
  t4 := Tryd.underlying4
  a4 := Tryd.isAgg4
  z4 := Tryd.sizeOf4
  v4 := Tryd.zeroValue4
  i4 := by kernel_rfl
  t5 := Tryd.underlying5
  a5 := Tryd.isAgg5
  z5 := Tryd.sizeOf5
  v5 := Tryd.zeroValue5
  i5 := by kernel_rfl
  t9 := Tryd.underlying9
  a9 := Tryd.isAgg9
  z9 := Tryd.sizeOf9
  v9 := Tryd.zeroValue9
  i9 := by kernel_rfl
  t20 := Tryd.underlying20
  a20 := Tryd.isAgg20
  z20 := Tryd.sizeOf20
  v20 := Tryd.zeroValue20
  i20 := by kernel_rfl
  t21 := Tryd.underlying21
  a21 := Tryd.isAgg21
  z21 := Tryd.sizeOf21
  v21 := Tryd.zeroValue21
  i21 := by kernel_rfl
  t22 := Tryd.underlying49
  a22 := Tryd.isAgg49
  z22 := Tryd.sizeOf49
  v22 := Tryd.zeroValue49
  i22 := by kernel_rfl
  t24 := Tryd.underlying60
  a24 := Tryd.isAgg60
  z24 := Tryd.sizeOf60
  v24 := Tryd.zeroValue60
  i24 := by kernel_rfl
  t25 := Tryd.underlying98
  a25 := Tryd.isAgg98
  z25 := Tryd.sizeOf98
  v25 := Tryd.zeroValue98
  i25 := by kernel_rfl
  t34 := Tryd.underlying108
  a34 := Tryd.isAgg108
  z34 := Tryd.sizeOf108
  v34 := Tryd.zeroValue108
  i34 := by kernel_rfl
  c34 := by kernel_rfl
  t36 := Tryd.underlying86
  a36 := Tryd.isAgg86
  z36 := Tryd.sizeOf86
  v36 := Tryd.zeroValue86
  i36 := by kernel_rfl
  t37 := Tryd.underlying74
  a37 := Tryd.isAgg74
  z37 := Tryd.sizeOf74
  v37 := Tryd.zeroValue74
  i37 := by kernel_rfl
  t39 := Tryd.underlying110
  a39 := Tryd.isAgg110
  z39 := Tryd.sizeOf110
  v39 := Tryd.zeroValue110
  i39 := by kernel_rfl
  t44 := Tryd.underlying117
  a44 := Tryd.isAgg117
  z44 := Tryd.sizeOf117
  v44 := Tryd.zeroValue117
  i44 := by kernel_rfl
  t47 := Tryd.underlying118
  a47 := Tryd.isAgg118
  z47 := Tryd.sizeOf118
  v47 := Tryd.zeroValue118
  i47 := by kernel_rfl
  t48 := Tryd.underlying119
  a48 := Tryd.isAgg119
  z48 := Tryd.sizeOf119
  v48 := Tryd.zeroValue119
  i48 := by kernel_rfl
  t50 := Tryd.underlying121
  a50 := Tryd.isAgg121
  z50 := Tryd.sizeOf121
  v50 := Tryd.zeroValue121
  i50 := by kernel_rfl
  t52 := Tryd.underlying93
  a52 := Tryd.isAgg93
  z52 := Tryd.sizeOf93
  v52 := Tryd.zeroValue93
  i52 := by kernel_rfl
  t55 := Tryd.underlying96
  a55 := Tryd.isAgg96
  z55 := Tryd.sizeOf96
  v55 := Tryd.zeroValue96
  i55 := by kernel_rfl
  t59 := Tryd.underlying102
  a59 := Tryd.isAgg102
  z59 := Tryd.sizeOf102
  v59 := Tryd.zeroValue102
  i59 := by kernel_rfl
  t60 := Tryd.underlying22
  a60 := Tryd.isAgg22
  z60 := Tryd.sizeOf22
  v60 := Tryd.zeroValue22
  i60 := by kernel_rfl
  t61 := Tryd.underlying103
  a61 := Tryd.isAgg103
  z61 := Tryd.sizeOf103
  t65 := Tryd.underlying113
  a65 := Tryd.isAgg113
  z65 := Tryd.sizeOf113
  v65 := Tryd.zeroValue113
  i65 := by kernel_rfl
  t66 := Tryd.underlying114
  a66 := Tryd.isAgg114
  z66 := Tryd.sizeOf114
  v66 := Tryd.zeroValue114
  i66 := by kernel_rfl
  t67 := Tryd.underlying54
  a67 := Tryd.isAgg54
  z67 := Tryd.sizeOf54
  v67 := Tryd.zeroValue54
  i67 := by kernel_rfl
  g0 := by kernel_rfl
  m0 := by kernel_rfl
  g1 := by kernel_rfl
  m1 := by kernel_rfl
  g2 := by kernel_rfl
  m2 := by kernel_rfl
  g3 := by kernel_rfl
  m3 := by kernel_rfl
  g4 := by kernel_rfl
  m4 := by kernel_rfl }
open Go.RowKit in
theorem Tryd.cstrconv_ParseUint_10_at32_ok (s : ByteArray) (hmax : s.size ≤ 9223372036854775806) (u : Nat) (h : Lib.parseUintB 32 s.data.toList = .ok u) (w : World) :
    Calls Tryd.prog 59 #[.string s, .int .i64 10, .int .i64 32] w fun e w' => e = .returned (.tuple #[.int .u64 u, .nilIface]) ∧ (w' = w ∨ w' = Lib.bytesWorld w 5 s) := Any.strconv_ParseUint_10_at32_ok Tryd.claysPu14 s hmax u h w
open Go.RowKit in
theorem Tryd.cstrconv_ParseUint_10_at32_syntax (s : ByteArray) (hlim : s.size ≤ 281474976710656) (h : Lib.parseUintB 32 s.data.toList = Lib.parseUintB 32 []) (ev : Value) (w : World) (hv : w.cell? ⟨3, 0, none⟩ = some ev) (hev : ev = .nilIface ∨ ∃ te pe, ev = .iface te pe) :
    Calls Tryd.prog 59 #[.string s, .int .i64 10, .int .i64 32] w fun e w' => ∃ N, e = .returned (.tuple #[.int .u64 0, .iface 110 (.pointer (some ⟨N, 0, none⟩))]) ∧ w.heap.size ≤ N ∧ w'.heap[N]? = some (.cells #[.string ⟨#[80, 97, 114, 115, 101, 85, 105, 110, 116]⟩, .string s, ev] 117 (0, 0)) ∧ Below w.heap.size w w' := Any.strconv_ParseUint_10_at32_syntax Tryd.claysPu14 s hlim h ev w hv hev
open Go.RowKit in
theorem Tryd.cstrconv_ParseUint_10_at32_range (s : ByteArray) (hlim : s.size ≤ 281474976710656) (h : Lib.parseUintB 32 s.data.toList = .range) (ev : Value) (w : World) (hv : w.cell? ⟨4, 0, none⟩ = some ev) (hev : ev = .nilIface ∨ ∃ te pe, ev = .iface te pe) :
    Calls Tryd.prog 59 #[.string s, .int .i64 10, .int .i64 32] w fun e w' => ∃ N, e = .returned (.tuple #[.int .u64 4294967295, .iface 110 (.pointer (some ⟨N, 0, none⟩))]) ∧ w.heap.size ≤ N ∧ w'.heap[N]? = some (.cells #[.string ⟨#[80, 97, 114, 115, 101, 85, 105, 110, 116]⟩, .string s, ev] 117 (0, 0)) ∧ Below w.heap.size w w' := Any.strconv_ParseUint_10_at32_range Tryd.claysPu14 s hlim h ev w hv hev
end Go.Proofs
