/-
  Contracts of Go's library at this dump, in plain words, laid by the kit's own program; of these what this claim stands on (wip/shelf_cut.py).
-/
import Derived.Shelf.Strings.Builder1
import Derived.Shelf.Strings.Builder2
import Derived.Shelf.Strings.OnBuilder
import Derived.Shelf.Strings.TrimSpace
import Derived.Shelf.Small.Utf8
import Derived.Shelf.Small.Bits
import Derived.Shelf.Small.Strs
import Derived.Shelf.Strings.BuilderF
import Derived.Shelf.Strings.BuilderK
import Derived.Shelf.Strings.BuilderRune
import Derived.Shelf.Strings.Builder2Cap
import Derived.Shelf.Strconv.Itoa0
import Derived.Shelf.Strings.Search1
import Derived.Ground.GgsProg
import Derived.Shelf.GgSortFunc.Insertion
import Derived.Shelf.GgSortFunc.Small
import Derived.Shelf.GgSortFunc.InsertionK
import Derived.Shelf.GgSortFunc.SmallK
import Derived.Shelf.GgSortFunc.Compose
import Derived.Shelf.GgSortFunc.LotD
import Derived.Shelf.Strings.Prefix
import Derived.Shelf.Strings.Fields
import Derived.Shelf.Strings.Fold
import Derived.Shelf.LaysM
import Derived.Shelf.Strings.SplitShaped
import Derived.Shelf.Unicode.Latin
import Derived.Shelf.Unicode.Decode
import Derived.Shelf.Unicode.DecodeSlow
import Derived.Shelf.Unicode.DecodeAny
import Derived.Shelf.Unicode.Is16White
import Derived.Shelf.Unicode.IsSpaceAny
import Derived.Shelf.Unicode.DecodeLast
import Derived.Shelf.Unicode.CaseLookup
import Derived.Shelf.Unicode.CaseConvert
import Derived.Shelf.Unicode.CaseTo
import Derived.Shelf.Unicode.CaseLaid
import Derived.Shelf.Unicode.Is16Any
import Derived.Shelf.Unicode.Is32Any
import Derived.Shelf.Unicode.ExclAny
import Derived.Shelf.SlSortFunc.Xorshift
import Derived.Shelf.SlSortFuncK.ComposeK
import Derived.Shelf.SlSortFuncK.SiftDownK
import Derived.Shelf.SlSortFuncK.HeapSortK
import Derived.Shelf.SlSortFuncK.PartialInsertionK
import Derived.Shelf.SlSortFuncK.LotDK
import Derived.Shelf.SlSortFuncK.PivotK
import Derived.Shelf.SlSortFuncK.PartitionK
import Derived.Test.YtldiamldbpobgaaGreatDoorProg
namespace Go.Proofs
open Go.Shelf
def Tryz.lays169_ren : Go.Shelf.Ren := ⟨fun | 169 => 58 | n => n, fun | 70 => 98 | 9 => 9 | 0 => 0 | 72 => 100 | 37 => 46 | 127 => 141 | 3 => 3 | 5 => 5 | n => n, fun | n => n⟩
theorem Tryz.lays169 : Go.Proofs.Lays.n169 Tryz.prog Tryz.lays169_ren := {
  mixed := by kernel_rfl
  f169 := Tryz.func58.trans (congrArg some (by kernel_rfl))
  t0 := Tryz.underlying0
  a0 := Tryz.isAgg0
  z0 := Tryz.sizeOf0
  v0 := Tryz.zeroValue0
  t3 := Tryz.underlying3
  a3 := Tryz.isAgg3
  z3 := Tryz.sizeOf3
  v3 := Tryz.zeroValue3
  t9 := Tryz.underlying9
  a9 := Tryz.isAgg9
  z9 := Tryz.sizeOf9
  v9 := Tryz.zeroValue9
  t37 := Tryz.underlying46
  a37 := Tryz.isAgg46
  z37 := Tryz.sizeOf46
  v37 := Tryz.zeroValue46
  t70 := Tryz.underlying98
  a70 := Tryz.isAgg98
  z70 := Tryz.sizeOf98
  v70 := Tryz.zeroValue98
  t72 := Tryz.underlying100
  a72 := Tryz.isAgg100
  z72 := Tryz.sizeOf100
  v72 := Tryz.zeroValue100
  t127 := Tryz.underlying141
  a127 := Tryz.isAgg141
  z127 := Tryz.sizeOf141
  v127 := Tryz.zeroValue141 }
theorem Tryz.Builder_Extra_169 : Builder.Extra Tryz.prog Tryz.lays169_ren := {
  sizeBuilder := by kernel_rfl
  liesBuilder := by kernel_rfl
  t5 := Tryz.underlying5
  a5 := Tryz.isAgg5
  z5 := Tryz.sizeOf5
  v5 := Tryz.zeroValue5
  infoByte := by kernel_rfl
  cellsByte := by kernel_rfl
  sizeByte := by kernel_rfl
  neB5 := by decide }
def Tryz.lays158_ren : Go.Shelf.Ren := ⟨fun | 158 => 38 | 165 => 61 | 166 => 55 | 167 => 56 | 169 => 58 | 230 => 62 | 203 => 63 | 240 => 93 | 241 => 95 | 197 => 46 | 118 => 96 | 168 => 97 | 270 => 98 | 262 => 99 | 276 => 106 | 277 => 107 | 260 => 85 | 242 => 108 | 313 => 109 | 278 => 111 | 274 => 86 | 275 => 87 | n => n, fun | 9 => 9 | 4 => 4 | 3 => 3 | 5 => 5 | 72 => 100 | 0 => 0 | 76 => 101 | 75 => 40 | 107 => 88 | 70 => 98 | 20 => 20 | 37 => 46 | 127 => 141 | 21 => 21 | 105 => 86 | 164 => 72 | 162 => 129 | 203 => 166 | 119 => 64 | 46 => 81 | 139 => 156 | 138 => 155 | 51 => 89 | 160 => 127 | 208 => 160 | 206 => 158 | 80 => 103 | n => n, fun | 13 => 4 | 3 => 5 | 4 => 6 | n => n⟩
theorem Tryz.lays158 : Go.Proofs.Lays.n158 Tryz.prog Tryz.lays158_ren := {
  mixed := by kernel_rfl
  f118 := Tryz.func96.trans (congrArg some (by kernel_rfl))
  f158 := Tryz.func38.trans (congrArg some (by kernel_rfl))
  f165 := Tryz.func61.trans (congrArg some (by kernel_rfl))
  f166 := Tryz.func55.trans (congrArg some (by kernel_rfl))
  f167 := Tryz.func56.trans (congrArg some (by kernel_rfl))
  f168 := Tryz.func97.trans (congrArg some (by kernel_rfl))
  f169 := Tryz.func58.trans (congrArg some (by kernel_rfl))
  f197 := Tryz.func46.trans (congrArg some (by kernel_rfl))
  f203 := Tryz.func63.trans (congrArg some (by kernel_rfl))
  f230 := Tryz.func62.trans (congrArg some (by kernel_rfl))
  f240 := Tryz.func93.trans (congrArg some (by kernel_rfl))
  f241 := Tryz.func95.trans (congrArg some (by kernel_rfl))
  f242 := Tryz.func108.trans (congrArg some (by kernel_rfl))
  f260 := Tryz.func85.trans (congrArg some (by kernel_rfl))
  f262 := Tryz.func99.trans (congrArg some (by kernel_rfl))
  f270 := Tryz.func98.trans (congrArg some (by kernel_rfl))
  f274 := Tryz.func86.trans (congrArg some (by kernel_rfl))
  f275 := Tryz.func87.trans (congrArg some (by kernel_rfl))
  f276 := Tryz.func106.trans (congrArg some (by kernel_rfl))
  f277 := Tryz.func107.trans (congrArg some (by kernel_rfl))
  f278 := Tryz.func111.trans (congrArg some (by kernel_rfl))
  f313 := Tryz.func109.trans (congrArg some (by kernel_rfl))
  t0 := Tryz.underlying0
  a0 := Tryz.isAgg0
  z0 := Tryz.sizeOf0
  v0 := Tryz.zeroValue0
  t3 := Tryz.underlying3
  a3 := Tryz.isAgg3
  z3 := Tryz.sizeOf3
  v3 := Tryz.zeroValue3
  t4 := Tryz.underlying4
  a4 := Tryz.isAgg4
  z4 := Tryz.sizeOf4
  v4 := Tryz.zeroValue4
  t5 := Tryz.underlying5
  a5 := Tryz.isAgg5
  z5 := Tryz.sizeOf5
  v5 := Tryz.zeroValue5
  t9 := Tryz.underlying9
  a9 := Tryz.isAgg9
  z9 := Tryz.sizeOf9
  v9 := Tryz.zeroValue9
  t20 := Tryz.underlying20
  a20 := Tryz.isAgg20
  z20 := Tryz.sizeOf20
  v20 := Tryz.zeroValue20
  t21 := Tryz.underlying21
  a21 := Tryz.isAgg21
  z21 := Tryz.sizeOf21
  v21 := Tryz.zeroValue21
  t37 := Tryz.underlying46
  a37 := Tryz.isAgg46
  z37 := Tryz.sizeOf46
  v37 := Tryz.zeroValue46
  t46 := Tryz.underlying81
  a46 := Tryz.isAgg81
  z46 := Tryz.sizeOf81
  v46 := Tryz.zeroValue81
  t51 := Tryz.underlying89
  a51 := Tryz.isAgg89
  z51 := Tryz.sizeOf89
  v51 := Tryz.zeroValue89
  t70 := Tryz.underlying98
  a70 := Tryz.isAgg98
  z70 := Tryz.sizeOf98
  v70 := Tryz.zeroValue98
  t72 := Tryz.underlying100
  a72 := Tryz.isAgg100
  z72 := Tryz.sizeOf100
  v72 := Tryz.zeroValue100
  t75 := Tryz.underlying40
  a75 := Tryz.isAgg40
  z75 := Tryz.sizeOf40
  v75 := Tryz.zeroValue40
  t76 := Tryz.underlying101
  a76 := Tryz.isAgg101
  z76 := Tryz.sizeOf101
  v76 := Tryz.zeroValue101
  t105 := Tryz.underlying86
  a105 := Tryz.isAgg86
  z105 := Tryz.sizeOf86
  v105 := Tryz.zeroValue86
  t107 := Tryz.underlying88
  a107 := Tryz.isAgg88
  z107 := Tryz.sizeOf88
  v107 := Tryz.zeroValue88
  t119 := Tryz.underlying64
  a119 := Tryz.isAgg64
  z119 := Tryz.sizeOf64
  t127 := Tryz.underlying141
  a127 := Tryz.isAgg141
  z127 := Tryz.sizeOf141
  v127 := Tryz.zeroValue141
  t138 := Tryz.underlying155
  a138 := Tryz.isAgg155
  z138 := Tryz.sizeOf155
  v138 := Tryz.zeroValue155
  t139 := Tryz.underlying156
  a139 := Tryz.isAgg156
  z139 := Tryz.sizeOf156
  v139 := Tryz.zeroValue156
  t160 := Tryz.underlying127
  a160 := Tryz.isAgg127
  z160 := Tryz.sizeOf127
  v160 := Tryz.zeroValue127
  t162 := Tryz.underlying129
  a162 := Tryz.isAgg129
  z162 := Tryz.sizeOf129
  v162 := Tryz.zeroValue129
  t164 := Tryz.underlying72
  a164 := Tryz.isAgg72
  z164 := Tryz.sizeOf72
  v164 := Tryz.zeroValue72
  t203 := Tryz.underlying166
  a203 := Tryz.isAgg166
  z203 := Tryz.sizeOf166
  v203 := Tryz.zeroValue166
  t206 := Tryz.underlying158
  a206 := Tryz.isAgg158
  z206 := Tryz.sizeOf158
  v206 := Tryz.zeroValue158
  t208 := Tryz.underlying160
  a208 := Tryz.isAgg160
  z208 := Tryz.sizeOf160
  v208 := Tryz.zeroValue160
  g3 := by kernel_rfl
  g4 := by kernel_rfl
  g13 := by kernel_rfl }
theorem Tryz.Builder_Extra_158 : Builder.Extra Tryz.prog Tryz.lays158_ren := {
  sizeBuilder := by kernel_rfl
  liesBuilder := by kernel_rfl
  t5 := Tryz.underlying5
  a5 := Tryz.isAgg5
  z5 := Tryz.sizeOf5
  v5 := Tryz.zeroValue5
  infoByte := by kernel_rfl
  cellsByte := by kernel_rfl
  sizeByte := by kernel_rfl
  neB5 := by decide }
open Go.RowKit in
theorem Tryz.strings_ToUpper_ascii (s : ByteArray) (w : World) (hs : s.size ≤ 140737488355328) (hascii : ∀ (j : Nat) (b : UInt8), s.data.toList[j]? = some b → b.toNat < 128) :
    Calls Tryz.prog 38 #[.string s] w fun e w' => e = .returned (.string ⟨(Lib.toUpperA s.data.toList).toArray⟩) ∧ Below w.heap.size w w' := Any.strings_ToUpper_ascii Tryz.lays158 Tryz.Builder_Extra_158 s w hs hascii
def Tryz.lays163_ren : Go.Shelf.Ren := ⟨fun | 163 => 21 | 237 => 28 | 199 => 29 | 238 => 30 | 272 => 48 | 261 => 49 | 273 => 50 | 197 => 46 | 315 => 88 | 311 => 89 | 312 => 90 | 271 => 91 | 260 => 85 | 120 => 105 | n => n, fun | 9 => 9 | 37 => 46 | 3 => 3 | 0 => 0 | 5 => 5 | 4 => 4 | 40 => 63 | 119 => 64 | 21 => 21 | 51 => 89 | 141 => 91 | 105 => 86 | 196 => 134 | 193 => 131 | 198 => 136 | 49 => 122 | 194 => 132 | 201 => 139 | 226 => 161 | 46 => 81 | 227 => 162 | 139 => 156 | 138 => 155 | n => n, fun | 0 => 0 | 6 => 1 | 3 => 5 | 4 => 6 | n => n⟩
theorem Tryz.lays163 : Go.Proofs.Lays.n163 Tryz.prog Tryz.lays163_ren := {
  mixed := by kernel_rfl
  f120 := Tryz.func105.trans (congrArg some (by kernel_rfl))
  f163 := Tryz.func21.trans (congrArg some (by kernel_rfl))
  f197 := Tryz.func46.trans (congrArg some (by kernel_rfl))
  f199 := Tryz.func29.trans (congrArg some (by kernel_rfl))
  f237 := Tryz.func28.trans (congrArg some (by kernel_rfl))
  f238 := Tryz.func30.trans (congrArg some (by kernel_rfl))
  f260 := Tryz.func85.trans (congrArg some (by kernel_rfl))
  f261 := Tryz.func49.trans (congrArg some (by kernel_rfl))
  f271 := Tryz.func91.trans (congrArg some (by kernel_rfl))
  f272 := Tryz.func48.trans (congrArg some (by kernel_rfl))
  f273 := Tryz.func50.trans (congrArg some (by kernel_rfl))
  f311 := Tryz.func89.trans (congrArg some (by kernel_rfl))
  f312 := Tryz.func90.trans (congrArg some (by kernel_rfl))
  f315 := Tryz.func88.trans (congrArg some (by kernel_rfl))
  t0 := Tryz.underlying0
  a0 := Tryz.isAgg0
  z0 := Tryz.sizeOf0
  v0 := Tryz.zeroValue0
  t3 := Tryz.underlying3
  a3 := Tryz.isAgg3
  z3 := Tryz.sizeOf3
  v3 := Tryz.zeroValue3
  t4 := Tryz.underlying4
  a4 := Tryz.isAgg4
  z4 := Tryz.sizeOf4
  v4 := Tryz.zeroValue4
  t5 := Tryz.underlying5
  a5 := Tryz.isAgg5
  z5 := Tryz.sizeOf5
  v5 := Tryz.zeroValue5
  t9 := Tryz.underlying9
  a9 := Tryz.isAgg9
  z9 := Tryz.sizeOf9
  v9 := Tryz.zeroValue9
  t21 := Tryz.underlying21
  a21 := Tryz.isAgg21
  z21 := Tryz.sizeOf21
  v21 := Tryz.zeroValue21
  t37 := Tryz.underlying46
  a37 := Tryz.isAgg46
  z37 := Tryz.sizeOf46
  v37 := Tryz.zeroValue46
  t40 := Tryz.underlying63
  a40 := Tryz.isAgg63
  z40 := Tryz.sizeOf63
  v40 := Tryz.zeroValue63
  t46 := Tryz.underlying81
  a46 := Tryz.isAgg81
  z46 := Tryz.sizeOf81
  v46 := Tryz.zeroValue81
  t49 := Tryz.underlying122
  a49 := Tryz.isAgg122
  z49 := Tryz.sizeOf122
  v49 := Tryz.zeroValue122
  t51 := Tryz.underlying89
  a51 := Tryz.isAgg89
  z51 := Tryz.sizeOf89
  v51 := Tryz.zeroValue89
  t105 := Tryz.underlying86
  a105 := Tryz.isAgg86
  z105 := Tryz.sizeOf86
  v105 := Tryz.zeroValue86
  t119 := Tryz.underlying64
  a119 := Tryz.isAgg64
  z119 := Tryz.sizeOf64
  t138 := Tryz.underlying155
  a138 := Tryz.isAgg155
  z138 := Tryz.sizeOf155
  v138 := Tryz.zeroValue155
  t139 := Tryz.underlying156
  a139 := Tryz.isAgg156
  z139 := Tryz.sizeOf156
  v139 := Tryz.zeroValue156
  t141 := Tryz.underlying91
  a141 := Tryz.isAgg91
  z141 := Tryz.sizeOf91
  v141 := Tryz.zeroValue91
  t193 := Tryz.underlying131
  a193 := Tryz.isAgg131
  z193 := Tryz.sizeOf131
  v193 := Tryz.zeroValue131
  t194 := Tryz.underlying132
  a194 := Tryz.isAgg132
  z194 := Tryz.sizeOf132
  v194 := Tryz.zeroValue132
  t196 := Tryz.underlying134
  a196 := Tryz.isAgg134
  z196 := Tryz.sizeOf134
  v196 := Tryz.zeroValue134
  t198 := Tryz.underlying136
  a198 := Tryz.isAgg136
  z198 := Tryz.sizeOf136
  v198 := Tryz.zeroValue136
  t201 := Tryz.underlying139
  a201 := Tryz.isAgg139
  z201 := Tryz.sizeOf139
  v201 := Tryz.zeroValue139
  t226 := Tryz.underlying161
  a226 := Tryz.isAgg161
  z226 := Tryz.sizeOf161
  v226 := Tryz.zeroValue161
  t227 := Tryz.underlying162
  a227 := Tryz.isAgg162
  z227 := Tryz.sizeOf162
  v227 := Tryz.zeroValue162
  g0 := by kernel_rfl
  g3 := by kernel_rfl
  g4 := by kernel_rfl
  g6 := by kernel_rfl }
theorem Tryz.Space_Extra_163 : Space.Extra Tryz.prog Tryz.lays163_ren := {
  gNamed := by kernel_rfl }
open Go.RowKit in
theorem Tryz.strings_TrimSpace (s : ByteArray) (w : World) (hs : s.size ≤ 9223372036854775807) (hascii : ∀ (j : Nat) b, s.data.toList[j]? = some b → b.toNat < 128) (htab : Lib.TabIs Tryz.prog w "strings.asciiSpace" .u8 Lib.asciiSpaceTab) :
    Calls Tryz.prog 21 #[.string s] w fun e w' => e = .returned (.string ⟨(Lib.trimSpace s.data.toList).toArray⟩) ∧ w' = Lib.bytesWorld w 5 s := Any.strings_TrimSpace Tryz.lays163 Tryz.Space_Extra_163 s w hs hascii htab
open Go.RowKit in
theorem Tryz.Builder_String_any_k (B b : Nat) (l : List UInt8) (w : World) (h : Lib.IsBuilderF 100 5 B b (Lib.byteCells l) w) (hBw : B ≤ w.heap.size) :
    Calls Tryz.prog 58 #[.pointer (some ⟨b, 0, none⟩)] w fun e w' => e = .returned (.string ⟨l.toArray⟩) ∧ (Lib.IsBuilderF 100 5 B b (Lib.byteCells l) w' ∧ Below B w w' ∧ Lib.OthersKept 5 (some b) w w') := Any.Builder_String_any_k Tryz.lays169 Tryz.Builder_Extra_169 B b l w h hBw
def Tryz.lays99_ren : Go.Shelf.Ren := ⟨fun | 99 => 44 | 206 => 83 | n => n, fun | 9 => 9 | 4 => 4 | 3 => 3 | n => n, fun | n => n⟩
theorem Tryz.lays99 : Go.Proofs.Lays.n99 Tryz.prog Tryz.lays99_ren := {
  mixed := by kernel_rfl
  f99 := Tryz.func44.trans (congrArg some (by kernel_rfl))
  f206 := Tryz.func83.trans (congrArg some (by kernel_rfl))
  t3 := Tryz.underlying3
  a3 := Tryz.isAgg3
  z3 := Tryz.sizeOf3
  v3 := Tryz.zeroValue3
  t4 := Tryz.underlying4
  a4 := Tryz.isAgg4
  z4 := Tryz.sizeOf4
  v4 := Tryz.zeroValue4
  t9 := Tryz.underlying9
  a9 := Tryz.isAgg9
  z9 := Tryz.sizeOf9
  v9 := Tryz.zeroValue9 }
open Go.RowKit Go.Lib in
theorem Tryz.strings_HasPrefix (s p : ByteArray) (w : World) :
    Calls Tryz.prog 44 #[.string s, .string p] w fun e w' => e = .returned (.bool (Lib.hasPrefix s.data.toList p.data.toList)) ∧ w' = w := Any.strings_HasPrefix Tryz.lays99 s p w
def Tryz.lays100_ren : Go.Shelf.Ren := ⟨fun | 100 => 57 | 207 => 94 | n => n, fun | 9 => 9 | 4 => 4 | 3 => 3 | n => n, fun | n => n⟩
theorem Tryz.lays100 : Go.Proofs.Lays.n100 Tryz.prog Tryz.lays100_ren := {
  mixed := by kernel_rfl
  f100 := Tryz.func57.trans (congrArg some (by kernel_rfl))
  f207 := Tryz.func94.trans (congrArg some (by kernel_rfl))
  t3 := Tryz.underlying3
  a3 := Tryz.isAgg3
  z3 := Tryz.sizeOf3
  v3 := Tryz.zeroValue3
  t4 := Tryz.underlying4
  a4 := Tryz.isAgg4
  z4 := Tryz.sizeOf4
  v4 := Tryz.zeroValue4
  t9 := Tryz.underlying9
  a9 := Tryz.isAgg9
  z9 := Tryz.sizeOf9
  v9 := Tryz.zeroValue9 }
open Go.RowKit Go.Lib in
theorem Tryz.strings_HasSuffix (s p : ByteArray) (w : World) (hs : s.size ≤ 9223372036854775807) :
    Calls Tryz.prog 57 #[.string s, .string p] w fun e w' => e = .returned (.bool (Lib.hasSuffix s.data.toList p.data.toList)) ∧ w' = w := Any.strings_HasSuffix Tryz.lays100 s p w hs
def Tryz.lays101_ren : Go.Shelf.Ren := ⟨fun | 101 => 45 | 208 => 84 | 206 => 83 | n => n, fun | 9 => 9 | 4 => 4 | 3 => 3 | n => n, fun | n => n⟩
theorem Tryz.lays101 : Go.Proofs.Lays.n101 Tryz.prog Tryz.lays101_ren := {
  mixed := by kernel_rfl
  f101 := Tryz.func45.trans (congrArg some (by kernel_rfl))
  f206 := Tryz.func83.trans (congrArg some (by kernel_rfl))
  f208 := Tryz.func84.trans (congrArg some (by kernel_rfl))
  t3 := Tryz.underlying3
  a3 := Tryz.isAgg3
  z3 := Tryz.sizeOf3
  v3 := Tryz.zeroValue3
  t4 := Tryz.underlying4
  a4 := Tryz.isAgg4
  z4 := Tryz.sizeOf4
  v4 := Tryz.zeroValue4
  t9 := Tryz.underlying9
  a9 := Tryz.isAgg9
  z9 := Tryz.sizeOf9
  v9 := Tryz.zeroValue9 }
open Go.RowKit Go.Lib in
theorem Tryz.strings_TrimPrefix (s p : ByteArray) (w : World) :
    Calls Tryz.prog 45 #[.string s, .string p] w fun e w' => e = .returned (.string ⟨(Lib.trimPrefix s.data.toList p.data.toList).toArray⟩) ∧ w' = w := Any.strings_TrimPrefix Tryz.lays101 s p w
def Tryz.lays157_ren : Go.Shelf.Ren := ⟨fun | 157 => 36 | 229 => 59 | 199 => 29 | 261 => 49 | 311 => 89 | 312 => 90 | n => n, fun | 9 => 9 | 31 => 69 | 3 => 3 | 5 => 5 | 4 => 4 | 119 => 64 | 0 => 0 | 40 => 63 | 152 => 142 | 21 => 21 | 154 => 144 | 51 => 89 | 141 => 91 | 196 => 134 | 193 => 131 | 198 => 136 | 49 => 122 | 194 => 132 | 201 => 139 | 226 => 161 | 46 => 81 | 227 => 162 | n => n, fun | 0 => 0 | 6 => 1 | n => n⟩
theorem Tryz.lays157 : Go.Proofs.Lays.n157 Tryz.prog Tryz.lays157_ren := {
  mixed := by kernel_rfl
  f157 := Tryz.func36.trans (congrArg some (by kernel_rfl))
  f199 := Tryz.func29.trans (congrArg some (by kernel_rfl))
  f229 := Tryz.func59.trans (congrArg some (by kernel_rfl))
  f261 := Tryz.func49.trans (congrArg some (by kernel_rfl))
  f311 := Tryz.func89.trans (congrArg some (by kernel_rfl))
  f312 := Tryz.func90.trans (congrArg some (by kernel_rfl))
  t0 := Tryz.underlying0
  a0 := Tryz.isAgg0
  z0 := Tryz.sizeOf0
  v0 := Tryz.zeroValue0
  t3 := Tryz.underlying3
  a3 := Tryz.isAgg3
  z3 := Tryz.sizeOf3
  v3 := Tryz.zeroValue3
  t4 := Tryz.underlying4
  a4 := Tryz.isAgg4
  z4 := Tryz.sizeOf4
  v4 := Tryz.zeroValue4
  t5 := Tryz.underlying5
  a5 := Tryz.isAgg5
  z5 := Tryz.sizeOf5
  v5 := Tryz.zeroValue5
  t9 := Tryz.underlying9
  a9 := Tryz.isAgg9
  z9 := Tryz.sizeOf9
  v9 := Tryz.zeroValue9
  t21 := Tryz.underlying21
  a21 := Tryz.isAgg21
  z21 := Tryz.sizeOf21
  v21 := Tryz.zeroValue21
  t31 := Tryz.underlying69
  a31 := Tryz.isAgg69
  z31 := Tryz.sizeOf69
  v31 := Tryz.zeroValue69
  t40 := Tryz.underlying63
  a40 := Tryz.isAgg63
  z40 := Tryz.sizeOf63
  v40 := Tryz.zeroValue63
  t46 := Tryz.underlying81
  a46 := Tryz.isAgg81
  z46 := Tryz.sizeOf81
  v46 := Tryz.zeroValue81
  t49 := Tryz.underlying122
  a49 := Tryz.isAgg122
  z49 := Tryz.sizeOf122
  v49 := Tryz.zeroValue122
  t51 := Tryz.underlying89
  a51 := Tryz.isAgg89
  z51 := Tryz.sizeOf89
  v51 := Tryz.zeroValue89
  t119 := Tryz.underlying64
  a119 := Tryz.isAgg64
  z119 := Tryz.sizeOf64
  t141 := Tryz.underlying91
  a141 := Tryz.isAgg91
  z141 := Tryz.sizeOf91
  v141 := Tryz.zeroValue91
  t152 := Tryz.underlying142
  a152 := Tryz.isAgg142
  z152 := Tryz.sizeOf142
  v152 := Tryz.zeroValue142
  t154 := Tryz.underlying144
  a154 := Tryz.isAgg144
  z154 := Tryz.sizeOf144
  v154 := Tryz.zeroValue144
  t193 := Tryz.underlying131
  a193 := Tryz.isAgg131
  z193 := Tryz.sizeOf131
  v193 := Tryz.zeroValue131
  t194 := Tryz.underlying132
  a194 := Tryz.isAgg132
  z194 := Tryz.sizeOf132
  v194 := Tryz.zeroValue132
  t196 := Tryz.underlying134
  a196 := Tryz.isAgg134
  z196 := Tryz.sizeOf134
  v196 := Tryz.zeroValue134
  t198 := Tryz.underlying136
  a198 := Tryz.isAgg136
  z198 := Tryz.sizeOf136
  v198 := Tryz.zeroValue136
  t201 := Tryz.underlying139
  a201 := Tryz.isAgg139
  z201 := Tryz.sizeOf139
  v201 := Tryz.zeroValue139
  t226 := Tryz.underlying161
  a226 := Tryz.isAgg161
  z226 := Tryz.sizeOf161
  v226 := Tryz.zeroValue161
  t227 := Tryz.underlying162
  a227 := Tryz.isAgg162
  z227 := Tryz.sizeOf162
  v227 := Tryz.zeroValue162
  g0 := by kernel_rfl
  g6 := by kernel_rfl }
open Go.RowKit Go.Lib in
theorem Tryz.strings_Fields (s : ByteArray) (w : World) (hs : s.size < 4294967281) (hascii : ∀ (j : Nat) b, s.data.toList[j]? = some b → b.toNat < 128) (htab : Lib.TabIs Tryz.prog w "strings.asciiSpace" .u8 Lib.asciiSpaceTab) :
    Calls Tryz.prog 36 #[.string s] w fun e w' =>
      e = .returned (.slice (some ⟨w.heap.size, 0, none⟩) (Lib.fields s.data.toList).length (Lib.fields s.data.toList).length) ∧ w' = w.alloc (.cells ((Lib.fields s.data.toList).map fun l => Value.string ⟨l.toArray⟩).toArray 9) := Any.strings_Fields Tryz.lays157 (by kernel_rfl) (by kernel_rfl) s w hs hascii htab
def Tryz.lays164_ren : Go.Shelf.Ren := ⟨fun | 164 => 27 | 197 => 46 | 239 => 47 | 260 => 85 | 274 => 86 | 275 => 87 | n => n, fun | 9 => 9 | 4 => 4 | 3 => 3 | 5 => 5 | 0 => 0 | 21 => 21 | 105 => 86 | 156 => 123 | 49 => 122 | 157 => 124 | 46 => 81 | 159 => 126 | 162 => 129 | 160 => 127 | 119 => 64 | 139 => 156 | 138 => 155 | 208 => 160 | 51 => 89 | 206 => 158 | n => n, fun | 11 => 2 | 12 => 3 | 13 => 4 | 3 => 5 | 4 => 6 | n => n⟩
theorem Tryz.lays164 : Go.Proofs.Lays.n164 Tryz.prog Tryz.lays164_ren := {
  mixed := by kernel_rfl
  f164 := Tryz.func27.trans (congrArg some (by kernel_rfl))
  f197 := Tryz.func46.trans (congrArg some (by kernel_rfl))
  f239 := Tryz.func47.trans (congrArg some (by kernel_rfl))
  f260 := Tryz.func85.trans (congrArg some (by kernel_rfl))
  f274 := Tryz.func86.trans (congrArg some (by kernel_rfl))
  f275 := Tryz.func87.trans (congrArg some (by kernel_rfl))
  t0 := Tryz.underlying0
  a0 := Tryz.isAgg0
  z0 := Tryz.sizeOf0
  v0 := Tryz.zeroValue0
  t3 := Tryz.underlying3
  a3 := Tryz.isAgg3
  z3 := Tryz.sizeOf3
  v3 := Tryz.zeroValue3
  t4 := Tryz.underlying4
  a4 := Tryz.isAgg4
  z4 := Tryz.sizeOf4
  v4 := Tryz.zeroValue4
  t5 := Tryz.underlying5
  a5 := Tryz.isAgg5
  z5 := Tryz.sizeOf5
  v5 := Tryz.zeroValue5
  t9 := Tryz.underlying9
  a9 := Tryz.isAgg9
  z9 := Tryz.sizeOf9
  v9 := Tryz.zeroValue9
  t21 := Tryz.underlying21
  a21 := Tryz.isAgg21
  z21 := Tryz.sizeOf21
  v21 := Tryz.zeroValue21
  t46 := Tryz.underlying81
  a46 := Tryz.isAgg81
  z46 := Tryz.sizeOf81
  v46 := Tryz.zeroValue81
  t49 := Tryz.underlying122
  a49 := Tryz.isAgg122
  z49 := Tryz.sizeOf122
  v49 := Tryz.zeroValue122
  t51 := Tryz.underlying89
  a51 := Tryz.isAgg89
  z51 := Tryz.sizeOf89
  v51 := Tryz.zeroValue89
  t105 := Tryz.underlying86
  a105 := Tryz.isAgg86
  z105 := Tryz.sizeOf86
  v105 := Tryz.zeroValue86
  t119 := Tryz.underlying64
  a119 := Tryz.isAgg64
  z119 := Tryz.sizeOf64
  t138 := Tryz.underlying155
  a138 := Tryz.isAgg155
  z138 := Tryz.sizeOf155
  v138 := Tryz.zeroValue155
  t139 := Tryz.underlying156
  a139 := Tryz.isAgg156
  z139 := Tryz.sizeOf156
  v139 := Tryz.zeroValue156
  t156 := Tryz.underlying123
  a156 := Tryz.isAgg123
  z156 := Tryz.sizeOf123
  t157 := Tryz.underlying124
  a157 := Tryz.isAgg124
  z157 := Tryz.sizeOf124
  v157 := Tryz.zeroValue124
  t159 := Tryz.underlying126
  a159 := Tryz.isAgg126
  z159 := Tryz.sizeOf126
  v159 := Tryz.zeroValue126
  t160 := Tryz.underlying127
  a160 := Tryz.isAgg127
  z160 := Tryz.sizeOf127
  v160 := Tryz.zeroValue127
  t162 := Tryz.underlying129
  a162 := Tryz.isAgg129
  z162 := Tryz.sizeOf129
  v162 := Tryz.zeroValue129
  t206 := Tryz.underlying158
  a206 := Tryz.isAgg158
  z206 := Tryz.sizeOf158
  v206 := Tryz.zeroValue158
  t208 := Tryz.underlying160
  a208 := Tryz.isAgg160
  z208 := Tryz.sizeOf160
  v208 := Tryz.zeroValue160
  g3 := by kernel_rfl
  g4 := by kernel_rfl
  g11 := by kernel_rfl
  g12 := by kernel_rfl
  g13 := by kernel_rfl }
open Go.RowKit Go.Lib in
theorem Tryz.strings_EqualFold (s t : ByteArray) (w : World) (hs : s.size < 4294967281) (has : ∀ (j : Nat) b, s.data.toList[j]? = some b → b.toNat < 128) (hat : ∀ (j : Nat) b, t.data.toList[j]? = some b → b.toNat < 128) :
    Calls Tryz.prog 27 #[.string s, .string t] w fun e w' => e = .returned (.bool (Lib.equalFold s.data.toList t.data.toList)) ∧ w' = w := Any.strings_EqualFold Tryz.lays164 s t w hs has hat
end Go.Proofs
