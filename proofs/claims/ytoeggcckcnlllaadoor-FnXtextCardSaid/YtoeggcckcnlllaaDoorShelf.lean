/-
  Contracts of Go's library at this dump, in plain words, laid by the kit's own program; of these what this claim stands on (wip/shelf_cut.py).
-/
import Derived.Shelf.Strings.Builder1
import Derived.Shelf.Strings.Builder2
import Derived.Shelf.Strings.OnBuilder
import Derived.Shelf.Small.Utf8
import Derived.Shelf.Strings.BuilderF
import Derived.Shelf.Strings.BuilderK
import Derived.Shelf.Strings.BuilderRune
import Derived.Shelf.Utf8.AppendRune
import Derived.Shelf.Utf8.AppendRunePlain
import Derived.Shelf.Strings.Builder2Cap
import Derived.Shelf.Strconv.Itoa0
import Derived.Shelf.Strconv.Itoa1
import Derived.Shelf.LaysM
import Derived.Shelf.Strconv.Itoa2
import Derived.Shelf.Strconv.Itoa3
import Derived.Shelf.Strconv.Itoa4
import Derived.Shelf.Strconv.ParseIntEmpty
import Derived.Shelf.Strconv.Clone
import Derived.Shelf.Strconv.SyntaxError
import Derived.Shelf.LaysC
import Derived.Shelf.Strconv.ToError
import Derived.Shelf.Strconv.Lower
import Derived.Shelf.Strconv.ParseUint10
import Derived.Shelf.Strconv.ParseUint10Empty
import Derived.Shelf.Strconv.ParseUint10Any
import Derived.Shelf.Strconv.ParseInt10
import Derived.Shelf.Strconv.RangeError
import Derived.Shelf.Strconv.ToErrorRange
import Derived.Shelf.Strconv.ParseUintEmpty
import Derived.Shelf.Strconv.ParseUint10b64
import Derived.Shelf.Strconv.ParseUint10b32
import Derived.Shelf.Strconv.ParseUint10b16
import Derived.Shelf.Strconv.ParseUint10b8
import Derived.Shelf.Strconv.ParseUint10At
import Derived.Shelf.Strconv.ParseInt10At32
import Derived.Shelf.Strconv.ParseInt10At16
import Derived.Shelf.Unicode.Latin
import Derived.Shelf.Unicode.Decode
import Derived.Shelf.Unicode.DecodeSlow
import Derived.Shelf.Unicode.DecodeAny
import Derived.Shelf.Unicode.CaseLookup
import Derived.Shelf.Unicode.CaseConvert
import Derived.Shelf.Unicode.CaseTo
import Derived.Shelf.Unicode.CaseLaid
import Derived.Shelf.Strings.BuilderCap
import Derived.Test.YtoeggcckcnlllaaDoorProg
namespace Go.Proofs
open Go.Shelf
def Tryd.lays169_ren : Go.Shelf.Ren := ⟨fun | 169 => 26 | n => n, fun | 70 => 43 | 9 => 9 | 0 => 0 | 72 => 45 | 37 => 32 | 127 => 61 | 3 => 3 | 5 => 5 | n => n, fun | n => n⟩
theorem Tryd.lays169 : Go.Proofs.Lays.n169 Tryd.prog Tryd.lays169_ren := {
  mixed := by kernel_rfl
  f169 := Tryd.func26.trans (congrArg some (by kernel_rfl))
  t0 := Tryd.underlying0
  a0 := Tryd.isAgg0
  z0 := Tryd.sizeOf0
  v0 := Tryd.zeroValue0
  t3 := Tryd.underlying3
  a3 := Tryd.isAgg3
  z3 := Tryd.sizeOf3
  v3 := Tryd.zeroValue3
  t9 := Tryd.underlying9
  a9 := Tryd.isAgg9
  z9 := Tryd.sizeOf9
  v9 := Tryd.zeroValue9
  t37 := Tryd.underlying32
  a37 := Tryd.isAgg32
  z37 := Tryd.sizeOf32
  v37 := Tryd.zeroValue32
  t70 := Tryd.underlying43
  a70 := Tryd.isAgg43
  z70 := Tryd.sizeOf43
  v70 := Tryd.zeroValue43
  t72 := Tryd.underlying45
  a72 := Tryd.isAgg45
  z72 := Tryd.sizeOf45
  v72 := Tryd.zeroValue45
  t127 := Tryd.underlying61
  a127 := Tryd.isAgg61
  z127 := Tryd.sizeOf61
  v127 := Tryd.zeroValue61 }
theorem Tryd.Builder_Extra_169 : Builder.Extra Tryd.prog Tryd.lays169_ren := {
  sizeBuilder := by kernel_rfl
  liesBuilder := by kernel_rfl
  t5 := Tryd.underlying5
  a5 := Tryd.isAgg5
  z5 := Tryd.sizeOf5
  v5 := Tryd.zeroValue5
  infoByte := by kernel_rfl
  cellsByte := by kernel_rfl
  sizeByte := by kernel_rfl
  neB5 := by decide }
def Tryd.lays165_ren : Go.Shelf.Ren := ⟨fun | 165 => 21 | 240 => 31 | 241 => 32 | 276 => 43 | 277 => 44 | n => n, fun | 70 => 43 | 3 => 3 | 0 => 0 | 4 => 4 | 9 => 9 | 20 => 20 | 72 => 45 | 37 => 32 | 164 => 69 | 5 => 5 | n => n, fun | n => n⟩
theorem Tryd.lays165 : Go.Proofs.Lays.n165 Tryd.prog Tryd.lays165_ren := {
  mixed := by kernel_rfl
  f165 := Tryd.func21.trans (congrArg some (by kernel_rfl))
  f240 := Tryd.func31.trans (congrArg some (by kernel_rfl))
  f241 := Tryd.func32.trans (congrArg some (by kernel_rfl))
  f276 := Tryd.func43.trans (congrArg some (by kernel_rfl))
  f277 := Tryd.func44.trans (congrArg some (by kernel_rfl))
  t0 := Tryd.underlying0
  a0 := Tryd.isAgg0
  z0 := Tryd.sizeOf0
  v0 := Tryd.zeroValue0
  t3 := Tryd.underlying3
  a3 := Tryd.isAgg3
  z3 := Tryd.sizeOf3
  v3 := Tryd.zeroValue3
  t4 := Tryd.underlying4
  a4 := Tryd.isAgg4
  z4 := Tryd.sizeOf4
  v4 := Tryd.zeroValue4
  t9 := Tryd.underlying9
  a9 := Tryd.isAgg9
  z9 := Tryd.sizeOf9
  v9 := Tryd.zeroValue9
  t20 := Tryd.underlying20
  a20 := Tryd.isAgg20
  z20 := Tryd.sizeOf20
  v20 := Tryd.zeroValue20
  t37 := Tryd.underlying32
  a37 := Tryd.isAgg32
  z37 := Tryd.sizeOf32
  v37 := Tryd.zeroValue32
  t70 := Tryd.underlying43
  a70 := Tryd.isAgg43
  z70 := Tryd.sizeOf43
  v70 := Tryd.zeroValue43
  t72 := Tryd.underlying45
  a72 := Tryd.isAgg45
  z72 := Tryd.sizeOf45
  v72 := Tryd.zeroValue45
  t164 := Tryd.underlying69
  a164 := Tryd.isAgg69
  z164 := Tryd.sizeOf69
  v164 := Tryd.zeroValue69 }
theorem Tryd.Builder_Extra_165 : Builder.Extra Tryd.prog Tryd.lays165_ren := {
  sizeBuilder := by kernel_rfl
  liesBuilder := by kernel_rfl
  t5 := Tryd.underlying5
  a5 := Tryd.isAgg5
  z5 := Tryd.sizeOf5
  v5 := Tryd.zeroValue5
  infoByte := by kernel_rfl
  cellsByte := by kernel_rfl
  sizeByte := by kernel_rfl
  neB5 := by decide }
open Go.RowKit in
theorem Tryd.Builder_Grow_fresh (B b n : Nat) (w : World) (hB : B ≤ b) (hbk : w.heap[b]? = some (.cells #[.pointer none, .slice none 0 0] 45 (0, 0))) (hBw : B ≤ w.heap.size) (hn : n ≤ 281474976710656) :
    Calls Tryd.prog 21 #[.pointer (some ⟨b, 0, none⟩), .int .i64 n] w fun e w' => e = .returned (.tuple #[]) ∧ (Lib.BuilderAt 45 5 B b (.pointer (some ⟨b, 0, none⟩)) [] w' ∧ Below B w w') := Any.Builder_Grow_fresh Tryd.lays165 Tryd.Builder_Extra_165 B b n w hB hbk hBw hn
def Tryd.lays158_ren : Go.Shelf.Ren := ⟨fun | 158 => 24 | 165 => 21 | 166 => 23 | 167 => 34 | 169 => 26 | 230 => 35 | 203 => 36 | 240 => 31 | 241 => 32 | 197 => 46 | 118 => 47 | 168 => 22 | 270 => 48 | 262 => 49 | 276 => 43 | 277 => 44 | 260 => 58 | 242 => 33 | 313 => 59 | 278 => 45 | 274 => 66 | 275 => 67 | n => n, fun | 9 => 9 | 4 => 4 | 3 => 3 | 5 => 5 | 72 => 45 | 0 => 0 | 76 => 47 | 75 => 34 | 107 => 60 | 70 => 43 | 20 => 20 | 37 => 32 | 127 => 61 | 21 => 21 | 105 => 73 | 164 => 69 | 162 => 89 | 203 => 87 | 119 => 96 | 46 => 31 | 139 => 99 | 138 => 98 | 51 => 72 | 160 => 100 | 208 => 107 | 206 => 105 | 80 => 51 | n => n, fun | 13 => 3 | 3 => 5 | 4 => 6 | n => n⟩
theorem Tryd.lays158 : Go.Proofs.Lays.n158 Tryd.prog Tryd.lays158_ren := {
  mixed := by kernel_rfl
  f118 := Tryd.func47.trans (congrArg some (by kernel_rfl))
  f158 := Tryd.func24.trans (congrArg some (by kernel_rfl))
  f165 := Tryd.func21.trans (congrArg some (by kernel_rfl))
  f166 := Tryd.func23.trans (congrArg some (by kernel_rfl))
  f167 := Tryd.func34.trans (congrArg some (by kernel_rfl))
  f168 := Tryd.func22.trans (congrArg some (by kernel_rfl))
  f169 := Tryd.func26.trans (congrArg some (by kernel_rfl))
  f197 := Tryd.func46.trans (congrArg some (by kernel_rfl))
  f203 := Tryd.func36.trans (congrArg some (by kernel_rfl))
  f230 := Tryd.func35.trans (congrArg some (by kernel_rfl))
  f240 := Tryd.func31.trans (congrArg some (by kernel_rfl))
  f241 := Tryd.func32.trans (congrArg some (by kernel_rfl))
  f242 := Tryd.func33.trans (congrArg some (by kernel_rfl))
  f260 := Tryd.func58.trans (congrArg some (by kernel_rfl))
  f262 := Tryd.func49.trans (congrArg some (by kernel_rfl))
  f270 := Tryd.func48.trans (congrArg some (by kernel_rfl))
  f274 := Tryd.func66.trans (congrArg some (by kernel_rfl))
  f275 := Tryd.func67.trans (congrArg some (by kernel_rfl))
  f276 := Tryd.func43.trans (congrArg some (by kernel_rfl))
  f277 := Tryd.func44.trans (congrArg some (by kernel_rfl))
  f278 := Tryd.func45.trans (congrArg some (by kernel_rfl))
  f313 := Tryd.func59.trans (congrArg some (by kernel_rfl))
  t0 := Tryd.underlying0
  a0 := Tryd.isAgg0
  z0 := Tryd.sizeOf0
  v0 := Tryd.zeroValue0
  t3 := Tryd.underlying3
  a3 := Tryd.isAgg3
  z3 := Tryd.sizeOf3
  v3 := Tryd.zeroValue3
  t4 := Tryd.underlying4
  a4 := Tryd.isAgg4
  z4 := Tryd.sizeOf4
  v4 := Tryd.zeroValue4
  t5 := Tryd.underlying5
  a5 := Tryd.isAgg5
  z5 := Tryd.sizeOf5
  v5 := Tryd.zeroValue5
  t9 := Tryd.underlying9
  a9 := Tryd.isAgg9
  z9 := Tryd.sizeOf9
  v9 := Tryd.zeroValue9
  t20 := Tryd.underlying20
  a20 := Tryd.isAgg20
  z20 := Tryd.sizeOf20
  v20 := Tryd.zeroValue20
  t21 := Tryd.underlying21
  a21 := Tryd.isAgg21
  z21 := Tryd.sizeOf21
  v21 := Tryd.zeroValue21
  t37 := Tryd.underlying32
  a37 := Tryd.isAgg32
  z37 := Tryd.sizeOf32
  v37 := Tryd.zeroValue32
  t46 := Tryd.underlying31
  a46 := Tryd.isAgg31
  z46 := Tryd.sizeOf31
  v46 := Tryd.zeroValue31
  t51 := Tryd.underlying72
  a51 := Tryd.isAgg72
  z51 := Tryd.sizeOf72
  v51 := Tryd.zeroValue72
  t70 := Tryd.underlying43
  a70 := Tryd.isAgg43
  z70 := Tryd.sizeOf43
  v70 := Tryd.zeroValue43
  t72 := Tryd.underlying45
  a72 := Tryd.isAgg45
  z72 := Tryd.sizeOf45
  v72 := Tryd.zeroValue45
  t75 := Tryd.underlying34
  a75 := Tryd.isAgg34
  z75 := Tryd.sizeOf34
  v75 := Tryd.zeroValue34
  t76 := Tryd.underlying47
  a76 := Tryd.isAgg47
  z76 := Tryd.sizeOf47
  v76 := Tryd.zeroValue47
  t105 := Tryd.underlying73
  a105 := Tryd.isAgg73
  z105 := Tryd.sizeOf73
  v105 := Tryd.zeroValue73
  t107 := Tryd.underlying60
  a107 := Tryd.isAgg60
  z107 := Tryd.sizeOf60
  v107 := Tryd.zeroValue60
  t119 := Tryd.underlying96
  a119 := Tryd.isAgg96
  z119 := Tryd.sizeOf96
  t127 := Tryd.underlying61
  a127 := Tryd.isAgg61
  z127 := Tryd.sizeOf61
  v127 := Tryd.zeroValue61
  t138 := Tryd.underlying98
  a138 := Tryd.isAgg98
  z138 := Tryd.sizeOf98
  v138 := Tryd.zeroValue98
  t139 := Tryd.underlying99
  a139 := Tryd.isAgg99
  z139 := Tryd.sizeOf99
  v139 := Tryd.zeroValue99
  t160 := Tryd.underlying100
  a160 := Tryd.isAgg100
  z160 := Tryd.sizeOf100
  v160 := Tryd.zeroValue100
  t162 := Tryd.underlying89
  a162 := Tryd.isAgg89
  z162 := Tryd.sizeOf89
  v162 := Tryd.zeroValue89
  t164 := Tryd.underlying69
  a164 := Tryd.isAgg69
  z164 := Tryd.sizeOf69
  v164 := Tryd.zeroValue69
  t203 := Tryd.underlying87
  a203 := Tryd.isAgg87
  z203 := Tryd.sizeOf87
  v203 := Tryd.zeroValue87
  t206 := Tryd.underlying105
  a206 := Tryd.isAgg105
  z206 := Tryd.sizeOf105
  v206 := Tryd.zeroValue105
  t208 := Tryd.underlying107
  a208 := Tryd.isAgg107
  z208 := Tryd.sizeOf107
  v208 := Tryd.zeroValue107
  g3 := by kernel_rfl
  g4 := by kernel_rfl
  g13 := by kernel_rfl }
theorem Tryd.Builder_Extra_158 : Builder.Extra Tryd.prog Tryd.lays158_ren := {
  sizeBuilder := by kernel_rfl
  liesBuilder := by kernel_rfl
  t5 := Tryd.underlying5
  a5 := Tryd.isAgg5
  z5 := Tryd.sizeOf5
  v5 := Tryd.zeroValue5
  infoByte := by kernel_rfl
  cellsByte := by kernel_rfl
  sizeByte := by kernel_rfl
  neB5 := by decide }
open Go.RowKit in
theorem Tryd.strings_ToUpper_ascii (s : ByteArray) (w : World) (hs : s.size ≤ 140737488355328) (hascii : ∀ (j : Nat) (b : UInt8), s.data.toList[j]? = some b → b.toNat < 128) :
    Calls Tryd.prog 24 #[.string s] w fun e w' => e = .returned (.string ⟨(Lib.toUpperA s.data.toList).toArray⟩) ∧ Below w.heap.size w w' := Any.strings_ToUpper_ascii Tryd.lays158 Tryd.Builder_Extra_158 s w hs hascii
open Go.RowKit in
theorem Tryd.Builder_String_any_k (B b : Nat) (l : List UInt8) (w : World) (h : Lib.IsBuilderF 45 5 B b (Lib.byteCells l) w) (hBw : B ≤ w.heap.size) :
    Calls Tryd.prog 26 #[.pointer (some ⟨b, 0, none⟩)] w fun e w' => e = .returned (.string ⟨l.toArray⟩) ∧ (Lib.IsBuilderF 45 5 B b (Lib.byteCells l) w' ∧ Below B w w' ∧ Lib.OthersKept 5 (some b) w w') := Any.Builder_String_any_k Tryd.lays169 Tryd.Builder_Extra_169 B b l w h hBw
end Go.Proofs
