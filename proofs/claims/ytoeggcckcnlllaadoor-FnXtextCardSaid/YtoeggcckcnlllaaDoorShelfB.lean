/-
  Contracts of Go's library at this dump, in plain words, laid by the kit's own program; of these what this claim stands on (wip/shelf_cut.py).
-/
import Derived.Shelf.Strings.Builder1
import Derived.Shelf.Strings.Builder2
import Derived.Shelf.Strings.OnBuilder
import Derived.Shelf.Small.Utf8
import Derived.Shelf.Strings.BuilderF
import Derived.Shelf.Strings.BuilderK
import Derived.Shelf.Strings.BuilderRune
import Derived.Shelf.Utf8.AppendRune
import Derived.Shelf.Utf8.AppendRunePlain
import Derived.Shelf.Strings.Builder2Cap
import Derived.Shelf.Strconv.Itoa0
import Derived.Shelf.Strconv.Itoa1
import Derived.Shelf.LaysM
import Derived.Shelf.Strconv.Itoa2
import Derived.Shelf.Strconv.Itoa3
import Derived.Shelf.Strconv.Itoa4
import Derived.Shelf.Strconv.ParseIntEmpty
import Derived.Shelf.Strconv.Clone
import Derived.Shelf.Strconv.SyntaxError
import Derived.Shelf.LaysC
import Derived.Shelf.Strconv.ToError
import Derived.Shelf.Strconv.Lower
import Derived.Shelf.Strconv.ParseUint10
import Derived.Shelf.Strconv.ParseUint10Empty
import Derived.Shelf.Strconv.ParseUint10Any
import Derived.Shelf.Strconv.ParseInt10
import Derived.Shelf.Strconv.RangeError
import Derived.Shelf.Strconv.ToErrorRange
import Derived.Shelf.Strconv.ParseUintEmpty
import Derived.Shelf.Strconv.ParseUint10b64
import Derived.Shelf.Strconv.ParseUint10b32
import Derived.Shelf.Strconv.ParseUint10b16
import Derived.Shelf.Strconv.ParseUint10b8
import Derived.Shelf.Strconv.ParseUint10At
import Derived.Shelf.Strconv.ParseInt10At32
import Derived.Shelf.Strconv.ParseInt10At16
import Derived.Shelf.Unicode.Latin
import Derived.Shelf.Unicode.Decode
import Derived.Shelf.Unicode.DecodeSlow
import Derived.Shelf.Unicode.DecodeAny
import Derived.Shelf.Unicode.CaseLookup
import Derived.Shelf.Unicode.CaseConvert
import Derived.Shelf.Unicode.CaseTo
import Derived.Shelf.Unicode.CaseLaid
import Derived.Shelf.Strings.BuilderCap
import Derived.Test.YtoeggcckcnlllaaDoorProg
namespace Go.Proofs
open Go.Shelf
def Tryd.blaysC245_ren : Go.Shelf.Ren := ⟨fun | 245 => 30 | 279 => 39 | 280 => 40 | 281 => 41 | 282 => 42 | 316 => 56 | 171 => 57 | 205 => 19 | 243 => 65 | 246 => 37 | 283 => 50 | 284 => 51 | 285 => 52 | 286 => 53 | 129 => 61 | 317 => 60 | 318 => 62 | 319 => 63 | 320 => 64 | 337 => 68 | 338 => 69 | n => n, fun | 9 => 9 | 3 => 3 | 75 => 34 | 167 => 62 | 4 => 4 | 168 => 66 | 210 => 86 | 37 => 32 | 0 => 0 | 127 => 61 | 145 => 55 | 143 => 53 | 2 => 2 | 171 => 79 | 53 => 63 | 5 => 5 | 173 => 82 | 212 => 92 | 51 => 72 | 20 => 20 | 213 => 93 | 46 => 31 | 232 => 108 | 233 => 109 | 80 => 51 | n => n, fun | 15 => 0 | 16 => 1 | 17 => 4 | 18 => 7 | 19 => 8 | n => n⟩
theorem Tryd.blaysC245 : Go.Proofs.LaysC.n245 Tryd.prog Tryd.blaysC245_ren := {
  mixed := by kernel_rfl
  f129 := Tryd.func61.trans (congrArg some (by kernel_rfl))
  f171 := Tryd.func57.trans (congrArg some (by kernel_rfl))
  f205 := Tryd.func19.trans (congrArg some (by kernel_rfl))
  f243 := Tryd.func65.trans (congrArg some (by kernel_rfl))
  f245 := Tryd.func30.trans (congrArg some (by kernel_rfl))
  f246 := Tryd.func37.trans (congrArg some (by kernel_rfl))
  f279 := Tryd.func39.trans (congrArg some (by kernel_rfl))
  f280 := Tryd.func40.trans (congrArg some (by kernel_rfl))
  f281 := Tryd.func41.trans (congrArg some (by kernel_rfl))
  f282 := Tryd.func42.trans (congrArg some (by kernel_rfl))
  f283 := Tryd.func50.trans (congrArg some (by kernel_rfl))
  f284 := Tryd.func51.trans (congrArg some (by kernel_rfl))
  f285 := Tryd.func52.trans (congrArg some (by kernel_rfl))
  f286 := Tryd.func53.trans (congrArg some (by kernel_rfl))
  f316 := Tryd.func56.trans (congrArg some (by kernel_rfl))
  f317 := Tryd.func60.trans (congrArg some (by kernel_rfl))
  f318 := Tryd.func62.trans (congrArg some (by kernel_rfl))
  f319 := Tryd.func63.trans (congrArg some (by kernel_rfl))
  f320 := Tryd.func64.trans (congrArg some (by kernel_rfl))
  f337 := Tryd.func68.trans (congrArg some (by kernel_rfl))
  f338 := Tryd.func69.trans (congrArg some (by kernel_rfl))
  t0 := Tryd.underlying0
  a0 := Tryd.isAgg0
  z0 := Tryd.sizeOf0
  v0 := Tryd.zeroValue0
  t2 := Tryd.underlying2
  a2 := Tryd.isAgg2
  z2 := Tryd.sizeOf2
  v2 := Tryd.zeroValue2
  t3 := Tryd.underlying3
  a3 := Tryd.isAgg3
  z3 := Tryd.sizeOf3
  v3 := Tryd.zeroValue3
  t4 := Tryd.underlying4
  a4 := Tryd.isAgg4
  z4 := Tryd.sizeOf4
  v4 := Tryd.zeroValue4
  t5 := Tryd.underlying5
  a5 := Tryd.isAgg5
  z5 := Tryd.sizeOf5
  v5 := Tryd.zeroValue5
  t9 := Tryd.underlying9
  a9 := Tryd.isAgg9
  z9 := Tryd.sizeOf9
  v9 := Tryd.zeroValue9
  t20 := Tryd.underlying20
  a20 := Tryd.isAgg20
  z20 := Tryd.sizeOf20
  v20 := Tryd.zeroValue20
  t37 := Tryd.underlying32
  a37 := Tryd.isAgg32
  z37 := Tryd.sizeOf32
  v37 := Tryd.zeroValue32
  t46 := Tryd.underlying31
  a46 := Tryd.isAgg31
  z46 := Tryd.sizeOf31
  v46 := Tryd.zeroValue31
  t51 := Tryd.underlying72
  a51 := Tryd.isAgg72
  z51 := Tryd.sizeOf72
  v51 := Tryd.zeroValue72
  t53 := Tryd.underlying63
  a53 := Tryd.isAgg63
  z53 := Tryd.sizeOf63
  v53 := Tryd.zeroValue63
  t75 := Tryd.underlying34
  a75 := Tryd.isAgg34
  z75 := Tryd.sizeOf34
  v75 := Tryd.zeroValue34
  t127 := Tryd.underlying61
  a127 := Tryd.isAgg61
  z127 := Tryd.sizeOf61
  v127 := Tryd.zeroValue61
  t143 := Tryd.underlying53
  a143 := Tryd.isAgg53
  z143 := Tryd.sizeOf53
  v143 := Tryd.zeroValue53
  t145 := Tryd.underlying55
  a145 := Tryd.isAgg55
  z145 := Tryd.sizeOf55
  v145 := Tryd.zeroValue55
  t167 := Tryd.underlying62
  a167 := Tryd.isAgg62
  z167 := Tryd.sizeOf62
  v167 := Tryd.zeroValue62
  t168 := Tryd.underlying66
  a168 := Tryd.isAgg66
  z168 := Tryd.sizeOf66
  v168 := Tryd.zeroValue66
  t171 := Tryd.underlying79
  a171 := Tryd.isAgg79
  z171 := Tryd.sizeOf79
  v171 := Tryd.zeroValue79
  t173 := Tryd.underlying82
  a173 := Tryd.isAgg82
  z173 := Tryd.sizeOf82
  v173 := Tryd.zeroValue82
  t210 := Tryd.underlying86
  a210 := Tryd.isAgg86
  z210 := Tryd.sizeOf86
  v210 := Tryd.zeroValue86
  t212 := Tryd.underlying92
  a212 := Tryd.isAgg92
  z212 := Tryd.sizeOf92
  v212 := Tryd.zeroValue92
  t213 := Tryd.underlying93
  a213 := Tryd.isAgg93
  z213 := Tryd.sizeOf93
  t232 := Tryd.underlying108
  a232 := Tryd.isAgg108
  z232 := Tryd.sizeOf108
  v232 := Tryd.zeroValue108
  t233 := Tryd.underlying109
  a233 := Tryd.isAgg109
  z233 := Tryd.sizeOf109
  v233 := Tryd.zeroValue109
  g15 := by kernel_rfl
  g16 := by kernel_rfl
  g17 := by kernel_rfl
  g18 := by kernel_rfl
  g19 := by kernel_rfl
  t80 := Tryd.underlying51
  a80 := Tryd.isAgg51
  z80 := Tryd.sizeOf51
  v80 := Tryd.zeroValue51
  i0 := by kernel_rfl
  i2 := by kernel_rfl
  i3 := by kernel_rfl
  i4 := by kernel_rfl
  i5 := by kernel_rfl
  i9 := by kernel_rfl
  i20 := by kernel_rfl
  i37 := by kernel_rfl
  i46 := by kernel_rfl
  i51 := by kernel_rfl
  i53 := by kernel_rfl
  i75 := by kernel_rfl
  i80 := by kernel_rfl
  i127 := by kernel_rfl
  i143 := by kernel_rfl
  i145 := by kernel_rfl
  i167 := by kernel_rfl
  i168 := by kernel_rfl
  i171 := by kernel_rfl
  i173 := by kernel_rfl
  i210 := by kernel_rfl
  i212 := by kernel_rfl
  i232 := by kernel_rfl
  i233 := by kernel_rfl
  m15 := by kernel_rfl
  m16 := by kernel_rfl
  m17 := by kernel_rfl
  m18 := by kernel_rfl
  m19 := by kernel_rfl
  c0 := by kernel_rfl
  c2 := by kernel_rfl
  c3 := by kernel_rfl
  c4 := by kernel_rfl
  c5 := by kernel_rfl
  c9 := by kernel_rfl
  c20 := by kernel_rfl
  c37 := by kernel_rfl
  c46 := by kernel_rfl
  c51 := by kernel_rfl
  c53 := by kernel_rfl
  c75 := by kernel_rfl
  c80 := by kernel_rfl
  c127 := by kernel_rfl
  c143 := by kernel_rfl
  c145 := by kernel_rfl
  c167 := by kernel_rfl
  c168 := by kernel_rfl
  c171 := by kernel_rfl
  c173 := by kernel_rfl
  c210 := by kernel_rfl
  c212 := by kernel_rfl
  c213 := by kernel_rfl
  c232 := by kernel_rfl
  c233 := by kernel_rfl }
open Go.RowKit in
theorem Tryd.bstrconv_toError_range (fn s : ByteArray) (base bits : Int) (ev : Value) (w : World) (hlim : s.size ≤ 281474976710656) (hv : w.cell? ⟨1, 0, none⟩ = some ev) (hev : ev = .nilIface ∨ ∃ te pe, ev = .iface te pe) :
    Calls Tryd.prog 30 #[.string fn, .string s, .int .i64 base, .int .i64 bits, .iface 62 (.int .i64 1)] w fun e w' => ∃ N, e = .returned (.iface 66 (.pointer (some ⟨N, 0, none⟩))) ∧ w.heap.size ≤ N ∧ w'.heap[N]? = some (.cells #[.string fn, .string s, ev] 86 (0, 0)) ∧ Below w.heap.size w w' := Any.strconv_toError_range Tryd.blaysC245 fn s base bits ev w hlim hv hev
end Go.Proofs
