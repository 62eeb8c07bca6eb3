/-
  Contracts of Go's library at this dump, in plain words, laid by the kit's own program; of these what this claim stands on (wip/shelf_cut.py).
-/
import Derived.Shelf.Strings.Builder1
import Derived.Shelf.Strings.Builder2
import Derived.Shelf.Strings.OnBuilder
import Derived.Shelf.Strings.TrimSpace
import Derived.Shelf.Small.Utf8
import Derived.Shelf.Strings.BuilderF
import Derived.Shelf.Strings.BuilderK
import Derived.Shelf.Strings.BuilderRune
import Derived.Shelf.Strconv.Itoa0
import Derived.Shelf.Strconv.Itoa1
import Derived.Shelf.LaysM
import Derived.Shelf.Strconv.Itoa2
import Derived.Shelf.Strconv.Itoa3
import Derived.Shelf.Strconv.Clone
import Derived.Shelf.Strconv.RangeError
import Derived.Shelf.LaysC
import Derived.Shelf.Strconv.ToErrorRange
import Derived.Ground.MpProg
import Derived.Shelf.Pu.ParseUintPublic10
import Derived.Shelf.Pu.ErrVarParseUint
import Derived.Shelf.Strconv.AppendUint10
import Derived.Shelf.Strconv.AppendInt10
import Derived.Shelf.GgClosure.StringsIndexFunc
import Derived.Shelf.Strings.Fold
import Derived.Shelf.Unicode.Latin
import Derived.Shelf.Unicode.Decode
import Derived.Shelf.Unicode.DecodeSlow
import Derived.Shelf.Unicode.DecodeAny
import Derived.Shelf.Unicode.Is16White
import Derived.Shelf.Unicode.IsSpaceAny
import Derived.Shelf.Unicode.DecodeLast
import Derived.Shelf.Strings.TrimSpaceAny
import Derived.Shelf.Unicode.CaseLookup
import Derived.Shelf.Unicode.CaseConvert
import Derived.Shelf.Unicode.CaseTo
import Derived.Shelf.Unicode.CaseLaid
import Derived.Shelf.Strings.MapAny
import Derived.Shelf.Strings.CaseAny
import Derived.Shelf.Unicode.Is16Any
import Derived.Shelf.Unicode.Is32Any
import Derived.Shelf.Unicode.ExclAny
import Derived.Test.YtnokeaiemiiicaaDoorProg
namespace Go.Proofs
open Go.Shelf
def Tryd.blaysC245_ren : Go.Shelf.Ren := ⟨fun | 245 => 110 | 279 => 139 | 280 => 140 | 281 => 141 | 282 => 142 | 316 => 152 | 171 => 153 | 205 => 79 | 243 => 158 | 246 => 160 | 283 => 88 | 284 => 89 | 285 => 90 | 286 => 91 | 129 => 122 | 317 => 121 | 318 => 123 | 319 => 124 | 320 => 125 | 337 => 147 | 338 => 148 | n => n, fun | 9 => 9 | 3 => 3 | 75 => 62 | 167 => 181 | 4 => 4 | 168 => 184 | 210 => 195 | 37 => 54 | 0 => 0 | 127 => 127 | 145 => 142 | 143 => 140 | 2 => 2 | 171 => 113 | 53 => 46 | 5 => 5 | 173 => 116 | 212 => 154 | 51 => 22 | 20 => 20 | 213 => 155 | 46 => 68 | 232 => 206 | 233 => 173 | 80 => 51 | n => n, fun | 15 => 13 | 16 => 14 | 17 => 8 | 18 => 15 | 19 => 16 | n => n⟩
theorem Tryd.blaysC245 : Go.Proofs.LaysC.n245 Tryd.prog Tryd.blaysC245_ren := {
  mixed := by kernel_rfl
  f129 := Tryd.func122.trans (congrArg some (by kernel_rfl))
  f171 := Tryd.func153.trans (congrArg some (by kernel_rfl))
  f205 := Tryd.func79.trans (congrArg some (by kernel_rfl))
  f243 := Tryd.func158.trans (congrArg some (by kernel_rfl))
  f245 := Tryd.func110.trans (congrArg some (by kernel_rfl))
  f246 := Tryd.func160.trans (congrArg some (by kernel_rfl))
  f279 := Tryd.func139.trans (congrArg some (by kernel_rfl))
  f280 := Tryd.func140.trans (congrArg some (by kernel_rfl))
  f281 := Tryd.func141.trans (congrArg some (by kernel_rfl))
  f282 := Tryd.func142.trans (congrArg some (by kernel_rfl))
  f283 := Tryd.func88.trans (congrArg some (by kernel_rfl))
  f284 := Tryd.func89.trans (congrArg some (by kernel_rfl))
  f285 := Tryd.func90.trans (congrArg some (by kernel_rfl))
  f286 := Tryd.func91.trans (congrArg some (by kernel_rfl))
  f316 := Tryd.func152.trans (congrArg some (by kernel_rfl))
  f317 := Tryd.func121.trans (congrArg some (by kernel_rfl))
  f318 := Tryd.func123.trans (congrArg some (by kernel_rfl))
  f319 := Tryd.func124.trans (congrArg some (by kernel_rfl))
  f320 := Tryd.func125.trans (congrArg some (by kernel_rfl))
  f337 := Tryd.func147.trans (congrArg some (by kernel_rfl))
  f338 := Tryd.func148.trans (congrArg some (by kernel_rfl))
  t0 := Tryd.underlying0
  a0 := Tryd.isAgg0
  z0 := Tryd.sizeOf0
  v0 := Tryd.zeroValue0
  t2 := Tryd.underlying2
  a2 := Tryd.isAgg2
  z2 := Tryd.sizeOf2
  v2 := Tryd.zeroValue2
  t3 := Tryd.underlying3
  a3 := Tryd.isAgg3
  z3 := Tryd.sizeOf3
  v3 := Tryd.zeroValue3
  t4 := Tryd.underlying4
  a4 := Tryd.isAgg4
  z4 := Tryd.sizeOf4
  v4 := Tryd.zeroValue4
  t5 := Tryd.underlying5
  a5 := Tryd.isAgg5
  z5 := Tryd.sizeOf5
  v5 := Tryd.zeroValue5
  t9 := Tryd.underlying9
  a9 := Tryd.isAgg9
  z9 := Tryd.sizeOf9
  v9 := Tryd.zeroValue9
  t20 := Tryd.underlying20
  a20 := Tryd.isAgg20
  z20 := Tryd.sizeOf20
  v20 := Tryd.zeroValue20
  t37 := Tryd.underlying54
  a37 := Tryd.isAgg54
  z37 := Tryd.sizeOf54
  v37 := Tryd.zeroValue54
  t46 := Tryd.underlying68
  a46 := Tryd.isAgg68
  z46 := Tryd.sizeOf68
  v46 := Tryd.zeroValue68
  t51 := Tryd.underlying22
  a51 := Tryd.isAgg22
  z51 := Tryd.sizeOf22
  v51 := Tryd.zeroValue22
  t53 := Tryd.underlying46
  a53 := Tryd.isAgg46
  z53 := Tryd.sizeOf46
  v53 := Tryd.zeroValue46
  t75 := Tryd.underlying62
  a75 := Tryd.isAgg62
  z75 := Tryd.sizeOf62
  v75 := Tryd.zeroValue62
  t127 := Tryd.underlying127
  a127 := Tryd.isAgg127
  z127 := Tryd.sizeOf127
  v127 := Tryd.zeroValue127
  t143 := Tryd.underlying140
  a143 := Tryd.isAgg140
  z143 := Tryd.sizeOf140
  v143 := Tryd.zeroValue140
  t145 := Tryd.underlying142
  a145 := Tryd.isAgg142
  z145 := Tryd.sizeOf142
  v145 := Tryd.zeroValue142
  t167 := Tryd.underlying181
  a167 := Tryd.isAgg181
  z167 := Tryd.sizeOf181
  v167 := Tryd.zeroValue181
  t168 := Tryd.underlying184
  a168 := Tryd.isAgg184
  z168 := Tryd.sizeOf184
  v168 := Tryd.zeroValue184
  t171 := Tryd.underlying113
  a171 := Tryd.isAgg113
  z171 := Tryd.sizeOf113
  v171 := Tryd.zeroValue113
  t173 := Tryd.underlying116
  a173 := Tryd.isAgg116
  z173 := Tryd.sizeOf116
  v173 := Tryd.zeroValue116
  t210 := Tryd.underlying195
  a210 := Tryd.isAgg195
  z210 := Tryd.sizeOf195
  v210 := Tryd.zeroValue195
  t212 := Tryd.underlying154
  a212 := Tryd.isAgg154
  z212 := Tryd.sizeOf154
  v212 := Tryd.zeroValue154
  t213 := Tryd.underlying155
  a213 := Tryd.isAgg155
  z213 := Tryd.sizeOf155
  t232 := Tryd.underlying206
  a232 := Tryd.isAgg206
  z232 := Tryd.sizeOf206
  v232 := Tryd.zeroValue206
  t233 := Tryd.underlying173
  a233 := Tryd.isAgg173
  z233 := Tryd.sizeOf173
  v233 := Tryd.zeroValue173
  g15 := by kernel_rfl
  g16 := by kernel_rfl
  g17 := by kernel_rfl
  g18 := by kernel_rfl
  g19 := by kernel_rfl
  t80 := Tryd.underlying51
  a80 := Tryd.isAgg51
  z80 := Tryd.sizeOf51
  v80 := Tryd.zeroValue51
  i0 := by kernel_rfl
  i2 := by kernel_rfl
  i3 := by kernel_rfl
  i4 := by kernel_rfl
  i5 := by kernel_rfl
  i9 := by kernel_rfl
  i20 := by kernel_rfl
  i37 := by kernel_rfl
  i46 := by kernel_rfl
  i51 := by kernel_rfl
  i53 := by kernel_rfl
  i75 := by kernel_rfl
  i80 := by kernel_rfl
  i127 := by kernel_rfl
  i143 := by kernel_rfl
  i145 := by kernel_rfl
  i167 := by kernel_rfl
  i168 := by kernel_rfl
  i171 := by kernel_rfl
  i173 := by kernel_rfl
  i210 := by kernel_rfl
  i212 := by kernel_rfl
  i232 := by kernel_rfl
  i233 := by kernel_rfl
  m15 := by kernel_rfl
  m16 := by kernel_rfl
  m17 := by kernel_rfl
  m18 := by kernel_rfl
  m19 := by kernel_rfl
  c0 := by kernel_rfl
  c2 := by kernel_rfl
  c3 := by kernel_rfl
  c4 := by kernel_rfl
  c5 := by kernel_rfl
  c9 := by kernel_rfl
  c20 := by kernel_rfl
  c37 := by kernel_rfl
  c46 := by kernel_rfl
  c51 := by kernel_rfl
  c53 := by kernel_rfl
  c75 := by kernel_rfl
  c80 := by kernel_rfl
  c127 := by kernel_rfl
  c143 := by kernel_rfl
  c145 := by kernel_rfl
  c167 := by kernel_rfl
  c168 := by kernel_rfl
  c171 := by kernel_rfl
  c173 := by kernel_rfl
  c210 := by kernel_rfl
  c212 := by kernel_rfl
  c213 := by kernel_rfl
  c232 := by kernel_rfl
  c233 := by kernel_rfl }
open Go.RowKit in
theorem Tryd.bstrconv_toError_range (fn s : ByteArray) (base bits : Int) (ev : Value) (w : World) (hlim : s.size ≤ 281474976710656) (hv : w.cell? ⟨14, 0, none⟩ = some ev) (hev : ev = .nilIface ∨ ∃ te pe, ev = .iface te pe) :
    Calls Tryd.prog 110 #[.string fn, .string s, .int .i64 base, .int .i64 bits, .iface 181 (.int .i64 1)] w fun e w' => ∃ N, e = .returned (.iface 184 (.pointer (some ⟨N, 0, none⟩))) ∧ w.heap.size ≤ N ∧ w'.heap[N]? = some (.cells #[.string fn, .string s, ev] 195 (0, 0)) ∧ Below w.heap.size w w' := Any.strconv_toError_range Tryd.blaysC245 fn s base bits ev w hlim hv hev
end Go.Proofs
