/-
  Contracts of Go's library at this dump, in plain words, laid by the kit's own program; of these what this claim stands on (wip/shelf_cut.py).
-/
import Derived.Shelf.Strconv.Itoa0
import Derived.Shelf.Strconv.Itoa1
import Derived.Shelf.LaysM
import Derived.Shelf.Strconv.Itoa2
import Derived.Shelf.Strconv.Itoa3
import Derived.Shelf.Strconv.Clone
import Derived.Shelf.Strconv.SyntaxError
import Derived.Shelf.LaysC
import Derived.Shelf.Strconv.ToError
import Derived.Shelf.Strconv.Lower
import Derived.Shelf.Strconv.ParseUint10
import Derived.Shelf.Strconv.ParseUint10Empty
import Derived.Shelf.Strconv.ParseUint10Any
import Derived.Shelf.Strconv.RangeError
import Derived.Shelf.Strconv.ToErrorRange
import Derived.Shelf.Strconv.ParseUintEmpty
import Derived.Shelf.Strconv.ParseUint10b64
import Derived.Shelf.Strconv.ParseUint10b32
import Derived.Shelf.Strconv.ParseUint10b16
import Derived.Shelf.Strconv.ParseUint10b8
import Derived.Shelf.Strconv.ParseUint10At
import Derived.Ground.MpProg
import Derived.Shelf.Pu.ParseUintPublic10
import Derived.Shelf.Pu.ErrVarParseUint
import Derived.Shelf.Strconv.AppendUint10
import Derived.Shelf.Strconv.AppendInt10
import Derived.Test.YtajifebphcgcpaaDoorProg
namespace Go.Proofs
open Go.Shelf
def Tryd.lays283_ren : Go.Shelf.Ren := ⟨fun | 283 => 55 | n => n, fun | 3 => 3 | 9 => 9 | 4 => 4 | n => n, fun | n => n⟩
theorem Tryd.lays283 : Go.Proofs.Lays.n283 Tryd.prog Tryd.lays283_ren := {
  mixed := by kernel_rfl
  f283 := Tryd.func55.trans (congrArg some (by kernel_rfl))
  t3 := Tryd.underlying3
  a3 := Tryd.isAgg3
  z3 := Tryd.sizeOf3
  v3 := Tryd.zeroValue3
  t4 := Tryd.underlying4
  a4 := Tryd.isAgg4
  z4 := Tryd.sizeOf4
  v4 := Tryd.zeroValue4
  t9 := Tryd.underlying9
  a9 := Tryd.isAgg9
  z9 := Tryd.sizeOf9
  v9 := Tryd.zeroValue9 }
open Go.Lib in
theorem Tryd.internal_strconv_small (i : Nat) (h : i < 100) (w : World) :
    Calls Tryd.prog 55 #[.int .i64 i] w fun e w' => e = .returned (.string ⟨(Lib.decDigits i).toArray⟩) ∧ w' = w := Any.internal_strconv_small Tryd.lays283 i h w
def Tryd.laysM284_ren : Go.Shelf.Ren := ⟨fun | 284 => 56 | 129 => 61 | 317 => 60 | 318 => 62 | n => n, fun | 53 => 49 | 3 => 3 | 212 => 102 | 0 => 0 | 4 => 4 | 46 => 86 | 5 => 5 | 9 => 9 | n => n, fun | 17 => 0 | n => n⟩
theorem Tryd.laysM284 : Go.Proofs.LaysM.n284 Tryd.prog Tryd.laysM284_ren := {
  mixed := by kernel_rfl
  f129 := Tryd.func61.trans (congrArg some (by kernel_rfl))
  f284 := Tryd.func56.trans (congrArg some (by kernel_rfl))
  f317 := Tryd.func60.trans (congrArg some (by kernel_rfl))
  f318 := Tryd.func62.trans (congrArg some (by kernel_rfl))
  t0 := Tryd.underlying0
  a0 := Tryd.isAgg0
  z0 := Tryd.sizeOf0
  v0 := Tryd.zeroValue0
  t3 := Tryd.underlying3
  a3 := Tryd.isAgg3
  z3 := Tryd.sizeOf3
  v3 := Tryd.zeroValue3
  t4 := Tryd.underlying4
  a4 := Tryd.isAgg4
  z4 := Tryd.sizeOf4
  v4 := Tryd.zeroValue4
  t5 := Tryd.underlying5
  a5 := Tryd.isAgg5
  z5 := Tryd.sizeOf5
  v5 := Tryd.zeroValue5
  t9 := Tryd.underlying9
  a9 := Tryd.isAgg9
  z9 := Tryd.sizeOf9
  v9 := Tryd.zeroValue9
  t46 := Tryd.underlying86
  a46 := Tryd.isAgg86
  z46 := Tryd.sizeOf86
  v46 := Tryd.zeroValue86
  t53 := Tryd.underlying49
  a53 := Tryd.isAgg49
  z53 := Tryd.sizeOf49
  v53 := Tryd.zeroValue49
  t212 := Tryd.underlying102
  a212 := Tryd.isAgg102
  z212 := Tryd.sizeOf102
  v212 := Tryd.zeroValue102
  g17 := by kernel_rfl
  i0 := by kernel_rfl
  i3 := by kernel_rfl
  i4 := by kernel_rfl
  i5 := by kernel_rfl
  i9 := by kernel_rfl
  i46 := by kernel_rfl
  i53 := by kernel_rfl
  i212 := by kernel_rfl
  m17 := by kernel_rfl }
open Go.Lib in
theorem Tryd.internal_strconv_numDigits (u : Nat) (h1 : 1 ≤ u) (h2 : u < 18446744073709551616) (w : World) (htab : Lib.TabIs Tryd.prog w "internal/strconv.uint64pow10" .u64 Lib.pow10Tab) :
    Calls Tryd.prog 56 #[.int .u64 u] w fun e w' => e = .returned (.int .i64 (Lib.nDigits u)) ∧ w' = w := Any.internal_strconv_numDigits Tryd.laysM284 u h1 h2 w htab
def Tryd.lays285_ren : Go.Shelf.Ren := ⟨fun | 285 => 57 | n => n, fun | 37 => 74 | 53 => 49 | 3 => 3 | 4 => 4 | 51 => 22 | 9 => 9 | 5 => 5 | 0 => 0 | n => n, fun | n => n⟩
theorem Tryd.lays285 : Go.Proofs.Lays.n285 Tryd.prog Tryd.lays285_ren := {
  mixed := by kernel_rfl
  f285 := Tryd.func57.trans (congrArg some (by kernel_rfl))
  t0 := Tryd.underlying0
  a0 := Tryd.isAgg0
  z0 := Tryd.sizeOf0
  v0 := Tryd.zeroValue0
  t3 := Tryd.underlying3
  a3 := Tryd.isAgg3
  z3 := Tryd.sizeOf3
  v3 := Tryd.zeroValue3
  t4 := Tryd.underlying4
  a4 := Tryd.isAgg4
  z4 := Tryd.sizeOf4
  v4 := Tryd.zeroValue4
  t5 := Tryd.underlying5
  a5 := Tryd.isAgg5
  z5 := Tryd.sizeOf5
  v5 := Tryd.zeroValue5
  t9 := Tryd.underlying9
  a9 := Tryd.isAgg9
  z9 := Tryd.sizeOf9
  v9 := Tryd.zeroValue9
  t37 := Tryd.underlying74
  a37 := Tryd.isAgg74
  z37 := Tryd.sizeOf74
  v37 := Tryd.zeroValue74
  t51 := Tryd.underlying22
  a51 := Tryd.isAgg22
  z51 := Tryd.sizeOf22
  v51 := Tryd.zeroValue22
  t53 := Tryd.underlying49
  a53 := Tryd.isAgg49
  z53 := Tryd.sizeOf49
  v53 := Tryd.zeroValue49 }
open Go.RowKit Go.Sort Go.Lib in
theorem Tryd.internal_strconv_formatBase10 (blk off cap : Nat) (u : Nat) (d : Array UInt8) (w : World) (hH : Holds (fun (b : UInt8) => Value.int .u8 (b.toNat : Int)) w blk off d) (hu : u < 10 ^ d.size) (hu64 : u < 18446744073709551616) (hsz : d.size < 4611686018427387904) :
    Calls Tryd.prog 57 #[.slice (some ⟨blk, off, none⟩) d.size cap, .int .u64 u] w fun e w' =>
      e = .returned (.tuple #[]) ∧ ∃ (n v' : Nat) (dk : Array UInt8), w' = (putRow (fun (b : UInt8) => Value.int .u8 (b.toNat : Int)) w blk off dk).drewN n ∧ FmtInv d.size u 0 v' dk := Any.internal_strconv_formatBase10 Tryd.lays285 blk off cap u d w hH hu hu64 hsz
def Tryd.laysM288_ren : Go.Shelf.Ren := ⟨fun | 288 => 50 | 283 => 55 | 284 => 56 | 285 => 57 | 286 => 58 | 129 => 61 | 317 => 60 | 318 => 62 | 319 => 63 | 320 => 64 | 337 => 67 | 338 => 68 | n => n, fun | 37 => 74 | 53 => 49 | 3 => 3 | 4 => 4 | 9 => 9 | 171 => 93 | 0 => 0 | 173 => 96 | 212 => 102 | 51 => 22 | 5 => 5 | 20 => 20 | 213 => 103 | 46 => 86 | 232 => 113 | 233 => 114 | n => n, fun | 17 => 0 | 18 => 1 | 19 => 2 | n => n⟩
theorem Tryd.laysM288 : Go.Proofs.LaysM.n288 Tryd.prog Tryd.laysM288_ren := {
  mixed := by kernel_rfl
  f129 := Tryd.func61.trans (congrArg some (by kernel_rfl))
  f283 := Tryd.func55.trans (congrArg some (by kernel_rfl))
  f284 := Tryd.func56.trans (congrArg some (by kernel_rfl))
  f285 := Tryd.func57.trans (congrArg some (by kernel_rfl))
  f286 := Tryd.func58.trans (congrArg some (by kernel_rfl))
  f288 := Tryd.func50.trans (congrArg some (by kernel_rfl))
  f317 := Tryd.func60.trans (congrArg some (by kernel_rfl))
  f318 := Tryd.func62.trans (congrArg some (by kernel_rfl))
  f319 := Tryd.func63.trans (congrArg some (by kernel_rfl))
  f320 := Tryd.func64.trans (congrArg some (by kernel_rfl))
  f337 := Tryd.func67.trans (congrArg some (by kernel_rfl))
  f338 := Tryd.func68.trans (congrArg some (by kernel_rfl))
  t0 := Tryd.underlying0
  a0 := Tryd.isAgg0
  z0 := Tryd.sizeOf0
  v0 := Tryd.zeroValue0
  t3 := Tryd.underlying3
  a3 := Tryd.isAgg3
  z3 := Tryd.sizeOf3
  v3 := Tryd.zeroValue3
  t4 := Tryd.underlying4
  a4 := Tryd.isAgg4
  z4 := Tryd.sizeOf4
  v4 := Tryd.zeroValue4
  t5 := Tryd.underlying5
  a5 := Tryd.isAgg5
  z5 := Tryd.sizeOf5
  v5 := Tryd.zeroValue5
  t9 := Tryd.underlying9
  a9 := Tryd.isAgg9
  z9 := Tryd.sizeOf9
  v9 := Tryd.zeroValue9
  t20 := Tryd.underlying20
  a20 := Tryd.isAgg20
  z20 := Tryd.sizeOf20
  v20 := Tryd.zeroValue20
  t37 := Tryd.underlying74
  a37 := Tryd.isAgg74
  z37 := Tryd.sizeOf74
  v37 := Tryd.zeroValue74
  t46 := Tryd.underlying86
  a46 := Tryd.isAgg86
  z46 := Tryd.sizeOf86
  v46 := Tryd.zeroValue86
  t51 := Tryd.underlying22
  a51 := Tryd.isAgg22
  z51 := Tryd.sizeOf22
  v51 := Tryd.zeroValue22
  t53 := Tryd.underlying49
  a53 := Tryd.isAgg49
  z53 := Tryd.sizeOf49
  v53 := Tryd.zeroValue49
  t171 := Tryd.underlying93
  a171 := Tryd.isAgg93
  z171 := Tryd.sizeOf93
  v171 := Tryd.zeroValue93
  t173 := Tryd.underlying96
  a173 := Tryd.isAgg96
  z173 := Tryd.sizeOf96
  v173 := Tryd.zeroValue96
  t212 := Tryd.underlying102
  a212 := Tryd.isAgg102
  z212 := Tryd.sizeOf102
  v212 := Tryd.zeroValue102
  t213 := Tryd.underlying103
  a213 := Tryd.isAgg103
  z213 := Tryd.sizeOf103
  t232 := Tryd.underlying113
  a232 := Tryd.isAgg113
  z232 := Tryd.sizeOf113
  v232 := Tryd.zeroValue113
  t233 := Tryd.underlying114
  a233 := Tryd.isAgg114
  z233 := Tryd.sizeOf114
  v233 := Tryd.zeroValue114
  g17 := by kernel_rfl
  g18 := by kernel_rfl
  g19 := by kernel_rfl
  i0 := by kernel_rfl
  i3 := by kernel_rfl
  i4 := by kernel_rfl
  i5 := by kernel_rfl
  i9 := by kernel_rfl
  i20 := by kernel_rfl
  i37 := by kernel_rfl
  i46 := by kernel_rfl
  i51 := by kernel_rfl
  i53 := by kernel_rfl
  i171 := by kernel_rfl
  i173 := by kernel_rfl
  i212 := by kernel_rfl
  i232 := by kernel_rfl
  i233 := by kernel_rfl
  m17 := by kernel_rfl
  m18 := by kernel_rfl
  m19 := by kernel_rfl }
open Go.RowKit Go.Sort Go.Lib in
theorem Tryd.internal_strconv_AppendUint_10 (B n u : Nat) (hu64 : u < 18446744073709551616) (sv : Value) (xs : List Value) (w : World) (hown : w.ownsRow B 5 1 sv n xs) (hBw : B ≤ w.heap.size) (hlim : n + 20 ≤ 140737488355328) (htab : Lib.TabIs Tryd.prog w "internal/strconv.uint64pow10" .u64 Lib.pow10Tab) :
    Calls Tryd.prog 50 #[sv, .int .u64 u, .int .i64 10] w fun e w' => ∃ v', e = .returned v' ∧ w'.ownsRow B 5 1 v' (n + (Lib.decDigits u).length) (xs ++ Lib.byteCells (Lib.decDigits u)) ∧ Below B w w' ∧ Lib.OthersKept 5 none w w' := Any.internal_strconv_AppendUint_10 Tryd.laysM288 B n u hu64 sv xs w hown hBw hlim htab

end Go.Proofs
