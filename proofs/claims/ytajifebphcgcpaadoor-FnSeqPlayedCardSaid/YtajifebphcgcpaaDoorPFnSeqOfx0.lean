-- Printed for this claim by a copy of the kit's print that takes hand-proved callees (wip/patch_print.py).
import Derived.Test.YtajifebphcgcpaaDoorProg
import Derived.Below
import Derived.Deep.Draws
import Derived.Deep.AppendLies
import Derived.Maps.AppendAt
import Derived.OwnWalk
import Derived.Laws.BytesArg
import Derived.Laws.MakeOwn
import Derived.Laws.OwnMore
import Derived.Deep.OwnRows
import Derived.Tactics
import Derived.Lib.ConvBytes
import Derived.Laws.Slices
import Derived.WalkKit
import Derived.KernelRfl
import Derived.RowKit3
import Derived.Deep.LoopGhost
import Derived.Deep.QuietTactic
import Derived.BigQuiet
import Derived.WideLaws
import Derived.Deep.DeepCutAuto
import Derived.Deep.CutBlock
import Derived.Deep.RegionHeld3
import Derived.Laws.Rows
import Derived.Lib.AppendStr
import Derived.ArgAppend
import Derived.Laws.IdiomCopy
import Derived.OrdersHeld
import Derived.Laws.BitsLemmas
import Derived.RowKit
import Derived.Test.YtajifebphcgcpaaDoorWWords
import Derived.Test.YtajifebphcgcpaaDoorWLast
import Derived.Test.YtajifebphcgcpaaDoorWTab
import Derived.Test.YtajifebphcgcpaaDoorWFour
import Derived.Test.YtajifebphcgcpaaDoorWQPut
import Derived.Test.YtajifebphcgcpaaDoorWApart
import Derived.Test.YtajifebphcgcpaaDoorWArr
import Derived.Test.YtajifebphcgcpaaDoorWZeros
import Derived.Test.YtajifebphcgcpaaDoorWFoot
import Derived.Test.YtajifebphcgcpaaDoorWKept
import Derived.Test.YtajifebphcgcpaaDoorWShare
import Derived.Test.YtajifebphcgcpaaDoorWN
import Derived.Test.YtajifebphcgcpaaDoorWFootNe
import Derived.Test.YtajifebphcgcpaaDoorWAt
import Derived.Test.YtajifebphcgcpaaDoorWEqStruct
import Derived.Test.YtajifebphcgcpaaDoorWRepsOne
import Derived.Test.YtajifebphcgcpaaDoorWInv
import Derived.Test.YtajifebphcgcpaaDoorWInvWords
import Derived.Test.YtajifebphcgcpaaDoorWGuard
import Derived.Test.YtajifebphcgcpaaDoorWNEv
import Derived.Test.YtajifebphcgcpaaDoorWMore
namespace Go.Proofs.YtajifebphcgcpaaDoor.PFnSeqOf
open Go.RowKit Go.Proofs.YtajifebphcgcpaaDoorW.PrintWords Go.Proofs.YtajifebphcgcpaaDoorW.PrintLast Go.Proofs.YtajifebphcgcpaaDoorW.PrintMore
attribute [local go_sem] max2_int min2_int max_two min_two max_three min_three max_four min_four   -- for this text's walks alone
set_option linter.unusedVariables false
set_option linter.unusedSimpArgs false



def errW : Option Int → Value
  | none => .nilIface
  | some c => .iface 108 (.int .i64 c)
theorem errW_none : errW none = .nilIface := rfl
theorem errW_some (c : Int) : errW (some c) = .iface 108 (.int .i64 c) := rfl

theorem info24 : (Tryd.prog.info? 24).map (fun i => (i.zero, i.size, i.bytes)) = some (some (.agg #[(.int .u32 0), (.int .u32 0)]), 2, 8) := by kernel_rfl
-- the values' own types
/-! #### struct type 24 -/
structure S24 where
  f0 : Int
  f1 : Int
def z24 : S24 := ⟨(0 : Int), (0 : Int)⟩
def k24 : Kd S24 := Kd.iso (Kd.pair (Kd.int .u32) (Kd.int .u32)) (fun x : S24 => (x.f0, x.f1))
theorem k24_open {w : World} {x : S24} {cs : List Value} (h : k24.K w x cs) : cs = [.int .u32 x.f0, .int .u32 x.f1] := by
  obtain ⟨_, _, rfl, rfl, rfl⟩ := h
  exact rfl
theorem k24_openM {w : World} {base : Nat} {ok : Nat → Prop} {x : S24} {cs : List Value} (h : k24.M w base ok x cs) : cs = [.int .u32 x.f0, .int .u32 x.f1] := by
  obtain ⟨_, _, rfl, rfl, rfl⟩ := h
  exact rfl
theorem k24_mk (w : World) (x : S24)  : k24.K w x [.int .u32 x.f0, .int .u32 x.f1] := ⟨[.int .u32 x.f0], [.int .u32 x.f1], rfl, rfl, rfl⟩
theorem k24_mkM (w : World) (base : Nat) (ok : Nat → Prop) (x : S24)  : k24.M w base ok x [.int .u32 x.f0, .int .u32 x.f1] := ⟨[.int .u32 x.f0], [.int .u32 x.f1], rfl, rfl, rfl⟩
def rd_T24 (xs : List S24) (i : Int) : S24 := xs.getD i.toNat z24
theorem at_T24 {w : World} {A : Option Addr} {n : Nat} {xs : List S24} (h : Kd.C k24 w A n xs) (i : Int) (h0 : 0 ≤ i) (h1 : i < n) : ∃ ad , A = some ad ∧ w.cell? (ad.add (i.toNat * 2)) = some (.int .u32 (rd_T24 xs i).f0) ∧ w.cell? ⟨(ad.add (i.toNat * 2)).block, (ad.add (i.toNat * 2)).off + 1, none⟩ = some (.int .u32 (rd_T24 xs i).f1) := by
  obtain ⟨ad, c, e, _, hK, hc0⟩ := Kd.C_get h z24 i h0 h1
  have hc : ∀ j u, c[j]? = some u → w.cell? (ad.add (i.toNat * 2 + j)) = some u := hc0
  obtain rfl := k24_open hK
  exact ⟨ad, e, hc 0 _ rfl, by rw [← add_field _ _ 1 (by omega)]; exact hc 1 _ rfl⟩

/-! #### struct type 50 -/
structure S50 where
  f0 : Int
  f1 : Int
def z50 : S50 := ⟨(0 : Int), (0 : Int)⟩
def k50 : Kd S50 := Kd.iso (Kd.pair (Kd.int .u32) (Kd.int .u32)) (fun x : S50 => (x.f0, x.f1))
theorem k50_open {w : World} {x : S50} {cs : List Value} (h : k50.K w x cs) : cs = [.int .u32 x.f0, .int .u32 x.f1] := by
  obtain ⟨_, _, rfl, rfl, rfl⟩ := h
  exact rfl
theorem k50_openM {w : World} {base : Nat} {ok : Nat → Prop} {x : S50} {cs : List Value} (h : k50.M w base ok x cs) : cs = [.int .u32 x.f0, .int .u32 x.f1] := by
  obtain ⟨_, _, rfl, rfl, rfl⟩ := h
  exact rfl
theorem k50_mk (w : World) (x : S50)  : k50.K w x [.int .u32 x.f0, .int .u32 x.f1] := ⟨[.int .u32 x.f0], [.int .u32 x.f1], rfl, rfl, rfl⟩
theorem k50_mkM (w : World) (base : Nat) (ok : Nat → Prop) (x : S50)  : k50.M w base ok x [.int .u32 x.f0, .int .u32 x.f1] := ⟨[.int .u32 x.f0], [.int .u32 x.f1], rfl, rfl, rfl⟩
def rd_T50 (xs : List S50) (i : Int) : S50 := xs.getD i.toNat z50
theorem at_T50 {w : World} {A : Option Addr} {n : Nat} {xs : List S50} (h : Kd.C k50 w A n xs) (i : Int) (h0 : 0 ≤ i) (h1 : i < n) : ∃ ad , A = some ad ∧ w.cell? (ad.add (i.toNat * 2)) = some (.int .u32 (rd_T50 xs i).f0) ∧ w.cell? ⟨(ad.add (i.toNat * 2)).block, (ad.add (i.toNat * 2)).off + 1, none⟩ = some (.int .u32 (rd_T50 xs i).f1) := by
  obtain ⟨ad, c, e, _, hK, hc0⟩ := Kd.C_get h z50 i h0 h1
  have hc : ∀ j u, c[j]? = some u → w.cell? (ad.add (i.toNat * 2 + j)) = some u := hc0
  obtain rfl := k50_open hK
  exact ⟨ad, e, hc 0 _ rfl, by rw [← add_field _ _ 1 (by omega)]; exact hc 1 _ rfl⟩

end Go.Proofs.YtajifebphcgcpaaDoor.PFnSeqOf
