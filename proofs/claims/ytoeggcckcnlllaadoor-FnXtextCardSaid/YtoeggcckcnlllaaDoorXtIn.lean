/- strconv.ParseInt and the closure of gosmtp.decodeXtext by hand, at what zzHexchar finds. -/
import Derived.Test.YtoeggcckcnlllaaDoorPi16
import Derived.Test.YtoeggcckcnlllaaDoorShelfB
import Derived.OneCell
import Derived.Laws.EntriesVeiled
namespace Go.Proofs.YtoeggcckcnlllaaDoor.Own
open Go.RowKit Go.Lib
set_option linter.unusedVariables false
set_option linter.unusedSimpArgs false

def EnvX (w : World) : Prop := ∃ ev, w.cell? ⟨1, 0, none⟩ = some ev ∧ (ev = .nilIface ∨ ∃ te pe, ev = .iface te pe)
theorem EnvX.all {w : World} (h : EnvX w) : ∀ W, Below w.heap.size w W → EnvX W := fun W hb => by
  obtain ⟨ev, h1, h2⟩ := h
  exact ⟨ev, (hb.cell (World.block_lt_of_cell? w _ h1)).trans h1, h2⟩
theorem EnvX.at {B : Nat} {w W : World} (h : EnvX w) (hB : 1 < B) (hb : Below B w W) : EnvX W := by
  obtain ⟨ev, h1, h2⟩ := h
  exact ⟨ev, (hb.cell (p := ⟨1, 0, none⟩) hB).trans h1, h2⟩
set_option maxRecDepth 100000 in
theorem parse_ok (x y : UInt8) (hx : hexG x) (hy : hexG y) (w : World) (v : Nat) (hv' : hv x * 16 + hv y = v) (hlt : v < 128) :
    Calls Tryd.prog 20 #[.string ⟨#[43, x, y]⟩, .int .i64 16, .int .i64 8] w fun e w' => e = .returned (.tuple #[.int .i64 (v : Int), .nilIface]) ∧ Below w.heap.size w w' := by
  have hc := Lib.hid (pi16_in x y hx hy w v hv' hlt)
  clear hx hy hv' hlt
  go_enter Tryd.func20, Tryd.ntmps20
  go_wp2_with fail
  refine hc.out.mono ?_
  rintro e w1 ⟨rfl, hb⟩
  have hb := Lib.hid hb
  go_wp2
  go_ret2
  exact ⟨rfl, hb.out⟩
set_option maxRecDepth 100000 in
theorem parse_no (x y : UInt8) (hx : hexG x) (hy : hexG y) (w : World) (henv : EnvX w) (v : Nat) (hv' : hv x * 16 + hv y = v) (hlt : 128 ≤ v) :
    Calls Tryd.prog 20 #[.string ⟨#[43, x, y]⟩, .int .i64 16, .int .i64 8] w fun e w' => ∃ T N, e = .returned (.tuple #[.int .i64 127, .iface T (.pointer (some N))]) ∧ Below w.heap.size w w' := by
  have hc := Lib.hid (pi16_out x y hx hy w v hv' hlt)
  have he := Lib.hid henv.all
  clear hx hy hv' hlt henv
  go_enter Tryd.func20, Tryd.ntmps20
  go_wp2_with fail
  refine hc.out.mono ?_
  rintro e w1 ⟨rfl, hb⟩
  obtain ⟨ev, h1, h2⟩ := he.out w1 hb
  have ht := Lib.hid (Tryd.bstrconv_toError_range ⟨#[80, 97, 114, 115, 101, 73, 110, 116]⟩ ⟨#[43, x, y]⟩ 16 8 ev w1 (by show 3 ≤ _; omega) h1 h2)
  have hb := Lib.hid hb
  clear h1 h2
  go_wp2_with fail
  refine ht.out.mono ?_
  rintro e w2 ⟨N, rfl, hN, _, hb2⟩
  have hb2 := Lib.hid (hb.out.trans (hb2.mono hb.out.size))
  clear hN
  go_wp2
  go_ret2
  exact ⟨_, _, rfl, hb2.out⟩
/-- The variable that the closure writes. -/
def Var (b : Nat) (v : Value) (w : World) : Prop := w.heap[b]? = some (.cells #[v] 34 (0, 0))
theorem Var.cell {b : Nat} {v : Value} {w : World} (h : Var b v w) : w.cell? ⟨b, 0, none⟩ = some v := cell_of_one h
end Go.Proofs.YtoeggcckcnlllaaDoor.Own
