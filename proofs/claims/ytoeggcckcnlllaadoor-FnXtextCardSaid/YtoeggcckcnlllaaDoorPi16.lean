/- internal/strconv.ParseInt and strconv.ParseInt at a plus sign and two great hexadecimal digits, base 16, eight bits. -/
import Derived.Test.YtoeggcckcnlllaaDoorPu16
namespace Go.Proofs.YtoeggcckcnlllaaDoor.Own
open Go.RowKit Go.Lib
set_option linter.unusedVariables false
set_option linter.unusedSimpArgs false

theorem ext_plus (x y : UInt8) : (⟨#[43, x, y]⟩ : ByteArray).extract 1 3 = ⟨#[x, y]⟩ := rfl
set_option maxRecDepth 100000 in
set_option maxHeartbeats 2000000 in
theorem pi16_in (x y : UInt8) (hx : hexG x) (hy : hexG y) (w : World) (v : Nat) (hv' : hv x * 16 + hv y = v) (hlt : v < 128) :
    Calls Tryd.prog 29 #[.string ⟨#[43, x, y]⟩, .int .i64 16, .int .i64 8] w fun e w' => e = .returned (.tuple #[.int .i64 (v : Int), .nilIface]) ∧ Below w.heap.size w w' := by
  have hp := pu16_any x y hx hy w
  rw [hv'] at hp
  have hp' := Lib.hid hp
  have he := Lib.hid (ext_plus x y)
  clear hp hv' hx hy
  go_enter Tryd.func29, Tryd.ntmps29
  go_wp2_with fail
  refine hp'.out.mono ?_
  rintro e w1 ⟨rfl, hb⟩
  have hb' := Lib.hid hb
  have hl : (v : Int) < 128 := by omega
  clear hb hlt
  go_wp2
  go_ret2
  exact ⟨rfl, hb'.out⟩
set_option maxRecDepth 100000 in
set_option maxHeartbeats 2000000 in
theorem pi16_out (x y : UInt8) (hx : hexG x) (hy : hexG y) (w : World) (v : Nat) (hv' : hv x * 16 + hv y = v) (hlt : 128 ≤ v) :
    Calls Tryd.prog 29 #[.string ⟨#[43, x, y]⟩, .int .i64 16, .int .i64 8] w fun e w' => e = .returned (.tuple #[.int .i64 127, .iface 62 (.int .i64 1)]) ∧ Below w.heap.size w w' := by
  have hp := pu16_any x y hx hy w
  rw [hv'] at hp
  have hp' := Lib.hid hp
  have h1 := hv_lt hx
  have h2 := hv_lt hy
  have hu : v < 256 := by omega
  clear hp hv' hx hy h1 h2
  go_enter Tryd.func29, Tryd.ntmps29
  go_wp2_with fail
  refine hp'.out.mono ?_
  rintro e w1 ⟨rfl, hb⟩
  have hb' := Lib.hid hb
  have hl : (128 : Int) ≤ (v : Int) := by omega
  have hl2 : (v : Int) < 256 := by omega
  clear hb hlt hu
  go_wp2
  go_ret2
  exact ⟨rfl, hb'.out⟩
end Go.Proofs.YtoeggcckcnlllaaDoor.Own
