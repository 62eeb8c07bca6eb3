/- The closure of gosmtp.decodeXtext by hand, at what zzHexchar finds. -/
import Derived.Test.YtoeggcckcnlllaaDoorXtIn
namespace Go.Proofs.YtoeggcckcnlllaaDoor.Own
open Go.RowKit Go.Lib
set_option linter.unusedVariables false
set_option linter.unusedSimpArgs false

theorem Var.alloc {b : Nat} {v : Value} {w : World} (h : Var b v w) (o : Obj) : Var b v (w.alloc o) := by
  have hlt := lt_of_block h
  unfold Var at *
  show (w.heap.push o)[b]? = _
  rw [Array.getElem?_push, if_neg (by omega)]
  exact h
theorem Var.belowA {b : Nat} {ev : Value} {w : World} (h : Var b ev w) (v : Value) (o : Obj) : Below b w ((w.setCell ⟨b, 0, none⟩ v).alloc o) := by
  have hlt := lt_of_block h
  have h1 : Below b w (w.setCell ⟨b, 0, none⟩ v) := (Below.refl b w).setCell (Nat.le_refl _) v
  exact h1.alloc (Nat.le_trans (Nat.le_of_lt hlt) h1.size) o
set_option maxRecDepth 100000 in
set_option maxHeartbeats 1000000 in
theorem cl_short (m : ByteArray) (hm : m.size < 3) (b : Nat) (ev : Value) (w : World) (hv : Var b ev w) :
    Calls Tryd.prog 18 #[.string m, .pointer (some ⟨b, 0, none⟩)] w fun e w' => ∃ T x, e = .returned (.string ⟨#[]⟩) ∧ Var b (.iface T x) w' ∧ Below b w w' := by
  have hc := hv.cell
  have hf := free_of_one hv
  have hlt := lt_of_block hv
  have n3 : ((m.size : Int) != 3) = true := by rw [bne_iff_ne]; omega
  have hv' := Lib.hid hv
  clear hv hm
  go_enter Tryd.func18, Tryd.ntmps18
  go_wp2
  go_ret
  exact ⟨_, _, rfl, Var.alloc (one_setCell hv'.out) _, Var.belowA hv'.out _ _⟩
theorem encode_small : ∀ v : Nat, v < 128 → Utf8.encode (v : Int) = ⟨#[UInt8.ofNat v]⟩ := by decide +kernel
set_option maxRecDepth 100000 in
set_option maxHeartbeats 1000000 in
theorem cl_big (x y : UInt8) (hx : hexG x) (hy : hexG y) (hb : 128 ≤ hv x * 16 + hv y) (b : Nat) (ev : Value) (w : World) (henv : EnvX w) (hv1 : Var b ev w) :
    Calls Tryd.prog 18 #[.string ⟨#[43, x, y]⟩, .pointer (some ⟨b, 0, none⟩)] w fun e w' => ∃ T x, e = .returned (.string ⟨#[]⟩) ∧ Var b (.iface T x) w' ∧ Below b w w' := by
  have hlt := lt_of_block hv1
  have hc := Lib.hid (parse_no x y hx hy w henv _ rfl hb)
  have hv' := Lib.hid hv1
  clear hv1 hx hy hb henv
  go_enter Tryd.func18, Tryd.ntmps18
  go_wp2_with fail
  refine hc.out.mono ?_
  rintro e w1 ⟨T, N, rfl, hb1⟩
  have hv1 : Var b ev w1 := (hb1.block b hlt).trans hv'.out
  have hcell := hv1.cell
  have hfree := free_of_one hv1
  have hv2 := Lib.hid hv1
  have hb1 := Lib.hid hb1
  clear hv1
  go_wp2
  go_ret
  exact ⟨_, _, rfl, one_setCell hv2.out, (hb1.out.mono (Nat.le_of_lt hlt)).setCell (Nat.le_refl _) _⟩
set_option maxRecDepth 100000 in
set_option maxHeartbeats 1000000 in
theorem cl_good (x y : UInt8) (hx : hexG x) (hy : hexG y) (v : Nat) (hvv : hv x * 16 + hv y = v) (hb : v < 128) (b : Nat) (ev : Value) (w : World) (hv1 : Var b ev w) :
    Calls Tryd.prog 18 #[.string ⟨#[43, x, y]⟩, .pointer (some ⟨b, 0, none⟩)] w fun e w' => e = .returned (.string ⟨#[UInt8.ofNat v]⟩) ∧ Var b ev w' ∧ Below b w w' := by
  have hlt := lt_of_block hv1
  have hc := Lib.hid (parse_ok x y hx hy w v hvv hb)
  have hv' := Lib.hid hv1
  have hl : (v : Int) < 128 := by omega
  clear hv1 hx hy hvv
  go_enter Tryd.func18, Tryd.ntmps18
  go_wp2_with fail
  refine hc.out.mono ?_
  rintro e w1 ⟨rfl, hb1⟩
  have hv2 := Lib.hid (show Var b ev w1 from (hb1.block b hlt).trans hv'.out)
  have hb1 := Lib.hid hb1
  go_wp2
  go_ret
  refine ⟨?_, hv2.out, hb1.out.mono (Nat.le_of_lt hlt)⟩
  rw [← encode_small v hb]
  rfl
end Go.Proofs.YtoeggcckcnlllaaDoor.Own
