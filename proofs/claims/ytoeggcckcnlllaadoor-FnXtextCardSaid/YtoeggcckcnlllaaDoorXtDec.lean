/- gosmtp.decodeXtext, DecodeXtext and impl.Unxtext by hand; in the print's form. -/
import Derived.Test.YtoeggcckcnlllaaDoorXtRep
import Derived.Deep.QuietTactic
import Derived.BigQuiet
namespace Go.Proofs.YtoeggcckcnlllaaDoor.Own
open Go.RowKit Go.Lib Go.Proofs.YtoeggcckcnlllaaDoorW.PrintWords
set_option linter.unusedVariables false
set_option linter.unusedSimpArgs false

/-- The text that is told, where none of what is found is bad. -/
def dxB (s : ByteArray) : ByteArray := ⟨(dx s.data.toList.length s.data.toList).1.toArray⟩
def dxBad (s : ByteArray) : Bool := (dx s.data.toList.length s.data.toList).2
theorem dxB_of {s r : ByteArray} (h : r.data.toList = (dx s.data.toList.length s.data.toList).1) : r = dxB s := by
  apply ba_ext; rw [h]; rfl
def decB (s : ByteArray) : ByteArray := if dxBad s = true then ⟨#[]⟩ else dxB s
theorem decB_no {s : ByteArray} (h : dxBad s = false) : decB s = dxB s := by unfold decB; rw [h]; rfl
theorem decB_bad {s : ByteArray} (h : dxBad s = true) : decB s = ⟨#[]⟩ := by unfold decB; rw [h]; rfl
def Dec (s : ByteArray) (w : World) (e : Ending) (w' : World) : Prop :=
  ∃ r ev, e = .returned (.tuple #[.string r, ev]) ∧ r = decB s ∧ ErrIs (dxBad s) ev ∧ Below w.heap.size w w'
set_option maxHeartbeats 1000000 in
theorem dec_plain (s : ByteArray) (hs : s.size ≤ 1000000) (hp : hasPlus s = false) (w : World) :
    Calls Tryd.prog 13 #[.string s] w (Dec s w) := by
  have hd := dx_plain s.data.toList.length s.data.toList (Nat.le_refl _) (of_decide_eq_false hp)
  have hr : dxB s = s := by apply ba_ext; unfold dxB; rw [hd]
  have hb : dxBad s = false := by unfold dxBad; rw [hd]
  have hc := Lib.hid (show ∀ W, Calls Tryd.prog 15 #[.string s, .string ⟨#[43]⟩] W fun e w' => e = .returned (.bool false) ∧ Drawn0 W w' from fun W => by have := contains_any s hs W; rw [hp] at this; exact this)
  have hr' := Lib.hid hr
  have hb' := Lib.hid hb
  clear hd hr hb hp
  go_enter Tryd.func13, Tryd.ntmps13
  go_wp2_with fail
  refine (hc.out _).mono ?_
  rintro e w1 ⟨rfl, hd⟩
  have hd := Lib.hid hd.below
  go_wp2
  go_ret2
  exact ⟨s, .nilIface, rfl, (by rw [decB_no hb'.out, hr'.out]), by rw [hb'.out]; exact errIs_nil, hd.out⟩
set_option maxHeartbeats 1000000 in
theorem dec_plus (s : ByteArray) (hs : s.size ≤ 1000000) (hp : hasPlus s = true) (w : World) (henv : EnvX w) (hg : 1 < w.heap.size) :
    Calls Tryd.prog 13 #[.string s] w (Dec s w) := by
  have hc := Lib.hid (show ∀ W, Calls Tryd.prog 15 #[.string s, .string ⟨#[43]⟩] W fun e w' => e = .returned (.bool true) ∧ Drawn0 W w' from fun W => by have := contains_any s hs W; rw [hp] at this; exact this)
  have hE := Lib.hid henv.all
  have hg' := Lib.hid hg
  clear hp henv hg
  go_enter Tryd.func13, Tryd.ntmps13
  go_wp2_with fail
  refine (hc.out _).mono ?_
  rintro e w1 ⟨rfl, hd⟩
  have hd := Lib.hid hd.below
  have hrep := Lib.hid (replaced_any s hs w1.heap.size (w1.alloc (.cells #[.nilIface] 34 (0, 0))) (by unfold Var; show (w1.heap.push _)[w1.heap.size]? = _; simp) ((hE.out w1 hd.out).all _ ((Below.refl _ _).alloc (Nat.le_refl _) _)) (Nat.lt_of_lt_of_le hg'.out hd.out.size))
  unfold hcV clV at hrep
  go_wp2_with fail
  refine hrep.out.mono ?_
  rintro e w2 ⟨r, ev, rfl, hr, hev, hV, hb⟩
  have hcell := hV.cell
  have hV := Lib.hid hV
  have hr := Lib.hid hr
  have hb2 := Lib.hid (show Below w.heap.size w w2 from (hd.out.trans ((((Below.refl _ _).alloc (Nat.le_refl _) _).trans hb).mono hd.out.size)))
  clear hb
  cases hbad : dxBad s with
  | false =>
    have he : ev = .nilIface := hev.1 hbad
    subst he
    have hbad' := Lib.hid hbad
    clear hbad hev
    go_wp2
    go_ret2
    exact ⟨r, .nilIface, rfl, (by rw [decB_no hbad'.out]; exact dxB_of hr.out), by rw [hbad'.out]; exact errIs_nil, hb2.out⟩
  | true =>
    obtain ⟨T, x, rfl⟩ := hev.2 hbad
    have hbad' := Lib.hid hbad
    clear hbad hev
    go_wp2
    go_quiet (fail)
    go_wp2
    go_ret2
    exact ⟨_, .iface T x, rfl, (by rw [decB_bad hbad'.out]), by rw [hbad'.out]; exact errIs_some T x, by first | exact hb2.out | (apply pw_below_drewN; exact hb2.out)⟩
theorem dec_any (s : ByteArray) (hs : s.size ≤ 1000000) (w : World) (henv : EnvX w) (hg : 1 < w.heap.size) :
    Calls Tryd.prog 13 #[.string s] w (Dec s w) := by
  cases hp : hasPlus s with
  | false => exact dec_plain s hs hp w
  | true => exact dec_plus s hs hp w henv hg
theorem decD_any (s : ByteArray) (hs : s.size ≤ 1000000) (w : World) (henv : EnvX w) (hg : 1 < w.heap.size) :
    Calls Tryd.prog 11 #[.string s] w (Dec s w) := by
  have hc := Lib.hid (dec_any s hs w henv hg)
  clear henv hg
  go_enter Tryd.func11, Tryd.ntmps11
  go_wp2_with fail
  refine hc.out.mono ?_
  rintro e w1 ⟨r, ev, rfl, rfl, hev, hb⟩
  have hev := Lib.hid hev
  have hb := Lib.hid hb
  go_wp2
  go_ret2
  exact ⟨_, ev, rfl, rfl, hev.out, hb.out⟩
set_option maxHeartbeats 1000000 in
theorem unx_any (s : ByteArray) (hs : s.size ≤ 1000000) (w : World) (henv : EnvX w) (hg : 1 < w.heap.size) :
    Calls Tryd.prog 6 #[.string s] w fun e w' => e = .returned (.tuple #[.string (decB s), .bool (!dxBad s)]) ∧ Below w.heap.size w w' := by
  have hc := Lib.hid (decD_any s hs w henv hg)
  clear henv hg
  cases hbad : dxBad s with
  | false =>
    have hbad' := Lib.hid hbad
    clear hbad
    go_enter Tryd.func6, Tryd.ntmps6
    go_wp2_with fail
    refine hc.out.mono ?_
    rintro e w1 ⟨r, ev, rfl, rfl, hev, hb⟩
    rw [hbad'.out] at hev
    have he : ev = .nilIface := hev.1 rfl
    subst he
    have hb := Lib.hid hb
    clear hev
    go_wp2
    go_quiet (fail)
    go_wp2
    go_ret2
    exact ⟨rfl, by first | exact hb.out | (apply pw_below_drewN; exact hb.out)⟩
  | true =>
    have hbad' := Lib.hid hbad
    clear hbad
    go_enter Tryd.func6, Tryd.ntmps6
    go_wp2_with fail
    refine hc.out.mono ?_
    rintro e w1 ⟨r, ev, rfl, rfl, hev, hb⟩
    rw [hbad'.out] at hev
    obtain ⟨T, x, rfl⟩ := hev.2 rfl
    have hb := Lib.hid hb
    clear hev
    go_wp2
    go_quiet (fail)
    go_wp2
    go_ret2
    exact ⟨rfl, by first | exact hb.out | (apply pw_below_drewN; exact hb.out)⟩
def EnvXg (w : World) : Prop := EnvX w ∧ 1 < w.heap.size
theorem EnvXg.all {w : World} (h : EnvXg w) : ∀ W, Below w.heap.size w W → EnvXg W := fun W hb => ⟨h.1.all W hb, Nat.lt_of_lt_of_le h.2 hb.size⟩
def impl_Unxtext.f (s : ByteArray) : Option (ByteArray × Bool) := if s.size ≤ 1000000 then some (decB s, !dxBad s) else none
theorem impl_Unxtext.calls (a0 : ByteArray) (r1 : ByteArray) (r2 : Bool) (w : World) (h : impl_Unxtext.f a0 = some (r1, r2)) (henv : EnvXg w) :
    Calls Tryd.prog 6 #[.string a0] w fun e w' => e = .returned (.tuple #[.string r1, .bool r2]) ∧ Below w.heap.size w w' := by
  unfold impl_Unxtext.f at h
  by_cases hs : a0.size ≤ 1000000
  · rw [if_pos hs] at h
    have h := Option.some.inj h
    simp only [Prod.mk.injEq] at h
    obtain ⟨rfl, rfl⟩ := h
    exact unx_any a0 hs w henv.1 henv.2
  · rw [if_neg hs] at h; cases h
end Go.Proofs.YtoeggcckcnlllaaDoor.Own
