/- gosmtp.parseCmd, ParseCmd and impl.ReadCommand by hand, at printable lines. -/
import Derived.Test.YtnokeaiemiiicaaDoorShelf
import Derived.Test.YtnokeaiemiiicaaDoorTrimCR
import Derived.Test.YtnokeaiemiiicaaDoorHasPrefix
import Derived.Lib.Case
import Derived.Lib.AppendIntMem
import Derived.Lib.AtoiErrMem
import Derived.WalkKit
import Derived.WalkSpells
import Derived.BigCall
import Derived.BigGuard
import Derived.Outline
import Derived.Deep.DeepCutAuto
namespace Go.Proofs.YtnokeaiemiiicaaDoor.Own
open Go.RowKit Go.Lib
set_option linter.unusedVariables false
set_option linter.unusedSimpArgs false

def up (s : ByteArray) : ByteArray := ⟨(toUpperA s.data.toList).toArray⟩
def startB : ByteArray := ⟨#[83, 84, 65, 82, 84, 84, 76, 83]⟩
def isStart (s : ByteArray) : Bool := Lib.hasPrefix (up s).data.toList startB.data.toList
/-- Printable ASCII, of a size that is no matter here. -/
structure Prt (s : ByteArray) : Prop where
  size : s.size ≤ 1000000
  lo : ∀ c ∈ s.data.toList, 32 ≤ c.toNat
  hi : ∀ c ∈ s.data.toList, c.toNat < 127
theorem Prt.asc {s : ByteArray} (h : Prt s) : ∀ (j : Nat) (b : UInt8), s.data.toList[j]? = some b → b.toNat < 128 := fun j b hj => by have := h.hi b (List.mem_of_getElem? hj); omega
theorem Prt.ext {s : ByteArray} (h : Prt s) (a b : Nat) : Prt (s.extract a b) := by
  refine ⟨by rw [ext_size]; have := h.size; omega, fun c hc => h.lo c ?_, fun c hc => h.hi c ?_⟩
  · rw [ext_list] at hc; exact List.mem_of_mem_drop (List.mem_of_mem_take hc)
  · rw [ext_list] at hc; exact List.mem_of_mem_drop (List.mem_of_mem_take hc)
def EnvR (w : World) : Prop := TabBelow Tryd.prog w.heap.size w "strings.asciiSpace" .u8 asciiSpaceTab
theorem EnvR.all {w : World} (h : EnvR w) : ∀ W, Below w.heap.size w W → EnvR W := fun W hb W2 h2 => h W2 (hb.trans (h2.mono hb.size))
def Cmd (r : Option (ByteArray × ByteArray)) (w : World) (e : Ending) (w' : World) : Prop :=
  ∃ a b v, e = .returned (.tuple #[.string a, .string b, v]) ∧ (∀ x, r = some x → x = (a, b) ∧ v = .nilIface) ∧ (r = none → ∃ T x, v = .iface T x) ∧ Below w.heap.size w w'
theorem cmd_yes {a b : ByteArray} {w w' : World} (hb : Below w.heap.size w w') : Cmd (some (a, b)) w (.returned (.tuple #[.string a, .string b, .nilIface])) w' :=
  ⟨a, b, .nilIface, rfl, (fun x hx => by cases hx; exact ⟨rfl, rfl⟩), (fun h => by cases h), hb⟩
theorem cmd_no {a b : ByteArray} {T : TypeId} {x : Value} {w w' : World} (hb : Below w.heap.size w w') : Cmd none w (.returned (.tuple #[.string a, .string b, .iface T x])) w' :=
  ⟨a, b, .iface T x, rfl, (fun x hx => by cases hx), (fun _ => ⟨T, x, rfl⟩), hb⟩
theorem up_size (s : ByteArray) : (up s).size = s.size := by
  unfold up
  show (List.map upperB s.data.toList).toArray.size = s.data.size
  rw [List.size_toArray, List.length_map, Array.length_toList]
theorem head_c (s : ByteArray) (w : World) (hp : Prt s) (b : Bool) (hb : isStart s = b) :
    Hid (∀ W, Below w.heap.size w W → Calls Tryd.prog 81 #[.string s, .string ⟨#[13, 10]⟩] W fun e w' => e = .returned (.string s) ∧ Below W.heap.size W w') ∧
    Hid (∀ W, Calls Tryd.prog 83 #[.string s] W fun e w' => e = .returned (.string (up s)) ∧ Below W.heap.size W w') ∧
    Hid (∀ W, Calls Tryd.prog 82 #[.string (up s), .string startB] W fun e w' => e = .returned (.bool b) ∧ W = w') := by
  refine ⟨Lib.hid fun W _ => (trimCR_any s W hp.size (fun c hc => hp.lo c (List.mem_of_getElem? hc))).mono fun e w' ⟨he, hd⟩ => ⟨he, hd.below⟩, Lib.hid fun W => Tryd.strings_ToUpper_ascii s W (by have := hp.size; omega) hp.asc, Lib.hid fun W => ?_⟩
  have := hasPrefix_any (up s) startB W (by rw [up_size]; have := hp.size; unfold maxLen; omega) (by decide)
  rw [show Lib.hasPrefix (up s).data.toList startB.data.toList = b from hb] at this
  exact this

set_option maxHeartbeats 1000000 in
theorem pc_start (s : ByteArray) (w : World) (hp : Prt s) (hst : isStart s = true) :
    Calls Tryd.prog 60 #[.string s] w (Cmd (some (startB, ⟨#[]⟩)) w) := by
  obtain ⟨k1, k2, k3⟩ := head_c s w hp true hst
  obtain ⟨U, hU⟩ : ∃ U, U = up s := ⟨_, rfl⟩
  rw [← hU] at k2 k3
  unfold startB at k3
  have hU' := Lib.hid hU
  have hsz := hp.size
  have hp' := Lib.hid hp
  have hst' := Lib.hid hst
  clear hU hp hst

  go_enter Tryd.func60, Tryd.ntmps60
  go_wp2_with fail
  refine (k1.out _ (Below.refl _ _)).mono ?_
  rintro e w1 ⟨rfl, hb1⟩
  have hb1 := Lib.hid hb1
  go_wp2_with fail
  refine (k2.out _).mono ?_
  rintro e w2 ⟨rfl, hb2⟩
  have hb2 := Lib.hid (hb1.out.trans (hb2.mono hb1.out.size))
  go_wp2_with fail
  refine (k3.out _).mono ?_
  rintro e w3 ⟨rfl, rfl⟩
  go_wp2
  go_ret3
  exact cmd_yes hb2.out

set_option maxHeartbeats 1000000 in
theorem pc_zero (s : ByteArray) (w : World) (hp : Prt s) (hst : isStart s = false) (h0 : s.size = 0) :
    Calls Tryd.prog 60 #[.string s] w (Cmd (some (⟨#[]⟩, ⟨#[]⟩)) w) := by
  obtain ⟨k1, k2, k3⟩ := head_c s w hp false hst
  obtain ⟨U, hU⟩ : ∃ U, U = up s := ⟨_, rfl⟩
  rw [← hU] at k2 k3
  unfold startB at k3
  have hU' := Lib.hid hU
  have hsz := hp.size
  have hp' := Lib.hid hp
  have hst' := Lib.hid hst
  clear hU hp hst
  have h0' : ((s.size : Int) == 0) = true := by rw [h0]; rfl
  clear h0
  go_enter Tryd.func60, Tryd.ntmps60
  go_wp2_with fail
  refine (k1.out _ (Below.refl _ _)).mono ?_
  rintro e w1 ⟨rfl, hb1⟩
  have hb1 := Lib.hid hb1
  go_wp2_with fail
  refine (k2.out _).mono ?_
  rintro e w2 ⟨rfl, hb2⟩
  have hb2 := Lib.hid (hb1.out.trans (hb2.mono hb1.out.size))
  go_wp2_with fail
  refine (k3.out _).mono ?_
  rintro e w3 ⟨rfl, rfl⟩
  go_wp2
  go_ret3
  exact cmd_yes hb2.out

set_option maxHeartbeats 1000000 in
theorem pc_short (s : ByteArray) (w : World) (hp : Prt s) (hst : isStart s = false) (h0 : 0 < s.size) (h4 : s.size < 4) :
    Calls Tryd.prog 60 #[.string s] w (Cmd none w) := by
  obtain ⟨k1, k2, k3⟩ := head_c s w hp false hst
  obtain ⟨U, hU⟩ : ∃ U, U = up s := ⟨_, rfl⟩
  rw [← hU] at k2 k3
  unfold startB at k3
  have hU' := Lib.hid hU
  have hsz := hp.size
  have hp' := Lib.hid hp
  have hst' := Lib.hid hst
  clear hU hp hst
  have n0 : ((s.size : Int) == 0) = false := by first | (rw [beq_eq_false_iff_ne]; omega) | (rw [beq_iff_eq]; omega)
  have n3 : (s.size : Int) < 4 := by omega
  go_enter Tryd.func60, Tryd.ntmps60
  go_wp2_with fail
  refine (k1.out _ (Below.refl _ _)).mono ?_
  rintro e w1 ⟨rfl, hb1⟩
  have hb1 := Lib.hid hb1
  go_wp2_with fail
  refine (k2.out _).mono ?_
  rintro e w2 ⟨rfl, hb2⟩
  have hb2 := Lib.hid (hb1.out.trans (hb2.mono hb1.out.size))
  go_wp2_with fail
  refine (k3.out _).mono ?_
  rintro e w3 ⟨rfl, rfl⟩
  go_wp2
  go_ret3
  exact cmd_no (hb2.out.alloc hb2.out.size _)

set_option maxHeartbeats 1000000 in
theorem pc_four (s : ByteArray) (w : World) (hp : Prt s) (hst : isStart s = false) (h4 : s.size = 4) :
    Calls Tryd.prog 60 #[.string s] w (Cmd (some (up s, ⟨#[]⟩)) w) := by
  obtain ⟨k1, k2, k3⟩ := head_c s w hp false hst
  obtain ⟨U, hU⟩ : ∃ U, U = up s := ⟨_, rfl⟩
  rw [← hU] at k2 k3
  unfold startB at k3
  have hU' := Lib.hid hU
  have hsz := hp.size
  have hp' := Lib.hid hp
  have hst' := Lib.hid hst
  clear hU hp hst
  have n0 : ((s.size : Int) == 0) = false := by first | (rw [beq_eq_false_iff_ne]; omega) | (rw [beq_iff_eq]; omega)
  have n3 : ¬ (s.size : Int) < 4 := by omega
  have n4 : ((s.size : Int) == 4) = true := by first | (rw [beq_eq_false_iff_ne]; omega) | (rw [beq_iff_eq]; omega)
  clear h4
  rw [← hU'.out]
  go_enter Tryd.func60, Tryd.ntmps60
  go_wp2_with fail
  refine (k1.out _ (Below.refl _ _)).mono ?_
  rintro e w1 ⟨rfl, hb1⟩
  have hb1 := Lib.hid hb1
  go_wp2_with fail
  refine (k2.out _).mono ?_
  rintro e w2 ⟨rfl, hb2⟩
  have hb2 := Lib.hid (hb1.out.trans (hb2.mono hb1.out.size))
  go_wp2_with fail
  refine (k3.out _).mono ?_
  rintro e w3 ⟨rfl, rfl⟩
  go_wp2_with fail
  refine (k2.out _).mono ?_
  rintro e w4 ⟨rfl, hb4⟩
  have hb4 := Lib.hid (hb2.out.trans (hb4.mono hb2.out.size))
  go_wp2
  go_ret3
  exact cmd_yes hb4.out

set_option maxHeartbeats 1000000 in
theorem pc_five (s : ByteArray) (w : World) (hp : Prt s) (hst : isStart s = false) (h5 : s.size = 5) :
    Calls Tryd.prog 60 #[.string s] w (Cmd none w) := by
  obtain ⟨k1, k2, k3⟩ := head_c s w hp false hst
  obtain ⟨U, hU⟩ : ∃ U, U = up s := ⟨_, rfl⟩
  rw [← hU] at k2 k3
  unfold startB at k3
  have hU' := Lib.hid hU
  have hsz := hp.size
  have hp' := Lib.hid hp
  have hst' := Lib.hid hst
  clear hU hp hst
  have n0 : ((s.size : Int) == 0) = false := by first | (rw [beq_eq_false_iff_ne]; omega) | (rw [beq_iff_eq]; omega)
  have n3 : ¬ (s.size : Int) < 4 := by omega
  have n4 : ((s.size : Int) == 4) = false := by first | (rw [beq_eq_false_iff_ne]; omega) | (rw [beq_iff_eq]; omega)
  have n5 : ((s.size : Int) == 5) = true := by first | (rw [beq_eq_false_iff_ne]; omega) | (rw [beq_iff_eq]; omega)
  clear h5
  go_enter Tryd.func60, Tryd.ntmps60
  go_wp2_with fail
  refine (k1.out _ (Below.refl _ _)).mono ?_
  rintro e w1 ⟨rfl, hb1⟩
  have hb1 := Lib.hid hb1
  go_wp2_with fail
  refine (k2.out _).mono ?_
  rintro e w2 ⟨rfl, hb2⟩
  have hb2 := Lib.hid (hb1.out.trans (hb2.mono hb1.out.size))
  go_wp2_with fail
  refine (k3.out _).mono ?_
  rintro e w3 ⟨rfl, rfl⟩
  go_wp2
  go_ret3
  exact cmd_no (hb2.out.alloc hb2.out.size _)

set_option maxHeartbeats 1000000 in
theorem pc_noblank (s : ByteArray) (w : World) (hp : Prt s) (hst : isStart s = false) (h5 : 5 < s.size) (hc : (s[4]'(by omega)).toNat ≠ 32) :
    Calls Tryd.prog 60 #[.string s] w (Cmd none w) := by
  obtain ⟨k1, k2, k3⟩ := head_c s w hp false hst
  obtain ⟨U, hU⟩ : ∃ U, U = up s := ⟨_, rfl⟩
  rw [← hU] at k2 k3
  unfold startB at k3
  have hU' := Lib.hid hU
  have hsz := hp.size
  have hp' := Lib.hid hp
  have hst' := Lib.hid hst
  clear hU hp hst
  have n0 : ((s.size : Int) == 0) = false := by first | (rw [beq_eq_false_iff_ne]; omega) | (rw [beq_iff_eq]; omega)
  have n3 : ¬ (s.size : Int) < 4 := by omega
  have n4 : ((s.size : Int) == 4) = false := by first | (rw [beq_eq_false_iff_ne]; omega) | (rw [beq_iff_eq]; omega)
  have n5 : ((s.size : Int) == 5) = false := by first | (rw [beq_eq_false_iff_ne]; omega) | (rw [beq_iff_eq]; omega)
  have n6 : (4 : Int) < (s.size : Int) := by omega
  have nc : (((s[4]'(by omega)).toNat : Int) != 32) = true := by rw [bne_iff_ne]; omega
  go_enter Tryd.func60, Tryd.ntmps60
  go_wp2_with fail
  refine (k1.out _ (Below.refl _ _)).mono ?_
  rintro e w1 ⟨rfl, hb1⟩
  have hb1 := Lib.hid hb1
  go_wp2_with fail
  refine (k2.out _).mono ?_
  rintro e w2 ⟨rfl, hb2⟩
  have hb2 := Lib.hid (hb1.out.trans (hb2.mono hb1.out.size))
  go_wp2_with fail
  refine (k3.out _).mono ?_
  rintro e w3 ⟨rfl, rfl⟩
  go_wp2
  go_ret3
  exact cmd_no (hb2.out.alloc hb2.out.size _)

def trimB (s : ByteArray) : ByteArray := ⟨(Lib.trimSpace s.data.toList).toArray⟩
theorem trim_c (s : ByteArray) (w : World) (hp : Prt s) (henv : EnvR w) : Hid (∀ W, Below w.heap.size w W → Calls Tryd.prog 84 #[.string s] W fun e w' => e = .returned (.string (trimB s)) ∧ Below W.heap.size W w') :=
  Lib.hid fun W hW => (Tryd.strings_TrimSpace s W (by have := hp.size; omega) hp.asc (henv W hW)).mono fun e w' ⟨he, hw⟩ => ⟨he, by rw [hw]; exact bytesWorld_below _ _ _⟩
theorem extR {w1 X w2 : World} (h : Below w1.heap.size w1 X) (k : Below X.heap.size X w2) : Hid (Below w1.heap.size w1 w2) := Lib.hid (h.trans (k.mono h.size))
set_option maxHeartbeats 2000000 in
theorem pc_args (s : ByteArray) (w : World) (hp : Prt s) (hst : isStart s = false) (h5 : 5 < s.size) (hc : (s[4]'(by omega)).toNat = 32) (henv : EnvR w) :
    Calls Tryd.prog 60 #[.string s] w (Cmd (some (up (s.extract 0 4), trimB (s.extract 5 s.size))) w) := by
  have q2 := Lib.hid (fun W => Tryd.strings_ToUpper_ascii (s.extract 0 4) W (by have := (hp.ext 0 4).size; omega) (hp.ext 0 4).asc)
  have q3 := trim_c (s.extract 5 s.size) w (hp.ext _ _) henv
  obtain ⟨V, hV⟩ : ∃ V, V = up (s.extract 0 4) := ⟨_, rfl⟩
  obtain ⟨X, hX⟩ : ∃ X, X = trimB (s.extract 5 s.size) := ⟨_, rfl⟩
  have q2 : Hid (∀ W, Calls Tryd.prog 83 #[.string (s.extract 0 4)] W fun e w' => e = .returned (.string V) ∧ Below W.heap.size W w') := Lib.hid (by rw [hV]; exact q2.out)
  rw [← hX] at q3 ⊢
  rw [← hV]
  clear hV hX henv
  obtain ⟨k1, k2, k3⟩ := head_c s w hp false hst
  obtain ⟨U, hU⟩ : ∃ U, U = up s := ⟨_, rfl⟩
  rw [← hU] at k2 k3
  unfold startB at k3
  have hU' := Lib.hid hU
  have hsz := hp.size
  have hp' := Lib.hid hp
  have hst' := Lib.hid hst
  clear hU hp hst
  have n0 : ((s.size : Int) == 0) = false := by first | (rw [beq_eq_false_iff_ne]; omega) | (rw [beq_iff_eq]; omega)
  have n3 : ¬ (s.size : Int) < 4 := by omega
  have n4 : ((s.size : Int) == 4) = false := by first | (rw [beq_eq_false_iff_ne]; omega) | (rw [beq_iff_eq]; omega)
  have n5 : ((s.size : Int) == 5) = false := by first | (rw [beq_eq_false_iff_ne]; omega) | (rw [beq_iff_eq]; omega)
  have n6 : (4 : Int) < (s.size : Int) := by omega
  have n7 : (5 : Int) ≤ (s.size : Int) := by omega
  have n8 : (4 : Int) ≤ (s.size : Int) := by omega
  have nc : (((s[4]'(by omega)).toNat : Int) != 32) = false := by rw [bne_eq_false_iff_eq]; omega
  clear hc
  go_enter Tryd.func60, Tryd.ntmps60
  go_wp2_with fail
  refine (k1.out _ (Below.refl _ _)).mono ?_
  rintro e w1 ⟨rfl, hb1⟩
  have hb1 := Lib.hid hb1
  go_wp2_with fail
  refine (k2.out _).mono ?_
  rintro e w2 ⟨rfl, hb2⟩
  have hb2 := Lib.hid (hb1.out.trans (hb2.mono hb1.out.size))
  go_wp2_with fail
  refine (k3.out _).mono ?_
  rintro e w3 ⟨rfl, rfl⟩
  go_wp2_with fail
  have hB0 := hb2
  go_region_with ((first | (go_at_call 83; refine (q2.out _).mono ?_; rintro e w4 ⟨rfl, hb4⟩; have hBn := extR (by first | exact hBn.out.drew | exact hBn.out | exact hBn.out.drew.drew | exact hB0.out.drew | exact hB0.out | exact hB0.out.drew.drew) hb4; clear hb4) | (go_at_call 84; refine (q3.out _ (by first | exact hBn.out.drew | exact hBn.out | exact hBn.out.drew.drew | exact hB0.out.drew | exact hB0.out | exact hB0.out.drew.drew)).mono ?_; rintro e w4 ⟨rfl, hb4⟩; have hBn := extR (by first | exact hBn.out.drew | exact hBn.out | exact hBn.out.drew.drew | exact hB0.out.drew | exact hB0.out | exact hB0.out.drew.drew) hb4; clear hb4)))
  all_goals
    go_wp2
    go_ret3
    exact cmd_yes hBn.out

end Go.Proofs.YtnokeaiemiiicaaDoor.Own
