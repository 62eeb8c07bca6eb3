/- FlagsOp (what a store item asks for) by hand: for every item it returns the item without '.SILENT' behind it, whether that stood there, and whether the rest is one of the three operations. -/
import Derived.Test.YtnokeaiemiiicaaProg
import Derived.WalkKit
import Derived.WalkSpells
import Derived.WalkLawsBesides
import Derived.Lib.Hide
import Derived.Deep.QuietTactic
import Derived.BigQuiet
namespace Go.Proofs.Ytnokeaiemiiicaa.Own
open Go.RowKit
set_option linter.unusedVariables false
set_option linter.unusedSimpArgs false

def isSilent (s : ByteArray) : Bool := decide (7 ≤ s.size) && ((s.extract (s.size - 7) s.size).toList == [46, 83, 73, 76, 69, 78, 84])
def opOf (s : ByteArray) : ByteArray := if isSilent s then s.extract 0 (s.size - 7) else s
def isOp (s : ByteArray) : Bool := s.toList == [70, 76, 65, 71, 83] || s.toList == [43, 70, 76, 65, 71, 83] || s.toList == [45, 70, 76, 65, 71, 83]
/-- nil, or an error. -/
def ErrV (ok : Bool) (v : Value) : Prop := (ok = true → v = .nilIface) ∧ (ok = false → ∃ T x, v = .iface T x)
def Parsed (t : ByteArray) (sil ok : Bool) (w : World) (e : Ending) (w' : World) : Prop :=
  ∃ v, e = .returned (.tuple #[.string t, .bool sil, v]) ∧ ErrV ok v ∧ Below w.heap.size w w'
theorem errV_nil : ErrV true .nilIface := ⟨(fun _ => rfl), (fun h => by cases h)⟩
theorem errV_some (T : TypeId) (x : Value) : ErrV false (.iface T x) := ⟨(fun h => by cases h), (fun _ => ⟨T, x, rfl⟩)⟩

set_option maxHeartbeats 400000 in
theorem parse_long0 (s : ByteArray) (w : World) (hs : s.size ≤ maxLen) (h7 : (7 : Int) ≤ (s.size : Int)) (h2 : ((s.extract (s.size - 7) s.size).toList == [46, 83, 73, 76, 69, 78, 84]) = true) (c0 : ((s.extract 0 (s.size - 7)).toList == [70, 76, 65, 71, 83]) = true) :
    Calls Try.prog 31 #[.string s] w (Parsed (s.extract 0 (s.size - 7)) true true w) := by
  unfold maxLen at hs
  have h7n : 7 ≤ s.size := by omega
  go_enter Try.func31, Try.ntmps31
  go_wp2
  go_ret3
  exact ⟨_, rfl, errV_nil, Below.refl _ _⟩
set_option maxHeartbeats 400000 in
theorem parse_long1 (s : ByteArray) (w : World) (hs : s.size ≤ maxLen) (h7 : (7 : Int) ≤ (s.size : Int)) (h2 : ((s.extract (s.size - 7) s.size).toList == [46, 83, 73, 76, 69, 78, 84]) = true) (c0 : ((s.extract 0 (s.size - 7)).toList == [70, 76, 65, 71, 83]) = false) (c1 : ((s.extract 0 (s.size - 7)).toList == [43, 70, 76, 65, 71, 83]) = true) :
    Calls Try.prog 31 #[.string s] w (Parsed (s.extract 0 (s.size - 7)) true true w) := by
  unfold maxLen at hs
  have h7n : 7 ≤ s.size := by omega
  go_enter Try.func31, Try.ntmps31
  go_wp2
  go_ret3
  exact ⟨_, rfl, errV_nil, Below.refl _ _⟩
set_option maxHeartbeats 400000 in
theorem parse_long2 (s : ByteArray) (w : World) (hs : s.size ≤ maxLen) (h7 : (7 : Int) ≤ (s.size : Int)) (h2 : ((s.extract (s.size - 7) s.size).toList == [46, 83, 73, 76, 69, 78, 84]) = true) (c0 : ((s.extract 0 (s.size - 7)).toList == [70, 76, 65, 71, 83]) = false) (c1 : ((s.extract 0 (s.size - 7)).toList == [43, 70, 76, 65, 71, 83]) = false) (c2 : ((s.extract 0 (s.size - 7)).toList == [45, 70, 76, 65, 71, 83]) = true) :
    Calls Try.prog 31 #[.string s] w (Parsed (s.extract 0 (s.size - 7)) true true w) := by
  unfold maxLen at hs
  have h7n : 7 ≤ s.size := by omega
  go_enter Try.func31, Try.ntmps31
  go_wp2
  go_ret3
  exact ⟨_, rfl, errV_nil, Below.refl _ _⟩
set_option maxHeartbeats 400000 in
theorem parse_long3 (s : ByteArray) (w : World) (hs : s.size ≤ maxLen) (h7 : (7 : Int) ≤ (s.size : Int)) (h2 : ((s.extract (s.size - 7) s.size).toList == [46, 83, 73, 76, 69, 78, 84]) = true) (c0 : ((s.extract 0 (s.size - 7)).toList == [70, 76, 65, 71, 83]) = false) (c1 : ((s.extract 0 (s.size - 7)).toList == [43, 70, 76, 65, 71, 83]) = false) (c2 : ((s.extract 0 (s.size - 7)).toList == [45, 70, 76, 65, 71, 83]) = false) :
    Calls Try.prog 31 #[.string s] w (Parsed (s.extract 0 (s.size - 7)) true false w) := by
  unfold maxLen at hs
  have h7n : 7 ≤ s.size := by omega
  go_enter Try.func31, Try.ntmps31
  go_wp2
  go_ret3
  exact ⟨_, rfl, errV_some _ _, (Below.refl _ _).alloc (Nat.le_refl _) _⟩
set_option maxHeartbeats 400000 in
theorem parse_other0 (s : ByteArray) (w : World) (hs : s.size ≤ maxLen) (h7 : (7 : Int) ≤ (s.size : Int)) (h2 : ((s.extract (s.size - 7) s.size).toList == [46, 83, 73, 76, 69, 78, 84]) = false) (c0 : (s.toList == [70, 76, 65, 71, 83]) = true) :
    Calls Try.prog 31 #[.string s] w (Parsed s false true w) := by
  unfold maxLen at hs
  have h7n : 7 ≤ s.size := by omega
  go_enter Try.func31, Try.ntmps31
  go_wp2
  go_ret3
  exact ⟨_, rfl, errV_nil, Below.refl _ _⟩
set_option maxHeartbeats 400000 in
theorem parse_other1 (s : ByteArray) (w : World) (hs : s.size ≤ maxLen) (h7 : (7 : Int) ≤ (s.size : Int)) (h2 : ((s.extract (s.size - 7) s.size).toList == [46, 83, 73, 76, 69, 78, 84]) = false) (c0 : (s.toList == [70, 76, 65, 71, 83]) = false) (c1 : (s.toList == [43, 70, 76, 65, 71, 83]) = true) :
    Calls Try.prog 31 #[.string s] w (Parsed s false true w) := by
  unfold maxLen at hs
  have h7n : 7 ≤ s.size := by omega
  go_enter Try.func31, Try.ntmps31
  go_wp2
  go_ret3
  exact ⟨_, rfl, errV_nil, Below.refl _ _⟩
set_option maxHeartbeats 400000 in
theorem parse_other2 (s : ByteArray) (w : World) (hs : s.size ≤ maxLen) (h7 : (7 : Int) ≤ (s.size : Int)) (h2 : ((s.extract (s.size - 7) s.size).toList == [46, 83, 73, 76, 69, 78, 84]) = false) (c0 : (s.toList == [70, 76, 65, 71, 83]) = false) (c1 : (s.toList == [43, 70, 76, 65, 71, 83]) = false) (c2 : (s.toList == [45, 70, 76, 65, 71, 83]) = true) :
    Calls Try.prog 31 #[.string s] w (Parsed s false true w) := by
  unfold maxLen at hs
  have h7n : 7 ≤ s.size := by omega
  go_enter Try.func31, Try.ntmps31
  go_wp2
  go_ret3
  exact ⟨_, rfl, errV_nil, Below.refl _ _⟩
set_option maxHeartbeats 400000 in
theorem parse_other3 (s : ByteArray) (w : World) (hs : s.size ≤ maxLen) (h7 : (7 : Int) ≤ (s.size : Int)) (h2 : ((s.extract (s.size - 7) s.size).toList == [46, 83, 73, 76, 69, 78, 84]) = false) (c0 : (s.toList == [70, 76, 65, 71, 83]) = false) (c1 : (s.toList == [43, 70, 76, 65, 71, 83]) = false) (c2 : (s.toList == [45, 70, 76, 65, 71, 83]) = false) :
    Calls Try.prog 31 #[.string s] w (Parsed s false false w) := by
  unfold maxLen at hs
  have h7n : 7 ≤ s.size := by omega
  go_enter Try.func31, Try.ntmps31
  go_wp2
  go_ret3
  exact ⟨_, rfl, errV_some _ _, (Below.refl _ _).alloc (Nat.le_refl _) _⟩
set_option maxHeartbeats 400000 in
theorem parse_short0 (s : ByteArray) (w : World) (hs : s.size ≤ maxLen) (h7 : ¬ (7 : Int) ≤ (s.size : Int)) (_h2 : True) (c0 : (s.toList == [70, 76, 65, 71, 83]) = true) :
    Calls Try.prog 31 #[.string s] w (Parsed s false true w) := by
  unfold maxLen at hs
  have h7n : ¬ 7 ≤ s.size := by omega
  go_enter Try.func31, Try.ntmps31
  go_wp2
  go_ret3
  exact ⟨_, rfl, errV_nil, Below.refl _ _⟩
set_option maxHeartbeats 400000 in
theorem parse_short1 (s : ByteArray) (w : World) (hs : s.size ≤ maxLen) (h7 : ¬ (7 : Int) ≤ (s.size : Int)) (_h2 : True) (c0 : (s.toList == [70, 76, 65, 71, 83]) = false) (c1 : (s.toList == [43, 70, 76, 65, 71, 83]) = true) :
    Calls Try.prog 31 #[.string s] w (Parsed s false true w) := by
  unfold maxLen at hs
  have h7n : ¬ 7 ≤ s.size := by omega
  go_enter Try.func31, Try.ntmps31
  go_wp2
  go_ret3
  exact ⟨_, rfl, errV_nil, Below.refl _ _⟩
set_option maxHeartbeats 400000 in
theorem parse_short2 (s : ByteArray) (w : World) (hs : s.size ≤ maxLen) (h7 : ¬ (7 : Int) ≤ (s.size : Int)) (_h2 : True) (c0 : (s.toList == [70, 76, 65, 71, 83]) = false) (c1 : (s.toList == [43, 70, 76, 65, 71, 83]) = false) (c2 : (s.toList == [45, 70, 76, 65, 71, 83]) = true) :
    Calls Try.prog 31 #[.string s] w (Parsed s false true w) := by
  unfold maxLen at hs
  have h7n : ¬ 7 ≤ s.size := by omega
  go_enter Try.func31, Try.ntmps31
  go_wp2
  go_ret3
  exact ⟨_, rfl, errV_nil, Below.refl _ _⟩
set_option maxHeartbeats 400000 in
theorem parse_short3 (s : ByteArray) (w : World) (hs : s.size ≤ maxLen) (h7 : ¬ (7 : Int) ≤ (s.size : Int)) (_h2 : True) (c0 : (s.toList == [70, 76, 65, 71, 83]) = false) (c1 : (s.toList == [43, 70, 76, 65, 71, 83]) = false) (c2 : (s.toList == [45, 70, 76, 65, 71, 83]) = false) :
    Calls Try.prog 31 #[.string s] w (Parsed s false false w) := by
  unfold maxLen at hs
  have h7n : ¬ 7 ≤ s.size := by omega
  go_enter Try.func31, Try.ntmps31
  go_wp2
  go_ret3
  exact ⟨_, rfl, errV_some _ _, (Below.refl _ _).alloc (Nat.le_refl _) _⟩

theorem parse_any (s : ByteArray) (w : World) (hs : s.size ≤ maxLen) : Calls Try.prog 31 #[.string s] w (Parsed (opOf s) (isSilent s) (isOp (opOf s)) w) := by
  by_cases h7 : (7 : Int) ≤ (s.size : Int)
  · have h7n : 7 ≤ s.size := by omega
    cases h2 : ((s.extract (s.size - 7) s.size).toList == [46, 83, 73, 76, 69, 78, 84]) with
    | true =>
      have e1 : isSilent s = true := by simp [isSilent, h7n, h2]
      have e2 : opOf s = s.extract 0 (s.size - 7) := by rw [opOf, e1]; rfl
      rw [e1, e2]
      cases c0 : ((s.extract 0 (s.size - 7)).toList == [70, 76, 65, 71, 83]) with
      | true =>
        rw [show isOp (s.extract 0 (s.size - 7)) = true by simp [isOp, c0]]
        exact parse_long0 s w hs h7 h2 c0
      | false =>
        cases c1 : ((s.extract 0 (s.size - 7)).toList == [43, 70, 76, 65, 71, 83]) with
        | true =>
          rw [show isOp (s.extract 0 (s.size - 7)) = true by simp [isOp, c0, c1]]
          exact parse_long1 s w hs h7 h2 c0 c1
        | false =>
          cases c2 : ((s.extract 0 (s.size - 7)).toList == [45, 70, 76, 65, 71, 83]) with
          | true =>
            rw [show isOp (s.extract 0 (s.size - 7)) = true by simp [isOp, c0, c1, c2]]
            exact parse_long2 s w hs h7 h2 c0 c1 c2
          | false =>
            rw [show isOp (s.extract 0 (s.size - 7)) = false by unfold isOp; rw [c0, c1, c2]; rfl]
            exact parse_long3 s w hs h7 h2 c0 c1 c2
    | false =>
      have e1 : isSilent s = false := by simp [isSilent, h2]
      have e2 : opOf s = s := by rw [opOf, e1]; rfl
      rw [e1, e2]
      cases c0 : (s.toList == [70, 76, 65, 71, 83]) with
      | true =>
        rw [show isOp s = true by simp [isOp, c0]]
        exact parse_other0 s w hs h7 h2 c0
      | false =>
        cases c1 : (s.toList == [43, 70, 76, 65, 71, 83]) with
        | true =>
          rw [show isOp s = true by simp [isOp, c0, c1]]
          exact parse_other1 s w hs h7 h2 c0 c1
        | false =>
          cases c2 : (s.toList == [45, 70, 76, 65, 71, 83]) with
          | true =>
            rw [show isOp s = true by simp [isOp, c0, c1, c2]]
            exact parse_other2 s w hs h7 h2 c0 c1 c2
          | false =>
            rw [show isOp s = false by unfold isOp; rw [c0, c1, c2]; rfl]
            exact parse_other3 s w hs h7 h2 c0 c1 c2
  · have h7n : ¬ 7 ≤ s.size := by omega
    have e1 : isSilent s = false := by simp [isSilent, h7n]
    have e2 : opOf s = s := by rw [opOf, e1]; rfl
    rw [e1, e2]
    cases c0 : (s.toList == [70, 76, 65, 71, 83]) with
    | true =>
      rw [show isOp s = true by simp [isOp, c0]]
      exact parse_short0 s w hs h7 trivial c0
    | false =>
      cases c1 : (s.toList == [43, 70, 76, 65, 71, 83]) with
      | true =>
        rw [show isOp s = true by simp [isOp, c0, c1]]
        exact parse_short1 s w hs h7 trivial c0 c1
      | false =>
        cases c2 : (s.toList == [45, 70, 76, 65, 71, 83]) with
        | true =>
          rw [show isOp s = true by simp [isOp, c0, c1, c2]]
          exact parse_short2 s w hs h7 trivial c0 c1 c2
        | false =>
          rw [show isOp s = false by unfold isOp; rw [c0, c1, c2]; rfl]
          exact parse_short3 s w hs h7 trivial c0 c1 c2

set_option maxHeartbeats 400000 in
theorem flagsOp_any (s : ByteArray) (w : World) (hs : s.size ≤ maxLen) :
    Calls Try.prog 15 #[.string s] w fun e w' => e = .returned (.tuple #[.string (opOf s), .bool (isSilent s), .bool (isOp (opOf s))]) ∧ Below w.heap.size w w' := by
  have hp := fun W => parse_any s W hs
  generalize opOf s = t at *
  generalize isSilent s = sil at *
  generalize isOp t = ok at *
  have Hp := Lib.hid hp
  clear hp
  cases ok with
  | true =>
    go_enter Try.func15, Try.ntmps15
    go_wp2_with (go_at_call 31; refine (Hp.out _).mono ?_; rintro e w1 ⟨v, rfl, herr, hb⟩; obtain rfl := herr.1 rfl)
    go_quiet (fail)
    go_wp2
    go_ret3
    exact ⟨rfl, below_drewN hb _⟩
  | false =>
    go_enter Try.func15, Try.ntmps15
    go_wp2_with (go_at_call 31; refine (Hp.out _).mono ?_; rintro e w1 ⟨v, rfl, herr, hb⟩; obtain ⟨T, x, rfl⟩ := herr.2 rfl)
    go_quiet (fail)
    go_wp2
    go_ret3
    exact ⟨rfl, below_drewN hb _⟩

/-- In the print's form. -/
def impl_FlagsOp.f (a0 : ByteArray) : Option (ByteArray × Bool × Bool) := if a0.size ≤ 9223372036854775807 then some (opOf a0, isSilent a0, isOp (opOf a0)) else none
theorem impl_FlagsOp.calls (a0 : ByteArray) (r1 : ByteArray) (r2 : Bool) (r3 : Bool) (w : World) (h : impl_FlagsOp.f a0 = some (r1, r2, r3)) :
    Calls Try.prog 15 #[.string a0] w fun e w' => e = .returned (.tuple #[.string r1, .bool r2, .bool r3]) ∧ Below w.heap.size w w' := by
  unfold impl_FlagsOp.f at h
  split at h
  · cases h
    exact flagsOp_any a0 w (by unfold maxLen; omega)
  · cases h
end Go.Proofs.Ytnokeaiemiiicaa.Own
