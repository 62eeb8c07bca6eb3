/- Small functions of package strings by hand, over lists of bytes: HasPrefix, TrimPrefix, HasSuffix. -/
import Derived.Test.YtnokeaiemiiicaaProg
import Derived.WalkKit
import Derived.WalkSpells
import Derived.Lib.Strings
import Derived.Lib.Hide
namespace Go.Proofs.Ytnokeaiemiiicaa.Own
open Go.RowKit
set_option linter.unusedVariables false
set_option linter.unusedSimpArgs false

theorem hasPrefix_any (s p : ByteArray) (w : World) (hs : s.size ≤ maxLen) (hp : p.size ≤ maxLen) :
    Calls Try.prog 41 #[.string s, .string p] w fun e w' => e = .returned (.bool (Lib.hasPrefix s.data.toList p.data.toList)) ∧ w = w' := by
  unfold maxLen at hs hp
  rw [← Lib.hasPrefix_raw]
  by_cases h : p.size ≤ s.size
  · have h1 : (p.size : Int) ≤ (s.size : Int) := by omega
    cases hb : ((s.extract 0 p.size).toList == p.toList) with
    | true =>
      have hf := Lib.hid (show (decide (p.size ≤ s.size) && true) = true by simp [h])
      rw [hf.out]
      go_enter Try.func41, Try.ntmps41
      go_wp2
      go_ret
      exact ⟨rfl, rfl⟩
    | false =>
      have hf := Lib.hid (show (decide (p.size ≤ s.size) && false) = false by simp)
      rw [hf.out]
      go_enter Try.func41, Try.ntmps41
      go_wp2
      go_ret
      exact ⟨rfl, rfl⟩
  · have h1 : ¬ (p.size : Int) ≤ (s.size : Int) := by omega
    have hf := Lib.hid (show (decide (p.size ≤ s.size) && ((s.extract 0 p.size).toList == p.toList)) = false by simp [h])
    rw [hf.out]
    go_enter Try.func41, Try.ntmps41
    go_wp2
    go_ret
    exact ⟨rfl, rfl⟩

theorem hasSuffix_any (s p : ByteArray) (w : World) (hs : s.size ≤ maxLen) (hp : p.size ≤ maxLen) :
    Calls Try.prog 38 #[.string s, .string p] w fun e w' => e = .returned (.bool (Lib.hasSuffix s.data.toList p.data.toList)) ∧ w = w' := by
  unfold maxLen at hs hp
  rw [← Lib.hasSuffix_raw]
  by_cases h : p.size ≤ s.size
  · have h1 : (p.size : Int) ≤ (s.size : Int) := by omega
    cases hb : ((s.extract (s.size - p.size) s.size).toList == p.toList) with
    | true =>
      have hf := Lib.hid (show (decide (p.size ≤ s.size) && true) = true by simp [h])
      rw [hf.out]
      go_enter Try.func38, Try.ntmps38
      go_wp2
      go_ret
      exact ⟨rfl, rfl⟩
    | false =>
      have hf := Lib.hid (show (decide (p.size ≤ s.size) && false) = false by simp)
      rw [hf.out]
      go_enter Try.func38, Try.ntmps38
      go_wp2
      go_ret
      exact ⟨rfl, rfl⟩
  · have h1 : ¬ (p.size : Int) ≤ (s.size : Int) := by omega
    have hf := Lib.hid (show (decide (p.size ≤ s.size) && ((s.extract (s.size - p.size) s.size).toList == p.toList)) = false by simp [h])
    rw [hf.out]
    go_enter Try.func38, Try.ntmps38
    go_wp2
    go_ret
    exact ⟨rfl, rfl⟩

theorem trimPrefix_any (s p : ByteArray) (w : World) (hs : s.size ≤ maxLen) (hp : p.size ≤ maxLen) :
    Calls Try.prog 42 #[.string s, .string p] w fun e w' => e = .returned (.string ⟨(Lib.trimPrefix s.data.toList p.data.toList).toArray⟩) ∧ w = w' := by
  unfold maxLen at hs hp
  by_cases h : p.size ≤ s.size
  · have h1 : (p.size : Int) ≤ (s.size : Int) := by omega
    cases hb : ((s.extract 0 p.size).toList == p.toList) with
    | true =>
      rw [Lib.trimPrefix_hit s p h hb]
      go_enter Try.func42, Try.ntmps42
      go_wp2
      go_ret
      exact ⟨rfl, rfl⟩
    | false =>
      rw [Lib.trimPrefix_miss s p (by simp [hb])]
      go_enter Try.func42, Try.ntmps42
      go_wp2
      go_ret
      exact ⟨rfl, rfl⟩
  · have h1 : ¬ (p.size : Int) ≤ (s.size : Int) := by omega
    rw [Lib.trimPrefix_miss s p (by simp [h])]
    go_enter Try.func42, Try.ntmps42
    go_wp2
    go_ret
    exact ⟨rfl, rfl⟩
end Go.Proofs.Ytnokeaiemiiicaa.Own
