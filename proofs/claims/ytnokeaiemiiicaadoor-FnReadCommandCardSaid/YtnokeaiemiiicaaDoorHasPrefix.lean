/- strings.HasPrefix by hand, over lists of bytes. -/
import Derived.Test.YtnokeaiemiiicaaDoorProg
import Derived.WalkKit
import Derived.WalkSpells
import Derived.Lib.Strings
import Derived.Lib.Hide
namespace Go.Proofs.YtnokeaiemiiicaaDoor.Own
open Go.RowKit
set_option linter.unusedVariables false
set_option linter.unusedSimpArgs false

theorem hasPrefix_any (s p : ByteArray) (w : World) (hs : s.size ≤ maxLen) (hp : p.size ≤ maxLen) :
    Calls Tryd.prog 82 #[.string s, .string p] w fun e w' => e = .returned (.bool (Lib.hasPrefix s.data.toList p.data.toList)) ∧ w = w' := by
  unfold maxLen at hs hp
  rw [← Lib.hasPrefix_raw]
  by_cases h : p.size ≤ s.size
  · have h1 : (p.size : Int) ≤ (s.size : Int) := by omega
    cases hb : ((s.extract 0 p.size).toList == p.toList) with
    | true =>
      have hf := Lib.hid (show (decide (p.size ≤ s.size) && true) = true by simp [h])
      rw [hf.out]
      go_enter Tryd.func82, Tryd.ntmps82
      go_wp2
      go_ret
      exact ⟨rfl, rfl⟩
    | false =>
      have hf := Lib.hid (show (decide (p.size ≤ s.size) && false) = false by simp)
      rw [hf.out]
      go_enter Tryd.func82, Tryd.ntmps82
      go_wp2
      go_ret
      exact ⟨rfl, rfl⟩
  · have h1 : ¬ (p.size : Int) ≤ (s.size : Int) := by omega
    have hf := Lib.hid (show (decide (p.size ≤ s.size) && ((s.extract 0 p.size).toList == p.toList)) = false by simp [h])
    rw [hf.out]
    go_enter Tryd.func82, Tryd.ntmps82
    go_wp2
    go_ret
    exact ⟨rfl, rfl⟩

end Go.Proofs.YtnokeaiemiiicaaDoor.Own
