/- given.example/pub-datestamp/spec.Upper: for every text it returns the text with its small letters of ASCII great. -/
import Derived.Test.YtldiamldbpobgaaGreatDoorTurn
namespace Go.Proofs.YtldiamldbpobgaaGreatDoor.Own
open Go.RowKit
set_option linter.unusedVariables false
set_option linter.unusedSimpArgs false
set_option maxHeartbeats 400000 in
theorem upper_any (s : ByteArray) (w : World) (hs : s.size ≤ maxLen) :
    Calls Tryz.prog 11 #[.string s] w fun e w' => e = .returned (.string (upS s)) ∧ Below w.heap.size w w' := by
  unfold maxLen at hs
  have hconv := fun W => Lib.run_convert_string_bytes (P := Tryz.prog) W 9 46 5 s Tryz.underlying9 Tryz.underlying46 Tryz.underlying5
  go_enter Tryz.func11, Tryz.ntmps11
  go_wp2_with fail
  go_loopw [4] (fun i wr => ∃ k : Nat, k ≤ s.size ∧ i = .int .i64 k ∧ Row8 5 wr w.heap.size (mapAt upB s.data.toList k) ∧ Below w.heap.size w wr) (fun i _ => s.size - (intOf i).toNat)
  case atStart => exact ⟨0, Nat.zero_le _, rfl, by rw [mapAt_zero]; exact Row8.of_conv _ _ _, below_conv _ _ _⟩
  case round =>
    obtain ⟨k, hk, rfl, hrow, hb⟩ := hrel
    by_cases hlt : k < s.size
    · have hlen : k < s.data.toList.length := by simpa using hlt
      obtain ⟨c, hc⟩ : ∃ c, s.data.toList[k]? = some c := ⟨_, List.getElem?_eq_getElem hlen⟩
      have hcell := hrow.cell (mapAt_get upB _ k c hc)
      have hfree := hrow.free (j := k) (by rw [mapAt_length]; exact hlen)
      have hcb : (c.toNat : Int) < 256 := by have := c.toNat_lt; omega
      have hrow' := Lib.hid hrow
      have hb' := Lib.hid hb
      have hc' := Lib.hid hc
      clear hrow hb hc hconv
      by_cases h1 : (97 : Int) ≤ (c.toNat : Int)
      · by_cases h2 : (c.toNat : Int) ≤ 122
        · go_wp2
          have hset := hrow'.out.set k (upB c)
          rw [mapAt_set upB _ k c hc'.out, upB_yes c (by omega) (by omega)] at hset
          exact ⟨⟨k + 1, by omega, by go_num, hset, hb'.out.setCell (Nat.le_refl _) _⟩, by simp [intOf]; omega⟩
        · go_wp2
          exact ⟨⟨k + 1, by omega, by go_num, by rw [← mapAt_keep upB _ k c hc'.out (upB_no c (by omega))]; exact hrow'.out, hb'.out⟩, by simp [intOf]; omega⟩
      · go_wp2
        exact ⟨⟨k + 1, by omega, by go_num, by rw [← mapAt_keep upB _ k c hc'.out (upB_no c (by omega))]; exact hrow'.out, hb'.out⟩, by simp [intOf]; omega⟩
    · have hback := hrow.string (P := Tryz.prog) 46 9 Tryz.underlying46 Tryz.underlying5 Tryz.underlying9 s.size (grownCap w s.size 0 5) (by rw [mapAt_length]; simp)
      rw [mapAt_all upB _ k (by simpa using hlt)] at hback
      go_wp2
      go_ret
      exact ⟨rfl, hb⟩

/-- In the print's form. -/
def spec_Upper.f (a0 : ByteArray) : Option (ByteArray) := if a0.size ≤ 9223372036854775807 then some (upS a0) else none
theorem spec_Upper.calls (a0 : ByteArray) (r : ByteArray) (w : World) (h : spec_Upper.f a0 = some r) :
    Calls Tryz.prog 11 #[.string a0] w fun e w' => e = .returned (.string r) ∧ Below w.heap.size w w' := by
  unfold spec_Upper.f at h
  split at h
  · cases h
    exact upper_any a0 w (by unfold maxLen; omega)
  · cases h
end Go.Proofs.YtldiamldbpobgaaGreatDoor.Own
