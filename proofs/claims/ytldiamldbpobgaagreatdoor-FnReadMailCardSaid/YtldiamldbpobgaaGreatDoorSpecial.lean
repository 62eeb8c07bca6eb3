/- spec.special by hand: whether a sign may not stand in a local part without quotes. (Written by wip/gen_special.py.) -/
import Derived.Test.YtldiamldbpobgaaGreatDoorOne
namespace Go.Proofs.YtldiamldbpobgaaGreatDoor.Own
open Go.RowKit Go.Lib
set_option linter.unusedVariables false
set_option linter.unusedSimpArgs false

def spZ : List Int := [40, 41, 60, 62, 91, 93, 58, 59, 92, 44, 34, 32, 9]
def specB (a : Int) : Bool := spZ.contains a
theorem spZ_hit (n : Nat) (a : Int) (h : spZ[n]? = some a) : specB a = true := by
  unfold specB
  rw [List.contains_iff_mem]
  exact List.mem_of_getElem? h
set_option maxHeartbeats 4000000 in
theorem special_any (a : Int) (w : World) : Calls Tryz.prog 15 #[.int .u8 a] w fun e w' => e = .returned (.bool (specB a)) ∧ w = w' := by
  go_enter Tryz.func15, Tryz.ntmps15
  go_wp2_with fail
  go_loop [4] (fun i => ∃ k : Nat, k ≤ 13 ∧ i = .int .i64 k ∧ Hid (∀ x ∈ spZ.take k, x ≠ a)) (fun i => 13 - (intOf i).toNat)
  case atStart => exact ⟨0, Nat.zero_le _, rfl, fun x hx => by simp at hx⟩
  case round =>
    obtain ⟨k, hk, rfl, hno⟩ := hrel
    rcases (by omega : k = 0 ∨ k = 1 ∨ k = 2 ∨ k = 3 ∨ k = 4 ∨ k = 5 ∨ k = 6 ∨ k = 7 ∨ k = 8 ∨ k = 9 ∨ k = 10 ∨ k = 11 ∨ k = 12 ∨ k = 13) with rfl | rfl | rfl | rfl | rfl | rfl | rfl | rfl | rfl | rfl | rfl | rfl | rfl | rfl
    · have hix : ∀ h, ((⟨#[40, 41, 60, 62, 91, 93, 58, 59, 92, 44, 34, 32, 9]⟩ : ByteArray)[0]'h : UInt8) = 40 := fun h => rfl
      by_cases hc : 40 = a
      · have hv := Lib.hid (spZ_hit 0 a (by rw [← hc]; rfl))
        have hc' : ((40 : Int) == a) = true := by rw [beq_iff_eq]; exact hc
        clear hc hno
        go_wp2
        go_ret
        exact ⟨by rw [hv.out]; rfl, rfl⟩
      · have hc' : ((40 : Int) == a) = false := by rw [beq_eq_false_iff_ne]; exact hc
        have hn2 : Hid (∀ x ∈ spZ.take 1, x ≠ a) := Lib.hid (fun x hx => by
          rw [show spZ.take 1 = spZ.take 0 ++ [40] from rfl] at hx
          rcases List.mem_append.1 hx with h | h
          · exact hno.out x h
          · rw [List.mem_singleton.1 h]; exact hc)
        clear hc hno
        go_wp2
        exact ⟨⟨1, by omega, rfl, hn2⟩, by simp [intOf]⟩
    · have hix : ∀ h, ((⟨#[40, 41, 60, 62, 91, 93, 58, 59, 92, 44, 34, 32, 9]⟩ : ByteArray)[1]'h : UInt8) = 41 := fun h => rfl
      by_cases hc : 41 = a
      · have hv := Lib.hid (spZ_hit 1 a (by rw [← hc]; rfl))
        have hc' : ((41 : Int) == a) = true := by rw [beq_iff_eq]; exact hc
        clear hc hno
        go_wp2
        go_ret
        exact ⟨by rw [hv.out]; rfl, rfl⟩
      · have hc' : ((41 : Int) == a) = false := by rw [beq_eq_false_iff_ne]; exact hc
        have hn2 : Hid (∀ x ∈ spZ.take 2, x ≠ a) := Lib.hid (fun x hx => by
          rw [show spZ.take 2 = spZ.take 1 ++ [41] from rfl] at hx
          rcases List.mem_append.1 hx with h | h
          · exact hno.out x h
          · rw [List.mem_singleton.1 h]; exact hc)
        clear hc hno
        go_wp2
        exact ⟨⟨2, by omega, rfl, hn2⟩, by simp [intOf]⟩
    · have hix : ∀ h, ((⟨#[40, 41, 60, 62, 91, 93, 58, 59, 92, 44, 34, 32, 9]⟩ : ByteArray)[2]'h : UInt8) = 60 := fun h => rfl
      by_cases hc : 60 = a
      · have hv := Lib.hid (spZ_hit 2 a (by rw [← hc]; rfl))
        have hc' : ((60 : Int) == a) = true := by rw [beq_iff_eq]; exact hc
        clear hc hno
        go_wp2
        go_ret
        exact ⟨by rw [hv.out]; rfl, rfl⟩
      · have hc' : ((60 : Int) == a) = false := by rw [beq_eq_false_iff_ne]; exact hc
        have hn2 : Hid (∀ x ∈ spZ.take 3, x ≠ a) := Lib.hid (fun x hx => by
          rw [show spZ.take 3 = spZ.take 2 ++ [60] from rfl] at hx
          rcases List.mem_append.1 hx with h | h
          · exact hno.out x h
          · rw [List.mem_singleton.1 h]; exact hc)
        clear hc hno
        go_wp2
        exact ⟨⟨3, by omega, rfl, hn2⟩, by simp [intOf]⟩
    · have hix : ∀ h, ((⟨#[40, 41, 60, 62, 91, 93, 58, 59, 92, 44, 34, 32, 9]⟩ : ByteArray)[3]'h : UInt8) = 62 := fun h => rfl
      by_cases hc : 62 = a
      · have hv := Lib.hid (spZ_hit 3 a (by rw [← hc]; rfl))
        have hc' : ((62 : Int) == a) = true := by rw [beq_iff_eq]; exact hc
        clear hc hno
        go_wp2
        go_ret
        exact ⟨by rw [hv.out]; rfl, rfl⟩
      · have hc' : ((62 : Int) == a) = false := by rw [beq_eq_false_iff_ne]; exact hc
        have hn2 : Hid (∀ x ∈ spZ.take 4, x ≠ a) := Lib.hid (fun x hx => by
          rw [show spZ.take 4 = spZ.take 3 ++ [62] from rfl] at hx
          rcases List.mem_append.1 hx with h | h
          · exact hno.out x h
          · rw [List.mem_singleton.1 h]; exact hc)
        clear hc hno
        go_wp2
        exact ⟨⟨4, by omega, rfl, hn2⟩, by simp [intOf]⟩
    · have hix : ∀ h, ((⟨#[40, 41, 60, 62, 91, 93, 58, 59, 92, 44, 34, 32, 9]⟩ : ByteArray)[4]'h : UInt8) = 91 := fun h => rfl
      by_cases hc : 91 = a
      · have hv := Lib.hid (spZ_hit 4 a (by rw [← hc]; rfl))
        have hc' : ((91 : Int) == a) = true := by rw [beq_iff_eq]; exact hc
        clear hc hno
        go_wp2
        go_ret
        exact ⟨by rw [hv.out]; rfl, rfl⟩
      · have hc' : ((91 : Int) == a) = false := by rw [beq_eq_false_iff_ne]; exact hc
        have hn2 : Hid (∀ x ∈ spZ.take 5, x ≠ a) := Lib.hid (fun x hx => by
          rw [show spZ.take 5 = spZ.take 4 ++ [91] from rfl] at hx
          rcases List.mem_append.1 hx with h | h
          · exact hno.out x h
          · rw [List.mem_singleton.1 h]; exact hc)
        clear hc hno
        go_wp2
        exact ⟨⟨5, by omega, rfl, hn2⟩, by simp [intOf]⟩
    · have hix : ∀ h, ((⟨#[40, 41, 60, 62, 91, 93, 58, 59, 92, 44, 34, 32, 9]⟩ : ByteArray)[5]'h : UInt8) = 93 := fun h => rfl
      by_cases hc : 93 = a
      · have hv := Lib.hid (spZ_hit 5 a (by rw [← hc]; rfl))
        have hc' : ((93 : Int) == a) = true := by rw [beq_iff_eq]; exact hc
        clear hc hno
        go_wp2
        go_ret
        exact ⟨by rw [hv.out]; rfl, rfl⟩
      · have hc' : ((93 : Int) == a) = false := by rw [beq_eq_false_iff_ne]; exact hc
        have hn2 : Hid (∀ x ∈ spZ.take 6, x ≠ a) := Lib.hid (fun x hx => by
          rw [show spZ.take 6 = spZ.take 5 ++ [93] from rfl] at hx
          rcases List.mem_append.1 hx with h | h
          · exact hno.out x h
          · rw [List.mem_singleton.1 h]; exact hc)
        clear hc hno
        go_wp2
        exact ⟨⟨6, by omega, rfl, hn2⟩, by simp [intOf]⟩
    · have hix : ∀ h, ((⟨#[40, 41, 60, 62, 91, 93, 58, 59, 92, 44, 34, 32, 9]⟩ : ByteArray)[6]'h : UInt8) = 58 := fun h => rfl
      by_cases hc : 58 = a
      · have hv := Lib.hid (spZ_hit 6 a (by rw [← hc]; rfl))
        have hc' : ((58 : Int) == a) = true := by rw [beq_iff_eq]; exact hc
        clear hc hno
        go_wp2
        go_ret
        exact ⟨by rw [hv.out]; rfl, rfl⟩
      · have hc' : ((58 : Int) == a) = false := by rw [beq_eq_false_iff_ne]; exact hc
        have hn2 : Hid (∀ x ∈ spZ.take 7, x ≠ a) := Lib.hid (fun x hx => by
          rw [show spZ.take 7 = spZ.take 6 ++ [58] from rfl] at hx
          rcases List.mem_append.1 hx with h | h
          · exact hno.out x h
          · rw [List.mem_singleton.1 h]; exact hc)
        clear hc hno
        go_wp2
        exact ⟨⟨7, by omega, rfl, hn2⟩, by simp [intOf]⟩
    · have hix : ∀ h, ((⟨#[40, 41, 60, 62, 91, 93, 58, 59, 92, 44, 34, 32, 9]⟩ : ByteArray)[7]'h : UInt8) = 59 := fun h => rfl
      by_cases hc : 59 = a
      · have hv := Lib.hid (spZ_hit 7 a (by rw [← hc]; rfl))
        have hc' : ((59 : Int) == a) = true := by rw [beq_iff_eq]; exact hc
        clear hc hno
        go_wp2
        go_ret
        exact ⟨by rw [hv.out]; rfl, rfl⟩
      · have hc' : ((59 : Int) == a) = false := by rw [beq_eq_false_iff_ne]; exact hc
        have hn2 : Hid (∀ x ∈ spZ.take 8, x ≠ a) := Lib.hid (fun x hx => by
          rw [show spZ.take 8 = spZ.take 7 ++ [59] from rfl] at hx
          rcases List.mem_append.1 hx with h | h
          · exact hno.out x h
          · rw [List.mem_singleton.1 h]; exact hc)
        clear hc hno
        go_wp2
        exact ⟨⟨8, by omega, rfl, hn2⟩, by simp [intOf]⟩
    · have hix : ∀ h, ((⟨#[40, 41, 60, 62, 91, 93, 58, 59, 92, 44, 34, 32, 9]⟩ : ByteArray)[8]'h : UInt8) = 92 := fun h => rfl
      by_cases hc : 92 = a
      · have hv := Lib.hid (spZ_hit 8 a (by rw [← hc]; rfl))
        have hc' : ((92 : Int) == a) = true := by rw [beq_iff_eq]; exact hc
        clear hc hno
        go_wp2
        go_ret
        exact ⟨by rw [hv.out]; rfl, rfl⟩
      · have hc' : ((92 : Int) == a) = false := by rw [beq_eq_false_iff_ne]; exact hc
        have hn2 : Hid (∀ x ∈ spZ.take 9, x ≠ a) := Lib.hid (fun x hx => by
          rw [show spZ.take 9 = spZ.take 8 ++ [92] from rfl] at hx
          rcases List.mem_append.1 hx with h | h
          · exact hno.out x h
          · rw [List.mem_singleton.1 h]; exact hc)
        clear hc hno
        go_wp2
        exact ⟨⟨9, by omega, rfl, hn2⟩, by simp [intOf]⟩
    · have hix : ∀ h, ((⟨#[40, 41, 60, 62, 91, 93, 58, 59, 92, 44, 34, 32, 9]⟩ : ByteArray)[9]'h : UInt8) = 44 := fun h => rfl
      by_cases hc : 44 = a
      · have hv := Lib.hid (spZ_hit 9 a (by rw [← hc]; rfl))
        have hc' : ((44 : Int) == a) = true := by rw [beq_iff_eq]; exact hc
        clear hc hno
        go_wp2
        go_ret
        exact ⟨by rw [hv.out]; rfl, rfl⟩
      · have hc' : ((44 : Int) == a) = false := by rw [beq_eq_false_iff_ne]; exact hc
        have hn2 : Hid (∀ x ∈ spZ.take 10, x ≠ a) := Lib.hid (fun x hx => by
          rw [show spZ.take 10 = spZ.take 9 ++ [44] from rfl] at hx
          rcases List.mem_append.1 hx with h | h
          · exact hno.out x h
          · rw [List.mem_singleton.1 h]; exact hc)
        clear hc hno
        go_wp2
        exact ⟨⟨10, by omega, rfl, hn2⟩, by simp [intOf]⟩
    · have hix : ∀ h, ((⟨#[40, 41, 60, 62, 91, 93, 58, 59, 92, 44, 34, 32, 9]⟩ : ByteArray)[10]'h : UInt8) = 34 := fun h => rfl
      by_cases hc : 34 = a
      · have hv := Lib.hid (spZ_hit 10 a (by rw [← hc]; rfl))
        have hc' : ((34 : Int) == a) = true := by rw [beq_iff_eq]; exact hc
        clear hc hno
        go_wp2
        go_ret
        exact ⟨by rw [hv.out]; rfl, rfl⟩
      · have hc' : ((34 : Int) == a) = false := by rw [beq_eq_false_iff_ne]; exact hc
        have hn2 : Hid (∀ x ∈ spZ.take 11, x ≠ a) := Lib.hid (fun x hx => by
          rw [show spZ.take 11 = spZ.take 10 ++ [34] from rfl] at hx
          rcases List.mem_append.1 hx with h | h
          · exact hno.out x h
          · rw [List.mem_singleton.1 h]; exact hc)
        clear hc hno
        go_wp2
        exact ⟨⟨11, by omega, rfl, hn2⟩, by simp [intOf]⟩
    · have hix : ∀ h, ((⟨#[40, 41, 60, 62, 91, 93, 58, 59, 92, 44, 34, 32, 9]⟩ : ByteArray)[11]'h : UInt8) = 32 := fun h => rfl
      by_cases hc : 32 = a
      · have hv := Lib.hid (spZ_hit 11 a (by rw [← hc]; rfl))
        have hc' : ((32 : Int) == a) = true := by rw [beq_iff_eq]; exact hc
        clear hc hno
        go_wp2
        go_ret
        exact ⟨by rw [hv.out]; rfl, rfl⟩
      · have hc' : ((32 : Int) == a) = false := by rw [beq_eq_false_iff_ne]; exact hc
        have hn2 : Hid (∀ x ∈ spZ.take 12, x ≠ a) := Lib.hid (fun x hx => by
          rw [show spZ.take 12 = spZ.take 11 ++ [32] from rfl] at hx
          rcases List.mem_append.1 hx with h | h
          · exact hno.out x h
          · rw [List.mem_singleton.1 h]; exact hc)
        clear hc hno
        go_wp2
        exact ⟨⟨12, by omega, rfl, hn2⟩, by simp [intOf]⟩
    · have hix : ∀ h, ((⟨#[40, 41, 60, 62, 91, 93, 58, 59, 92, 44, 34, 32, 9]⟩ : ByteArray)[12]'h : UInt8) = 9 := fun h => rfl
      by_cases hc : 9 = a
      · have hv := Lib.hid (spZ_hit 12 a (by rw [← hc]; rfl))
        have hc' : ((9 : Int) == a) = true := by rw [beq_iff_eq]; exact hc
        clear hc hno
        go_wp2
        go_ret
        exact ⟨by rw [hv.out]; rfl, rfl⟩
      · have hc' : ((9 : Int) == a) = false := by rw [beq_eq_false_iff_ne]; exact hc
        have hn2 : Hid (∀ x ∈ spZ.take 13, x ≠ a) := Lib.hid (fun x hx => by
          rw [show spZ.take 13 = spZ.take 12 ++ [9] from rfl] at hx
          rcases List.mem_append.1 hx with h | h
          · exact hno.out x h
          · rw [List.mem_singleton.1 h]; exact hc)
        clear hc hno
        go_wp2
        exact ⟨⟨13, by omega, rfl, hn2⟩, by simp [intOf]⟩
    · have hv := Lib.hid (show specB a = false by
        unfold specB
        rw [Bool.eq_false_iff]
        intro h
        exact hno.out a (List.contains_iff_mem.1 h) rfl)
      clear hno
      go_wp2
      go_ret
      exact ⟨by rw [hv.out]; rfl, rfl⟩
/-- In the print's form. -/
def spec_special.f (a0 : Int) : Option Bool := some (specB a0)
theorem spec_special.calls (a0 : Int) (r : Bool) (w : World) (h : spec_special.f a0 = some r) :
    Calls Tryz.prog 15 #[.int .u8 a0] w fun e w' => e = .returned (.bool r) ∧ Below w.heap.size w w' := by
  cases h
  refine (special_any a0 w).mono ?_
  rintro e w' ⟨rfl, rfl⟩
  exact ⟨rfl, Below.refl _ _⟩
end Go.Proofs.YtldiamldbpobgaaGreatDoor.Own
