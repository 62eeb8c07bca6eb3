/- The callees of FnCanonical in the print's form. -/
import Derived.Test.YtnokeaiemiiicaaDoorFlag9
namespace Go.Proofs.YtnokeaiemiiicaaDoor.Own
open Go.RowKit Go.Lib
set_option linter.unusedVariables false

def ascB (s : ByteArray) : Bool := decide (s.size ≤ 1000000) && s.data.toList.all fun b => decide (b.toNat < 128)
theorem ascB_size {s : ByteArray} (h : ascB s = true) : s.size ≤ 1000000 := by
  unfold ascB at h
  rw [Bool.and_eq_true] at h
  exact of_decide_eq_true h.1
theorem ascB_asc {s : ByteArray} (h : ascB s = true) : Asc s.data.toList := by
  unfold ascB at h
  rw [Bool.and_eq_true] at h
  exact asc_of _ h.2
def impl_FlagOf.f (s : ByteArray) : Option ByteArray := if ascB s = true then some (canonL flagsL s) else none
def spec_Flag9.f (s : ByteArray) : Option ByteArray := if ascB s = true then some (flag9L knownL s) else none
def impl_MailboxOf.f (s : ByteArray) : Option ByteArray := if ascB s = true then some (boxL s) else none
theorem impl_FlagOf.calls (a0 : ByteArray) (r : ByteArray) (w : World) (h : impl_FlagOf.f a0 = some r) (henv : EnvC w) :
    Calls Tryd.prog 19 #[.string a0] w fun e w' => e = .returned (.string r) ∧ Below w.heap.size w w' := by
  unfold impl_FlagOf.f at h
  by_cases hs : ascB a0 = true
  · rw [if_pos hs] at h
    obtain rfl := Option.some.inj h
    exact flagOf_any a0 w (ascB_size hs) (ascB_asc hs) henv
  · rw [if_neg hs] at h; cases h
theorem spec_Flag9.calls (a0 : ByteArray) (r : ByteArray) (w : World) (h : spec_Flag9.f a0 = some r) :
    Calls Tryd.prog 20 #[.string a0] w fun e w' => e = .returned (.string r) ∧ Below w.heap.size w w' := by
  unfold spec_Flag9.f at h
  by_cases hs : ascB a0 = true
  · rw [if_pos hs] at h
    obtain rfl := Option.some.inj h
    exact flag9_any a0 w (ascB_size hs)
  · rw [if_neg hs] at h; cases h
theorem impl_MailboxOf.calls (a0 : ByteArray) (r : ByteArray) (w : World) (h : impl_MailboxOf.f a0 = some r) :
    Calls Tryd.prog 21 #[.string a0] w fun e w' => e = .returned (.string r) ∧ Below w.heap.size w w' := by
  unfold impl_MailboxOf.f at h
  by_cases hs : ascB a0 = true
  · rw [if_pos hs] at h
    obtain rfl := Option.some.inj h
    exact (boxOf_any a0 w (ascB_size hs) (ascB_asc hs)).mono fun e w' ⟨he, hw⟩ => by subst hw; exact ⟨he, Below.refl _ _⟩
  · rw [if_neg hs] at h; cases h
end Go.Proofs.YtnokeaiemiiicaaDoor.Own
