/- impl.MailboxFits by hand, in the print's form. -/
import Derived.Test.YtnokeaiemiiicaaMatch2
namespace Go.Proofs.Ytnokeaiemiiicaa.Own
open Go.RowKit
set_option linter.unusedVariables false
set_option linter.unusedSimpArgs false

set_option maxHeartbeats 2000000 in
theorem MailboxFits_any (d : UInt8) (hd : d.toNat < 128) (name ref pat : ByteArray) (w : World) (hn : name.size ≤ 100) (hr : ref.size ≤ 90) (hp : pat.size ≤ 100) (an : Ascii name) (ap : Ascii pat) :
    Calls Try.prog 21 #[.string name, .string ⟨#[d]⟩, .string ref, .string pat] w (FitPost (fits d name ref pat) w) := by
  have k := Lib.hid (fun (t : TypeId) => (Match_any d hd w.heap.size name ref pat (w.alloc (.cells #[.slice none 0 0, .string ⟨#[d]⟩, .string name] t)) hn hr hp an ap (by simp [go_sem]) (by simp [go_sem])).mono (R' := FitPost (fits d name ref pat) w) (by
    rintro e w' ⟨rfl, h⟩
    have hb : Below w.heap.size w (w.alloc (.cells #[.slice none 0 0, .string ⟨#[d]⟩, .string name] t)) := (Below.refl _ _).alloc (Nat.le_refl _) _
    exact ⟨rfl, hb.trans (h.mono hb.size)⟩))
  obtain ⟨v, hv⟩ : ∃ v, v = fits d name ref pat := ⟨_, rfl⟩
  rw [← hv] at k ⊢
  clear hv
  go_enter Try.func21, Try.ntmps21
  go_wp2_with (go_at_call 34; refine (k.out _).mono ?_; rintro e w1 ⟨rfl, hb⟩)
  go_ret
  exact ⟨rfl, hb⟩

/-- In the print's form. -/
def impl_MailboxFits.f (a0 a1 a2 a3 : ByteArray) : Option Bool :=
  if (a1.size = 1 ∧ asciiB a1 = true) ∧ a0.size ≤ 100 ∧ a2.size ≤ 90 ∧ a3.size ≤ 100 ∧ asciiB a0 = true ∧ asciiB a3 = true then some (fits (a1.data.toList.headD 0) a0 a2 a3) else none
theorem one_of (a : ByteArray) (h : a.size = 1) : ∃ d, a = ⟨#[d]⟩ := by
  rw [size_list] at h
  obtain ⟨d, hd⟩ := List.length_eq_one_iff.1 h
  exact ⟨d, ba_ext hd⟩
theorem impl_MailboxFits.calls (a0 a1 a2 a3 : ByteArray) (r : Bool) (w : World) (h : impl_MailboxFits.f a0 a1 a2 a3 = some r) :
    Calls Try.prog 21 #[.string a0, .string a1, .string a2, .string a3] w fun e w' => e = .returned (.bool r) ∧ Below w.heap.size w w' := by
  unfold impl_MailboxFits.f at h
  split at h
  · rename_i hc
    obtain ⟨⟨h1, h2⟩, h3, h4, h5, h6, h7⟩ := hc
    cases h
    obtain ⟨d, rfl⟩ := one_of a1 h1
    have hd : d.toNat < 128 := ascii_of _ h2 0 (by show 0 < 1; omega)
    exact MailboxFits_any d hd a0 a2 a3 w h3 h4 h5 (ascii_of _ h6) (ascii_of _ h7)
  · cases h
end Go.Proofs.Ytnokeaiemiiicaa.Own
