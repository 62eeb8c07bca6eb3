/- xtext written, plainly: what the code writes for a text whose bytes are all in 16..127, and that reading it gives the text again. -/
import Derived.Test.YtoeggcckcnlllaaDoorXtRep
namespace Go.Proofs.YtoeggcckcnlllaaDoor.Own
open Go.RowKit Go.Proofs.YtoeggcckcnlllaaDoorW.PrintWords Go.Proofs.YtoeggcckcnlllaaDoorW.PrintLast
set_option linter.unusedVariables false
set_option linter.unusedSimpArgs false

def plX (c : UInt8) : Bool := decide (33 ≤ c.toNat ∧ c.toNat ≤ 126 ∧ c.toNat ≠ 43 ∧ c.toNat ≠ 61)
def hexU (n : Nat) : UInt8 := if n < 10 then UInt8.ofNat (48 + n) else UInt8.ofNat (55 + n)
def xt1 (c : UInt8) : List UInt8 := if plX c = true then [c] else [43, hexU (c.toNat / 16), hexU (c.toNat % 16)]
def xtL (l : List UInt8) : List UInt8 := l.flatMap xt1
def SureL (l : List UInt8) : Prop := ∀ c ∈ l, 16 ≤ c.toNat ∧ c.toNat < 128
instance (l : List UInt8) : Decidable (SureL l) := by unfold SureL; infer_instance
theorem hexU_hex : ∀ n : Nat, n < 16 → hexB (hexU n) = true ∧ hv (hexU n) = n := by decide +kernel
theorem dx_pair (x y : UInt8) (n : Nat) (t : List UInt8) (hx : hexB x = true) (hy : hexB y = true) (hlt : hv x * 16 + hv y < 128) : dx (n + 1) (43 :: x :: y :: t) = (UInt8.ofNat (hv x * 16 + hv y) :: (dx n t).1, (dx n t).2) := by
  have h2 : hexCnt (x :: y :: t) = 2 := by simp [hexCnt, hx, hy]
  rw [dx_cons, if_pos rfl, if_pos h2]
  simp only [List.getD_cons_zero, List.getD_cons_succ, List.drop_succ_cons, List.drop_zero]
  rw [if_pos hlt]
theorem dx_xt : ∀ (l : List UInt8) (n : Nat), SureL l → (xtL l).length ≤ n → dx n (xtL l) = (l, false)
  | [], n, _, _ => by cases n <;> rfl
  | c :: t, n, hs, hn => by
    have hc := hs c (by simp)
    have ht : SureL t := fun x hx => hs x (by simp [hx])
    have hcat : xtL (c :: t) = xt1 c ++ xtL t := by simp [xtL]
    rw [hcat] at hn ⊢
    unfold xt1 at hn ⊢
    by_cases hp : plX c = true
    · rw [if_pos hp] at hn ⊢
      obtain ⟨m, rfl⟩ : ∃ m, n = m + 1 := ⟨n - 1, by simp at hn; omega⟩
      have ih := dx_xt t m ht (by simp at hn; omega)
      have h43 : ¬ c = 43 := fun e => by subst e; revert hp; decide
      show dx (m + 1) (c :: xtL t) = _
      rw [dx_cons, if_neg h43, ih]
    · rw [if_neg hp] at hn ⊢
      obtain ⟨m, rfl⟩ : ∃ m, n = m + 1 := ⟨n - 1, by simp at hn; omega⟩
      have ih := dx_xt t m ht (by simp at hn; omega)
      obtain ⟨a1, a2⟩ := hexU_hex (c.toNat / 16) (by omega)
      obtain ⟨b1, b2⟩ := hexU_hex (c.toNat % 16) (by omega)
      show dx (m + 1) (43 :: hexU (c.toNat / 16) :: hexU (c.toNat % 16) :: xtL t) = _
      rw [dx_pair _ _ m _ a1 b1 (by rw [a2, b2]; omega), a2, b2, ih]
      have : c.toNat / 16 * 16 + c.toNat % 16 = c.toNat := by omega
      rw [this]
      simp
theorem xt1_len (c : UInt8) : 1 ≤ (xt1 c).length ∧ (xt1 c).length ≤ 3 := by unfold xt1; split <;> simp
theorem xtL_len (l : List UInt8) : (xtL l).length ≤ 3 * l.length := by
  induction l with
  | nil => simp [xtL]
  | cons c t ih =>
    have := (xt1_len c).2
    simp only [xtL, List.flatMap_cons, List.length_append, List.length_cons] at ih ⊢
    omega
end Go.Proofs.YtoeggcckcnlllaaDoor.Own
