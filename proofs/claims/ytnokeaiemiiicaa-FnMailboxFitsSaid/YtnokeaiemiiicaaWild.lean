/- Patterns of mailboxes over lists of bytes: * stands for anything, % for anything without the delimiter. Plain lists, no program. -/
import Derived.Test.YtnokeaiemiiicaaPlain
namespace Go.Proofs.Ytnokeaiemiiicaa.Own
open Go.RowKit
set_option linter.unusedVariables false
set_option linter.unusedSimpArgs false

def star (f : List UInt8 → Bool) (stop : UInt8 → Bool) : List UInt8 → Bool
  | [] => f []
  | x :: s => f (x :: s) || (!stop x && star f stop s)
def lit (c : UInt8) (f : List UInt8 → Bool) : List UInt8 → Bool
  | [] => false
  | x :: s => x == c && f s
def wild (d : UInt8) : List UInt8 → List UInt8 → Bool
  | [], s => s.isEmpty
  | c :: p, s => if c = 42 then star (wild d p) (fun _ => false) s else if c = 37 then star (wild d p) (fun x => x == d) s else lit c (wild d p) s
def noWild (l : List UInt8) : Prop := ∀ c ∈ l, c ≠ 42 ∧ c ≠ 37

theorem wild_chunk (d : UInt8) (ch : List UInt8) (h : noWild ch) (q : List UInt8) : ∀ s, wild d (ch ++ q) s = (Lib.hasPrefix s ch && wild d q (s.drop ch.length)) := by
  induction ch with
  | nil => intro s; simp [Lib.hasPrefix]
  | cons c ch ih =>
    intro s
    obtain ⟨h1, h2⟩ := h c (by simp)
    rw [List.cons_append, wild, if_neg h1, if_neg h2]
    cases s with
    | nil => simp [lit, Lib.hasPrefix]
    | cons x s =>
      simp only [lit]
      rw [ih (fun y hy => h y (by simp [hy]))]
      simp only [ Lib.hasPrefix, List.isPrefixOf_cons_cons, List.length_cons, List.drop_succ_cons]
      have : (x == c) = (c == x) := by
        cases h : (x == c) with
        | true => exact ((beq_iff_eq.1 h) ▸ (beq_self_eq_true x).symm)
        | false =>
          symm
          rw [beq_eq_false_iff_ne] at h ⊢
          exact fun e => h e.symm
      rw [this, Bool.and_assoc]
theorem wild_none (d : UInt8) (ch : List UInt8) (h : noWild ch) (s : List UInt8) : wild d ch s = (s == ch) := by
  have := wild_chunk d ch h [] s
  rw [List.append_nil] at this
  rw [this, wild]
  rw [Bool.eq_iff_iff]
  simp only [Lib.hasPrefix, Bool.and_eq_true, List.isPrefixOf_iff_prefix, List.isEmpty_iff, beq_iff_eq]
  constructor
  · rintro ⟨⟨t, rfl⟩, h2⟩
    simpa using h2
  · rintro rfl
    simp
theorem drop_cons {l : List UInt8} {k : Nat} {x : UInt8} (h : l[k]? = some x) : l.drop k = x :: l.drop (k + 1) := by
  have hk : k < l.length := by
    rcases Nat.lt_or_ge k l.length with h' | h'
    · exact h'
    · rw [List.getElem?_eq_none h'] at h; cases h
  rw [List.drop_eq_getElem_cons hk]
  rw [List.getElem?_eq_getElem hk] at h
  cases h; rfl
end Go.Proofs.Ytnokeaiemiiicaa.Own
