/- Two ranges as one, plainly; and what a list of two ranges is kept as. -/
import Derived.Test.YtnokeaiemiiicaaDoorSets
namespace Go.Proofs.YtnokeaiemiiicaaDoor.Sets
set_option linter.unusedVariables false
set_option linter.unusedSimpArgs false

def touch (x y : Rg) : Bool := decide (lo y ≤ hi x + 1 ∧ lo x ≤ hi y + 1)
def mrg (x y : Rg) : Rg := (if lo x ≤ lo y then x.1 else y.1, if hi x ≤ hi y then y.2 else x.2)
theorem lo_mrg (x y : Rg) (hx : Okr x) (hy : Okr y) : lo (mrg x y) = min (lo x) (lo y) := by
  unfold mrg
  by_cases h : lo x ≤ lo y
  · rw [if_pos h, Nat.min_eq_left h]; unfold lo; rfl
  · rw [if_neg h, Nat.min_eq_right (by omega)]; unfold lo; rfl
theorem hi_mrg (x y : Rg) (hx : Okr x) (hy : Okr y) : hi (mrg x y) = max (hi x) (hi y) := by
  unfold mrg
  by_cases h : hi x ≤ hi y
  · rw [if_pos h, Nat.max_eq_right h]; unfold hi; rfl
  · rw [if_neg h, Nat.max_eq_left (by omega)]; unfold hi; rfl
theorem mrg_okr {x y : Rg} (hx : Okr x) (hy : Okr y) : Okr (mrg x y) := by
  refine ⟨?_, ?_, ?_⟩
  · unfold mrg; simp only; split; exact hx.1; exact hy.1
  · unfold mrg; simp only; split; exact hy.2.1; exact hx.2.1
  · rw [lo_mrg x y hx hy, hi_mrg x y hx hy]; have := hx.2.2; have := hy.2.2; omega
theorem mrg_has {x y : Rg} (hx : Okr x) (hy : Okr y) (ht : touch x y = true) (p : Nat) : has (mrg x y) p ↔ has x p ∨ has y p := by
  have ht := of_decide_eq_true ht
  unfold has
  rw [lo_mrg x y hx hy, hi_mrg x y hx hy]
  have := hx.2.2
  have := hy.2.2
  constructor
  · rintro ⟨h1, h2⟩
    by_cases a : lo x ≤ p ∧ p ≤ hi x
    · exact .inl a
    · exact .inr ⟨by omega, by omega⟩
  · rintro (⟨h1, h2⟩ | ⟨h1, h2⟩) <;> exact ⟨by omega, by omega⟩
theorem canon_one {x : Rg} (hx : Okr x) : Canon [x] := ⟨by simpa using hx, List.pairwise_singleton _ _⟩
theorem two_one {x y : Rg} (hx : Okr x) (hy : Okr y) (ht : touch x y = true) : set9 [x, y] = [mrg x y] := by
  obtain ⟨h1, h2⟩ := set9_ok [x, y] (by simp [hx, hy])
  refine canon_unique h1 (canon_one (mrg_okr hx hy)) fun p => ?_
  rw [h2, inn_one, mrg_has hx hy ht, inn_cons, inn_one]
theorem two_two {x y : Rg} (hx : Okr x) (hy : Okr y) (ht : touch x y = false) : (set9 [x, y]).length = 2 := by
  obtain ⟨h1, h2⟩ := set9_ok [x, y] (by simp [hx, hy])
  have ht := of_decide_eq_false ht
  have k1 := hx.2.2
  have k2 := hy.2.2
  by_cases c : hi x + 1 < lo y
  · rw [canon_unique h1 (m := [x, y]) ⟨by simp [hx, hy], by simp [c]⟩ h2]; rfl
  · rw [canon_unique h1 (m := [y, x]) ⟨by simp [hx, hy], by simp; omega⟩ (fun p => by rw [h2, inn_cons, inn_one, inn_cons, inn_one, or_comm])]; rfl
/-- Two numbers in order, as the reference orders them. -/
def rng (a b : Nat) : Rg := if a = 0 ∨ (b ≠ 0 ∧ b < a) then (b, a) else (a, b)
theorem rng_okr {a b : Nat} (ha : a < 4294967296) (hb : b < 4294967296) : Okr (rng a b) := by
  unfold rng
  split
  · refine ⟨hb, ha, ?_⟩
    unfold lo hi; simp only; split <;> split <;> omega
  · refine ⟨ha, hb, ?_⟩
    unfold lo hi; simp only; split <;> split <;> omega
/-- Merging as the code goes about it. -/
def goMerge (s t : Rg) : Rg × Bool :=
  if s = t then (s, true)
  else if s.1 ≠ 0 ∧ t.1 ≠ 0 then
    let u := if s.1 > t.1 then t else s
    let v := if s.1 > t.1 then s else t
    if (u.2 ≥ v.2 ∧ v.2 ≠ 0) ∨ u.2 = 0 then (u, true)
    else if u.2 + 1 ≥ v.1 then ((u.1, v.2), true)
    else (s, false)
  else if s.1 = 0 then (if t.2 = 0 then (t, true) else (s, false))
  else if s.2 = 0 then (s, true) else (s, false)
theorem goMerge_eq {s t : Rg} (hs : Okr s) (ht : Okr t) : goMerge s t = if touch s t = true then (mrg s t, true) else (s, false) := by
  obtain ⟨a, b⟩ := s
  obtain ⟨c, d⟩ := t
  obtain ⟨a1, b1, h1⟩ := hs
  obtain ⟨c1, d1, h2⟩ := ht
  have e1 : (a = 0 ∧ lo (a, b) = 4294967297) ∨ (a ≠ 0 ∧ lo (a, b) = a) := by unfold lo; simp only; split <;> omega
  have e2 : (b = 0 ∧ hi (a, b) = 4294967297) ∨ (b ≠ 0 ∧ hi (a, b) = b) := by unfold hi; simp only; split <;> omega
  have e3 : (c = 0 ∧ lo (c, d) = 4294967297) ∨ (c ≠ 0 ∧ lo (c, d) = c) := by unfold lo; simp only; split <;> omega
  have e4 : (d = 0 ∧ hi (c, d) = 4294967297) ∨ (d ≠ 0 ∧ hi (c, d) = d) := by unfold hi; simp only; split <;> omega
  unfold goMerge touch mrg
  simp only [Prod.mk.injEq, decide_eq_true_eq] at *
  generalize lo (a, b) = A at *
  generalize hi (a, b) = B at *
  generalize lo (c, d) = C at *
  generalize hi (c, d) = D at *
  by_cases k1 : a = c ∧ b = d
  · obtain ⟨rfl, rfl⟩ := k1
    rw [if_pos ⟨rfl, rfl⟩, if_pos (by omega)]
    refine Prod.ext (Prod.ext ?_ ?_) rfl <;> simp
  rw [if_neg k1]
  by_cases k2 : a ≠ 0 ∧ c ≠ 0
  · rw [if_pos k2]
    by_cases k3 : a > c
    · simp only [if_pos k3]
      by_cases k4 : (d ≥ b ∧ b ≠ 0) ∨ d = 0
      · rw [if_pos k4, if_pos (by omega)]
        refine Prod.ext (Prod.ext ?_ ?_) rfl <;> simp only <;> split <;> omega
      · rw [if_neg k4]
        by_cases k5 : d + 1 ≥ a
        · rw [if_pos k5, if_pos (by omega)]
          refine Prod.ext (Prod.ext ?_ ?_) rfl <;> simp only <;> split <;> omega
        · rw [if_neg k5, if_neg (by omega)]
    · simp only [if_neg k3]
      by_cases k4 : (b ≥ d ∧ d ≠ 0) ∨ b = 0
      · rw [if_pos k4, if_pos (by omega)]
        refine Prod.ext (Prod.ext ?_ ?_) rfl <;> simp only <;> split <;> omega
      · rw [if_neg k4]
        by_cases k5 : b + 1 ≥ c
        · rw [if_pos k5, if_pos (by omega)]
          refine Prod.ext (Prod.ext ?_ ?_) rfl <;> simp only <;> split <;> omega
        · rw [if_neg k5, if_neg (by omega)]
  · rw [if_neg k2]
    by_cases k3 : a = 0
    · rw [if_pos k3]
      by_cases k4 : d = 0
      · rw [if_pos k4, if_pos (by omega)]
        refine Prod.ext (Prod.ext ?_ ?_) rfl <;> simp only <;> split <;> omega
      · rw [if_neg k4, if_neg (by omega)]
    · rw [if_neg k3]
      by_cases k4 : b = 0
      · rw [if_pos k4, if_pos (by omega)]
        refine Prod.ext (Prod.ext ?_ ?_) rfl <;> simp only <;> split <;> omega
      · rw [if_neg k4, if_neg (by omega)]
end Go.Proofs.YtnokeaiemiiicaaDoor.Sets
