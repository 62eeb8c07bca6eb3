/- FnSeqOne holds at every four numbers and a fifth, plainly: what the merging, the set of two ranges and the texts tell agree. No condition beyond the numbers' kind. -/
import Derived.Test.YtnokeaiemiiicaaDoorPFnSeqOnex7
import Derived.Test.YtnokeaiemiiicaaDoorSet9P
import Derived.OpenShut
namespace Go.Proofs.YtnokeaiemiiicaaDoor.Pure
open Go.RowKit Go.Proofs.YtnokeaiemiiicaaDoor.PFnSeqOne Go.Proofs.YtnokeaiemiiicaaDoorW.PrintWords Go.Proofs.YtnokeaiemiiicaaDoorW.PrintLast Go.Proofs.YtnokeaiemiiicaaDoor.Sets Go.Proofs.YtnokeaiemiiicaaDoor.Own
set_option linter.unusedVariables false
set_option linter.unusedSimpArgs false

theorem u32_of {a : Int} (h : (Lit.int .u32 a).wf = true) : 0 ≤ a ∧ a < 4294967296 := by
  have := Go.bounds_u32 h
  omega
theorem range9_tells (a b : Nat) : spec_Range9.f (a : Int) (b : Int) = some (((rng a b).1 : Int), ((rng a b).2 : Int)) := by
  unfold spec_Range9.f rng
  by_cases h1 : a = 0
  · rw [if_pos (by omega), if_pos (.inl h1)]
  · rw [if_neg (by omega)]
    by_cases h2 : b = 0
    · rw [if_pos (by omega), if_neg (by omega)]
    · rw [if_neg (by omega)]
      by_cases h3 : b < a
      · rw [if_pos (by omega), if_pos (.inr ⟨h2, h3⟩)]
      · rw [if_neg (by omega), if_neg (by omega)]
theorem j2_tells (k : Nat) (x5 : Bool) (v : Bool) (u s t : Rg) (hu : u.2 < 4294967296) : goimap_Seq_Merge.j2 (k + 1) x5 v (u.1 : Int) (u.2 : Int) (t.1 : Int) (t.2 : Int) (s.1 : Int) (s.2 : Int) =
    some (if v = true then ((u.1 : Int), (u.2 : Int), true) else if u.2 + 1 ≥ t.1 ∨ u.2 = 4294967295 then ((u.1 : Int), (t.2 : Int), true) else ((s.1 : Int), (s.2 : Int), x5)) := by
  simp only [goimap_Seq_Merge.j2]
  by_cases hv : v = true
  · rw [if_pos hv, if_pos hv]
  · rw [if_neg hv, if_neg hv]
    by_cases h1 : u.2 = 4294967295
    · rw [if_pos (Or.inr h1)]
      by_cases h2 : ((u.2 : Int) + 1) % 4294967296 ≥ (t.1 : Int)
      · rw [if_pos h2]
      · rw [if_neg h2, if_pos (by omega)]
    · have e : ((u.2 : Int) + 1) % 4294967296 = (u.2 : Int) + 1 := by omega
      rw [e]
      by_cases h2 : u.2 + 1 ≥ t.1
      · rw [if_pos (Or.inl h2), if_pos (by omega)]
      · rw [if_neg (by omega), if_neg (by omega), if_neg (by omega)]
theorem j1_tells (k : Nat) (u s t : Rg) (hu : u.2 < 4294967296) (ht : Okr t) : goimap_Seq_Merge.j1 (k + 1 + 1) false (u.1 : Int) (u.2 : Int) (t.1 : Int) (t.2 : Int) (s.1 : Int) (s.2 : Int) =
    some (if (u.2 ≥ t.2 ∧ t.2 ≠ 0) ∨ u.2 = 0 then ((u.1 : Int), (u.2 : Int), true) else if u.2 + 1 ≥ t.1 then ((u.1 : Int), (t.2 : Int), true) else ((s.1 : Int), (s.2 : Int), false)) := by
  have hz : (((u.2 : Nat) : Int) == 0) = decide (u.2 = 0) := by rw [Bool.eq_iff_iff]; simp
  have ht1 := ht.1
  simp only [goimap_Seq_Merge.j1]
  by_cases h1 : u.2 ≥ t.2
  · rw [if_pos (by omega : (u.2 : Int) ≥ (t.2 : Int))]
    by_cases h2 : t.2 = 0
    · rw [if_pos (by omega : (t.2 : Int) = 0), hz, j2_tells k _ _ u s t hu]
      simp only [decide_eq_true_eq]
      congr 1
      repeat' split
      all_goals first | rfl | (exfalso; omega)
    · rw [if_neg (by omega : ¬ (t.2 : Int) = 0), j2_tells k _ _ u s t hu]
      simp only [if_true]
      congr 1
      repeat' split
      all_goals first | rfl | (exfalso; omega)
  · rw [if_neg (by omega : ¬ (u.2 : Int) ≥ (t.2 : Int)), hz, j2_tells k _ _ u s t hu]
    simp only [decide_eq_true_eq]
    congr 1
    repeat' split
    all_goals first | rfl | (exfalso; omega)
theorem merge_tells {s t : Rg} (hs : Okr s) (ht : Okr t) (k : Nat) : goimap_Seq_Merge.f (k + 1 + 1 + 1) (s.1 : Int) (s.2 : Int) (t.1 : Int) (t.2 : Int) =
    some ((((goMerge s t).1.1 : Nat) : Int), (((goMerge s t).1.2 : Nat) : Int), (goMerge s t).2) := by
  unfold goimap_Seq_Merge.f goMerge
  by_cases he : s = t
  · subst he
    rw [if_pos (by simp), if_pos rfl]
  · rw [if_neg he, if_neg (by
      intro h
      simp at h
      exact he (Prod.ext (by omega) (by omega)))]
    by_cases h1 : s.1 = 0
    · rw [if_pos (by omega), if_neg (by omega), if_pos h1]
      simp only [goimap_Seq_Merge.j0]
      rw [if_neg (by decide), if_pos (by omega)]
      by_cases h2 : t.2 = 0
      · rw [if_pos (by omega), if_pos h2]
      · rw [if_neg (by omega), if_neg h2]
    · rw [if_neg (by omega)]
      by_cases h2 : t.1 = 0
      · rw [if_neg (by omega), if_neg h1, show (((t.1 : Nat) : Int) != 0) = false by simp [h2]]
        simp only [goimap_Seq_Merge.j0]
        rw [if_neg (by decide), if_neg (by omega)]
        by_cases h3 : s.2 = 0
        · rw [if_pos (by omega), if_pos h3]
        · rw [if_neg (by omega), if_neg h3]
      · rw [if_pos ⟨h1, h2⟩, show (((t.1 : Nat) : Int) != 0) = true by simp [h2]]
        simp only [goimap_Seq_Merge.j0, if_true]
        by_cases h3 : s.1 > t.1
        · rw [if_pos (by omega), j1_tells k t s s ht.2.1 hs]
          simp only [if_pos h3]
          repeat' split
          all_goals first | rfl | (exfalso; omega)
        · rw [if_neg (by omega), j1_tells k s s t hs.2.1 ht]
          simp only [if_neg h3]
          repeat' split
          all_goals first | rfl | (exfalso; omega)
theorem merged_tells {s t : Rg} (hs : Okr s) (ht : Okr t) (k : Nat) : impl_SeqMerged.f (k + 1 + 1 + 1) (s.1 : Int) (s.2 : Int) (t.1 : Int) (t.2 : Int) =
    some ((((goMerge s t).1.1 : Nat) : Int), (((goMerge s t).1.2 : Nat) : Int), (goMerge s t).2) := by
  unfold impl_SeqMerged.f
  rw [merge_tells hs ht]
  rfl
theorem in_within (a b q : Int) : impl_SeqIn.f a b q = spec_Within9.f a b q ∧ ∃ r, spec_Within9.f a b q = some r := by
  have h : goimap_Seq_Contains.f a b q = spec_Within9.f a b q := by unfold goimap_Seq_Contains.f spec_Within9.f; rfl
  refine ⟨?_, ?_⟩
  · unfold impl_SeqIn.f
    rw [h]
    cases spec_Within9.f a b q <;> rfl
  · unfold spec_Within9.f
    repeat' split
    all_goals exact ⟨_, rfl⟩
theorem texts_same {x : Rg} (hx : Okr x) : seqL x.1 x.2 = text9L x.1 x.2 := by
  have h3 := hx.2.2
  unfold seqL text9L oneL
  by_cases h1 : x.1 = x.2
  · rw [if_pos h1, if_pos h1]
  · rw [if_neg h1, if_neg h1]
    have h0 : x.1 ≠ 0 := by
      intro e
      have h4 := hx.2.1
      unfold lo hi at h3
      rw [if_pos e] at h3
      split at h3 <;> omega
    rw [if_neg h0]
    by_cases h2 : x.2 = 0
    · rw [if_pos h2, if_pos h2]
    · rw [if_neg h2, if_neg h2]
theorem j1_law (k : Nat) {x : Rg} (hx : Okr x) (q : Int) (less : Bool) (hl : less = decide ((x.2 : Int) ≠ 0 ∧ (q = 0 ∨ (x.2 : Int) < q))) : laws_FnSeqOne.j1 (k + 1) q less false (x.1 : Int) (x.2 : Int) = some true := by
  simp only [laws_FnSeqOne.j1]
  rw [if_neg (by decide)]
  obtain ⟨e1, r, e2⟩ := in_within (x.1 : Int) (x.2 : Int) q
  rw [e1, e2]
  simp only [Option.bind_some, beq_self_eq_true, if_true]
  have e3 : impl_SeqLess.f (x.1 : Int) (x.2 : Int) q = some less := by
    unfold impl_SeqLess.f goimap_Seq_Less.f
    rw [hl]
    by_cases h1 : (x.2 : Int) < q
    · rw [if_pos h1]
      simp only [Option.bind_some]
      congr 1
      rw [Bool.eq_iff_iff]; simp [h1]
    · rw [if_neg h1]
      by_cases h2 : q = 0
      · rw [if_pos h2]
        simp only [Option.bind_some]
        congr 1
        rw [Bool.eq_iff_iff]; simp [h2]
      · rw [if_neg h2]
        simp only [Option.bind_some]
        congr 1
        rw [Bool.eq_iff_iff]; simp [h1, h2]
  rw [e3]
  simp only [Option.bind_some, beq_self_eq_true, if_true]
  have hs : small32 (x.1 : Int) (x.2 : Int) := ⟨by omega, by have := hx.1; omega, by omega, by have := hx.2.1; omega⟩
  unfold Own.impl_SeqText.f Own.spec_SeqText9.f
  rw [if_pos hs, if_pos hs]
  simp only [Option.bind_some, Int.toNat_natCast, texts_same hx, beq_self_eq_true]
theorem j0_law {x y : Rg} (hx : Okr x) (hy : Okr y) (q : Int) (less : Bool) (hl : less = decide ((x.2 : Int) ≠ 0 ∧ (q = 0 ∨ (x.2 : Int) < q))) : ∃ k, laws_FnSeqOne.j0 k q less (x.1 : Int) (x.2 : Int) (y.1 : Int) (y.2 : Int) = some true := by
  obtain ⟨k0, hk0⟩ := set9_tells [x, y] (by simp) (by intro z hz; simp at hz; rcases hz with rfl | rfl; exact ⟨hx.1, hx.2.1⟩; exact ⟨hy.1, hy.2.1⟩)
  have hk : spec_Set9.f (k0 + 1 + 1 + 1) ([(⟨(x.1 : Int), (x.2 : Int)⟩ : S24), (⟨(y.1 : Int), (y.2 : Int)⟩ : S24)] : List S24) = some ((set9 [x, y]).map enc) := at_rounds (spec_Set9.mono _) (by omega) hk0
  refine ⟨k0 + 1 + 1 + 1 + 1, ?_⟩
  simp only [laws_FnSeqOne.j0]
  rw [hk]
  simp only [Option.bind_some]
  rw [merged_tells hx hy]
  simp only [Option.bind_some]
  rw [goMerge_eq hx hy]
  by_cases ht : touch x y = true
  · rw [if_pos ht, two_one hx hy ht]
    simp only [List.map_cons, List.map_nil, List.length_cons, List.length_nil]
    rw [if_neg (by decide), if_pos trivial, if_pos (by decide), if_neg (by
      simp [rd_T24, enc])]
    exact j1_law _ hx q less hl
  · rw [if_neg ht]
    simp only [List.length_map, two_two hx hy (by simpa using ht)]
    rw [if_neg (by decide), if_neg (by decide)]
    simp only [beq_self_eq_true, Bool.not_true, Bool.or_self]
    exact j1_law _ hx q less hl
theorem FnSeqOne : laws_FnSeqOne.Pure := by
  intro a b c d q wa wb wc wd wq
  obtain ⟨a0, a1⟩ := u32_of wa
  obtain ⟨b0, b1⟩ := u32_of wb
  obtain ⟨c0, c1⟩ := u32_of wc
  obtain ⟨d0, d1⟩ := u32_of wd
  obtain ⟨q0, q1⟩ := u32_of wq
  obtain ⟨a, rfl⟩ := Int.eq_ofNat_of_zero_le a0
  obtain ⟨b, rfl⟩ := Int.eq_ofNat_of_zero_le b0
  obtain ⟨c, rfl⟩ := Int.eq_ofNat_of_zero_le c0
  obtain ⟨d, rfl⟩ := Int.eq_ofNat_of_zero_le d0
  have hx : Okr (rng a b) := rng_okr (by omega) (by omega)
  have hy : Okr (rng c d) := rng_okr (by omega) (by omega)
  unfold laws_FnSeqOne.f
  simp only [range9_tells, Option.bind_some]
  by_cases h1 : (((rng a b).2 : Nat) : Int) = 0
  · simp only [if_pos h1]
    exact j0_law hx hy q false (by symm; rw [decide_eq_false_iff_not]; exact fun h => h.1 h1)
  · simp only [if_neg h1]
    by_cases h2 : q = 0
    · simp only [if_pos h2]
      exact j0_law hx hy q true (by symm; rw [decide_eq_true_iff]; exact ⟨h1, .inl h2⟩)
    · simp only [if_neg h2]
      exact j0_law hx hy q _ (by rw [Bool.eq_iff_iff]; simp only [decide_eq_true_eq]; exact ⟨fun h => ⟨h1, .inr h⟩, fun h => h.2.resolve_left h2⟩)
end Go.Proofs.YtnokeaiemiiicaaDoor.Pure
