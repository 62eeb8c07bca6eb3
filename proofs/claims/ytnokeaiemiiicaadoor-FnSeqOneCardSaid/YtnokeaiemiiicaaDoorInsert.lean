/- A range put into a list of ranges in order: what comes of it, plainly. -/
import Derived.Test.YtnokeaiemiiicaaDoorMerge
namespace Go.Proofs.YtnokeaiemiiicaaDoor.Sets
set_option linter.unusedVariables false
set_option linter.unusedSimpArgs false

/-- Whether a range stands ahead of a number and has it not (0: behind all). -/
def lessB (x : Rg) (q : Nat) : Bool := decide ((x.2 < q ∨ q = 0) ∧ x.2 ≠ 0)
theorem lessB_iff {x : Rg} (hx : x.2 < 4294967296) (q : Nat) (hq : q < 4294967296) : lessB x q = true ↔ hi x < (if q = 0 then 4294967297 else q) := by
  unfold lessB hi
  rw [decide_eq_true_eq]
  split <;> split <;> omega
/-- How many stand ahead of a number. -/
def idx (l : List Rg) (q : Nat) : Nat := (l.takeWhile fun x => lessB x q).length
/-- A range that takes in what touches it of those behind. -/
def sw : Rg → List Rg → Rg × List Rg
  | x, [] => (x, [])
  | x, y :: l => if touch x y = true then sw (mrg x y) l else (x, y :: l)
theorem sw_ok : ∀ (q : List Rg) (x : Rg), Okr x → Canon q → (∀ y ∈ q, lo x ≤ lo y) →
    Canon ((sw x q).1 :: (sw x q).2) ∧ lo (sw x q).1 = lo x ∧ ∀ p, inn ((sw x q).1 :: (sw x q).2) p ↔ has x p ∨ inn q p
  | [], x, hx, _, _ => ⟨canon_one hx, rfl, fun p => inn_cons⟩
  | y :: l, x, hx, hq, hle => by
    unfold sw
    by_cases ht : touch x y = true
    · rw [if_pos ht]
      have hl : lo (mrg x y) = lo x := by rw [lo_mrg x y hx hq.head]; have := hle y (by simp); omega
      obtain ⟨k1, k2, k3⟩ := sw_ok l (mrg x y) (mrg_okr hx hq.head) hq.tail (fun z hz => by rw [hl]; exact hle z (by simp [hz]))
      refine ⟨k1, by rw [k2, hl], fun p => ?_⟩
      rw [k3, mrg_has hx hq.head ht, inn_cons, or_assoc]
    · rw [if_neg ht]
      have hnt : ¬ (lo y ≤ hi x + 1 ∧ lo x ≤ hi y + 1) := fun h => ht (decide_eq_true h)
      have h1 := hle y (by simp)
      have h2 := hq.head.2.2
      refine ⟨⟨?_, ?_⟩, rfl, fun p => inn_cons⟩
      · intro z hz
        rcases List.mem_cons.1 hz with rfl | hz
        · exact hx
        · exact hq.1 z hz
      · refine List.pairwise_cons.2 ⟨fun z hz => ?_, hq.2⟩
        show hi x + 1 < lo z
        rcases List.mem_cons.1 hz with rfl | hz
        · omega
        · have := (List.pairwise_cons.1 hq.2).1 z hz
          omega
theorem canon_app {p q : List Rg} : Canon (p ++ q) ↔ Canon p ∧ Canon q ∧ ∀ x ∈ p, ∀ y ∈ q, hi x + 1 < lo y := by
  unfold Canon
  rw [List.pairwise_append]
  constructor
  · rintro ⟨h1, h2, h3, h4⟩
    exact ⟨⟨fun x hx => h1 x (List.mem_append_left _ hx), h2⟩, ⟨fun x hx => h1 x (List.mem_append_right _ hx), h3⟩, h4⟩
  · rintro ⟨⟨h1, h2⟩, ⟨h3, h4⟩, h5⟩
    refine ⟨fun x hx => ?_, h2, h4, h5⟩
    rcases List.mem_append.1 hx with hx | hx
    · exact h1 x hx
    · exact h3 x hx
/-- The ranges behind a range has been put in. -/
def insB (p : List Rg) (v : Rg) (q : List Rg) : List Rg :=
  match q with
  | [] => p ++ [v]
  | z :: q' => if touch z v = true then p ++ (sw (mrg z v) q').1 :: (sw (mrg z v) q').2 else p ++ v :: z :: q'
def insA (p : List Rg) (v : Rg) (q : List Rg) : List Rg :=
  if p = [] then insB p v q else
  if touch (p.getD (p.length - 1) d0) v = true then p.take (p.length - 1) ++ (sw (mrg (p.getD (p.length - 1) d0) v) q).1 :: (sw (mrg (p.getD (p.length - 1) d0) v) q).2 else insB p v q
def ins (s : List Rg) (v : Rg) : List Rg := insA (s.take (idx s v.1)) v (s.drop (idx s v.1))
theorem touch_comm (x y : Rg) : touch x y = touch y x := by unfold touch; rw [Bool.eq_iff_iff, decide_eq_true_eq, decide_eq_true_eq]; exact And.comm
theorem insB_ok {p q : List Rg} {v : Rg} (h : Canon (p ++ q)) (hv : Okr v) (hp : ∀ x ∈ p, hi x + 1 < lo v) (hq : ∀ y ∈ q, lo v ≤ hi y) :
    Canon (insB p v q) ∧ ∀ k, inn (insB p v q) k ↔ inn (p ++ q) k ∨ has v k := by
  obtain ⟨h1, h2, h3⟩ := canon_app.1 h
  unfold insB
  cases q with
  | nil =>
    refine ⟨canon_snoc.2 ⟨h1, hv, hp⟩, fun k => ?_⟩
    rw [inn_append, inn_one, List.append_nil]
  | cons z q' =>
    simp only
    have hz := h2.head
    by_cases ht : touch z v = true
    · rw [if_pos ht]
      have hm := mrg_okr hz hv
      have hl := lo_mrg z v hz hv
      obtain ⟨k1, k2, k3⟩ := sw_ok q' (mrg z v) hm h2.tail (fun y hy => by
        have := (List.pairwise_cons.1 h2.2).1 y hy
        have := hz.2.2
        rw [hl]; omega)
      refine ⟨canon_app.2 ⟨h1, k1, fun x hx y hy => ?_⟩, fun k => ?_⟩
      · have a1 := hp x hx
        have a2 := h3 x hx z (by simp)
        have : hi x + 1 < lo (sw (mrg z v) q').1 := by rw [k2, hl]; omega
        rcases List.mem_cons.1 hy with rfl | hy
        · exact this
        · have b1 := (List.pairwise_cons.1 k1.2).1 y hy
          have b2 := k1.head.2.2
          omega
      · rw [inn_append, k3, inn_append, inn_cons, mrg_has hz hv ht]
        constructor
        · rintro (a | (a | a) | a)
          · exact .inl (.inl a)
          · exact .inl (.inr (.inl a))
          · exact .inr a
          · exact .inl (.inr (.inr a))
        · rintro ((a | a | a) | a)
          · exact .inl a
          · exact .inr (.inl (.inl a))
          · exact .inr (.inr a)
          · exact .inr (.inl (.inr a))
    · rw [if_neg ht]
      have hnt : ¬ (lo v ≤ hi z + 1 ∧ lo z ≤ hi v + 1) := fun h => ht (decide_eq_true h)
      have a0 := hq z (by simp)
      refine ⟨canon_app.2 ⟨h1, ⟨?_, ?_⟩, fun x hx y hy => ?_⟩, fun k => ?_⟩
      · intro y hy
        rcases List.mem_cons.1 hy with rfl | hy
        · exact hv
        · exact h2.1 y hy
      · refine List.pairwise_cons.2 ⟨fun y hy => ?_, h2.2⟩
        rcases List.mem_cons.1 hy with rfl | hy
        · omega
        · have := (List.pairwise_cons.1 h2.2).1 y hy
          have := hz.2.2
          omega
      · rcases List.mem_cons.1 hy with rfl | hy
        · exact hp x hx
        · exact h3 x hx y hy
      · rw [inn_append, inn_cons, inn_append]
        constructor
        · rintro (a | a | a)
          · exact .inl (.inl a)
          · exact .inr a
          · exact .inl (.inr a)
        · rintro ((a | a) | a)
          · exact .inl a
          · exact .inr (.inr a)
          · exact .inr (.inl a)
theorem insA_ok {p q : List Rg} {v : Rg} (h : Canon (p ++ q)) (hv : Okr v) (hp : ∀ x ∈ p, hi x < lo v) (hq : ∀ y ∈ q, lo v ≤ hi y) :
    Canon (insA p v q) ∧ ∀ k, inn (insA p v q) k ↔ inn (p ++ q) k ∨ has v k := by
  unfold insA
  rcases List.eq_nil_or_concat p with rfl | ⟨t, y, rfl⟩
  · rw [if_pos rfl]
    exact insB_ok h hv (by simp) hq
  · rw [List.concat_eq_append] at *
    rw [if_neg (by simp), last_app]
    have hy0 : Okr y := h.1 y (by simp)
    have hyv := hp y (by simp)
    have hy2 := hy0.2.2
    obtain ⟨h1, h2, h3⟩ := canon_app.1 h
    obtain ⟨t1, _, t3⟩ := canon_snoc.1 h1
    by_cases ht : touch y v = true
    · rw [if_pos ht]
      have ek : (t ++ [y]).take ((t ++ [y]).length - 1) = t := by simp
      rw [ek]
      have hm := mrg_okr hy0 hv
      have hl : lo (mrg y v) = lo y := by rw [lo_mrg y v hy0 hv]; omega
      obtain ⟨k1, k2, k3⟩ := sw_ok q (mrg y v) hm h2 (fun z hz => by
        have := h3 y (by simp) z hz
        rw [hl]; omega)
      refine ⟨canon_app.2 ⟨t1, k1, fun x hx z hz => ?_⟩, fun k => ?_⟩
      · have a1 := t3 x hx
        have : hi x + 1 < lo (sw (mrg y v) q).1 := by rw [k2, hl]; exact a1
        rcases List.mem_cons.1 hz with rfl | hz
        · exact this
        · have b1 := (List.pairwise_cons.1 k1.2).1 z hz
          have b2 := k1.head.2.2
          omega
      · rw [inn_append, k3, inn_append, inn_append, inn_one, mrg_has hy0 hv ht]
        constructor
        · rintro (a | (a | a) | a)
          · exact .inl (.inl (.inl a))
          · exact .inl (.inl (.inr a))
          · exact .inr a
          · exact .inl (.inr a)
        · rintro (((a | a) | a) | a)
          · exact .inl a
          · exact .inr (.inl (.inl a))
          · exact .inr (.inr a)
          · exact .inr (.inl (.inr a))
    · rw [if_neg ht]
      have hnt : ¬ (lo v ≤ hi y + 1 ∧ lo y ≤ hi v + 1) := fun h => ht (decide_eq_true h)
      have hv2 := hv.2.2
      have hyl : hi y + 1 < lo v := by omega
      exact insB_ok h hv (fun x hx => by
        rcases List.mem_append.1 hx with hx | hx
        · have := t3 x hx; omega
        · simp at hx; subst hx; exact hyl) hq
theorem take_idx (s : List Rg) (q : Nat) : s.take (idx s q) = s.takeWhile fun x => lessB x q := by
  unfold idx
  conv => lhs; arg 2; rw [← List.takeWhile_append_dropWhile (p := fun x => lessB x q) (l := s)]
  exact List.take_left
theorem drop_idx (s : List Rg) (q : Nat) : s.drop (idx s q) = s.dropWhile fun x => lessB x q := by
  unfold idx
  conv => lhs; arg 2; rw [← List.takeWhile_append_dropWhile (p := fun x => lessB x q) (l := s)]
  exact List.drop_left
theorem lo_eq {v : Rg} : (if v.1 = 0 then 4294967297 else v.1) = lo v := rfl
theorem dropWhile_all (s : List Rg) (f : Rg → Bool) (hm : s.Pairwise fun x y => f y = true → f x = true) : ∀ y ∈ s.dropWhile f, f y = false := by
  induction s with
  | nil => simp
  | cons x s ih =>
    obtain ⟨h1, h2⟩ := List.pairwise_cons.1 hm
    rw [List.dropWhile_cons]
    by_cases hx : f x = true
    · rw [if_pos hx]; exact ih h2
    · rw [if_neg hx]
      intro y hy
      rcases List.mem_cons.1 hy with rfl | hy
      · simpa using hx
      · by_cases hy' : f y = true
        · exact absurd (h1 y hy hy') hx
        · simpa using hy'
theorem takeWhile_all (s : List Rg) (f : Rg → Bool) : ∀ y ∈ s.takeWhile f, f y = true := by
  induction s with
  | nil => simp
  | cons x s ih =>
    rw [List.takeWhile_cons]
    by_cases hx : f x = true
    · rw [if_pos hx]
      intro y hy
      rcases List.mem_cons.1 hy with rfl | hy
      · exact hx
      · exact ih y hy
    · rw [if_neg hx]; simp
theorem canon_mono {s : List Rg} (h : Canon s) (q : Nat) (hq : q < 4294967296) : s.Pairwise fun x y => lessB y q = true → lessB x q = true := by
  refine h.2.imp_of_mem fun {x y} hx hy hxy hl => ?_
  rw [lessB_iff (h.1 y hy).2.1 q hq] at hl
  rw [lessB_iff (h.1 x hx).2.1 q hq]
  have := (h.1 y hy).2.2
  omega
theorem ins_ok {s : List Rg} {v : Rg} (h : Canon s) (hv : Okr v) : Canon (ins s v) ∧ ∀ k, inn (ins s v) k ↔ inn s k ∨ has v k := by
  have hap : s.take (idx s v.1) ++ s.drop (idx s v.1) = s := List.take_append_drop _ _
  have := insA_ok (p := s.take (idx s v.1)) (q := s.drop (idx s v.1)) (v := v) (by rw [hap]; exact h) hv
    (fun x hx => by
      rw [take_idx] at hx
      have h1 := takeWhile_all _ _ x hx
      have hm : x ∈ s := (List.takeWhile_sublist _).subset hx
      rw [lessB_iff (h.1 x hm).2.1 _ hv.1, lo_eq] at h1
      exact h1)
    (fun y hy => by
      rw [drop_idx] at hy
      have h1 := dropWhile_all s _ (canon_mono h v.1 hv.1) y hy
      have hm : y ∈ s := (List.dropWhile_sublist _).subset hy
      have : ¬ (lessB y v.1 = true) := by rw [h1]; simp
      rw [lessB_iff (h.1 y hm).2.1 _ hv.1, lo_eq] at this
      omega)
  rw [hap] at this
  exact this
/-- A row of ranges put in one by one: the reference's own set. -/
theorem fold_ins : ∀ (l s : List Rg), Canon s → (∀ x ∈ l, Okr x) → Canon (l.foldl ins s) ∧ ∀ k, inn (l.foldl ins s) k ↔ inn s k ∨ inn l k
  | [], s, h, _ => ⟨h, fun k => ⟨.inl, fun h => h.resolve_right inn_nil⟩⟩
  | x :: l, s, h, hl => by
    obtain ⟨h1, h2⟩ := ins_ok h (hl x (by simp))
    obtain ⟨k1, k2⟩ := fold_ins l (ins s x) h1 (fun y hy => hl y (by simp [hy]))
    refine ⟨k1, fun k => ?_⟩
    show inn (l.foldl ins (ins s x)) k ↔ _
    rw [k2, h2, inn_cons, or_assoc]
theorem canon_nil : Canon [] := ⟨by simp, List.Pairwise.nil⟩
theorem fold_set9 (l : List Rg) (hl : ∀ x ∈ l, Okr x) : l.foldl ins [] = set9 l := by
  obtain ⟨h1, h2⟩ := fold_ins l [] canon_nil hl
  obtain ⟨k1, k2⟩ := set9_ok l hl
  refine canon_unique h1 k1 fun p => ?_
  rw [h2, k2]
  exact ⟨fun h => h.resolve_left inn_nil, .inr⟩
end Go.Proofs.YtnokeaiemiiicaaDoor.Sets
