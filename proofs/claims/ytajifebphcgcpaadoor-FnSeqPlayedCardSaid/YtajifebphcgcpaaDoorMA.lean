/- Lists of ranges in order, none of which touch: such a list is known by what it holds. Two ranges as one, plainly; and what a list of two ranges is kept as. A range put into a list of ranges in order: what comes of it, plainly. -/
namespace Go.Proofs.YtajifebphcgcpaaDoor.Sets
set_option linter.unusedVariables false
set_option linter.unusedSimpArgs false

abbrev Rg := Nat × Nat
def lo (x : Rg) : Nat := if x.1 = 0 then 4294967297 else x.1
def hi (x : Rg) : Nat := if x.2 = 0 then 4294967297 else x.2
/-- A range in order: 0 stands behind all numbers. -/
def Okr (x : Rg) : Prop := x.1 < 4294967296 ∧ x.2 < 4294967296 ∧ lo x ≤ hi x
def has (x : Rg) (p : Nat) : Prop := lo x ≤ p ∧ p ≤ hi x
def inn (l : List Rg) (p : Nat) : Prop := ∃ x ∈ l, has x p
/-- Ascending, and no two touch. -/
def Canon (l : List Rg) : Prop := (∀ x ∈ l, Okr x) ∧ l.Pairwise (fun x y => hi x + 1 < lo y)

theorem lo_inj {x y : Rg} (hx : x.1 < 4294967296) (hy : y.1 < 4294967296) (h : lo x = lo y) : x.1 = y.1 := by
  unfold lo at h; split at h <;> split at h <;> omega
theorem hi_inj {x y : Rg} (hx : x.2 < 4294967296) (hy : y.2 < 4294967296) (h : hi x = hi y) : x.2 = y.2 := by
  unfold hi at h; split at h <;> split at h <;> omega
theorem rg_ext {x y : Rg} (hx : Okr x) (hy : Okr y) (h1 : lo x = lo y) (h2 : hi x = hi y) : x = y :=
  Prod.ext (lo_inj hx.1 hy.1 h1) (hi_inj hx.2.1 hy.2.1 h2)
theorem inn_nil {p : Nat} : ¬ inn [] p := fun ⟨_, h, _⟩ => by cases h
theorem inn_cons {x : Rg} {l : List Rg} {p : Nat} : inn (x :: l) p ↔ has x p ∨ inn l p := by
  unfold inn
  constructor
  · rintro ⟨y, hy, hp⟩
    rcases List.mem_cons.1 hy with rfl | hy
    · exact .inl hp
    · exact .inr ⟨y, hy, hp⟩
  · rintro (h | ⟨y, hy, hp⟩)
    · exact ⟨x, List.mem_cons_self .., h⟩
    · exact ⟨y, List.mem_cons_of_mem _ hy, hp⟩
theorem inn_append {l m : List Rg} {p : Nat} : inn (l ++ m) p ↔ inn l p ∨ inn m p := by
  unfold inn
  constructor
  · rintro ⟨y, hy, hp⟩
    rcases List.mem_append.1 hy with hy | hy
    · exact .inl ⟨y, hy, hp⟩
    · exact .inr ⟨y, hy, hp⟩
  · rintro (⟨y, hy, hp⟩ | ⟨y, hy, hp⟩)
    · exact ⟨y, List.mem_append_left _ hy, hp⟩
    · exact ⟨y, List.mem_append_right _ hy, hp⟩
theorem inn_perm {l m : List Rg} (h : l.Perm m) {p : Nat} : inn l p ↔ inn m p :=
  ⟨fun ⟨y, hy, hp⟩ => ⟨y, h.mem_iff.1 hy, hp⟩, fun ⟨y, hy, hp⟩ => ⟨y, h.mem_iff.2 hy, hp⟩⟩
theorem Canon.tail {x : Rg} {l : List Rg} (h : Canon (x :: l)) : Canon l :=
  ⟨fun y hy => h.1 y (List.mem_cons_of_mem _ hy), (List.pairwise_cons.1 h.2).2⟩
theorem Canon.head {x : Rg} {l : List Rg} (h : Canon (x :: l)) : Okr x := h.1 x (List.mem_cons_self ..)
theorem Canon.above {x : Rg} {l : List Rg} (h : Canon (x :: l)) {p : Nat} (hp : inn l p) : hi x + 1 < p := by
  obtain ⟨y, hy, h1, _⟩ := hp
  have := (List.pairwise_cons.1 h.2).1 y hy
  omega
theorem Canon.from {x : Rg} {l : List Rg} (h : Canon (x :: l)) {p : Nat} (hp : inn (x :: l) p) : lo x ≤ p := by
  rcases inn_cons.1 hp with hp | hp
  · exact hp.1
  · have := h.above hp
    have := h.head.2.2
    omega
/-- A list in this form is known by what it holds. -/
theorem canon_unique : ∀ {l m : List Rg}, Canon l → Canon m → (∀ p, inn l p ↔ inn m p) → l = m
  | [], [], _, _, _ => rfl
  | [], y :: m, _, hm, h => absurd ((h (lo y)).2 (inn_cons.2 (.inl ⟨Nat.le_refl _, hm.head.2.2⟩))) inn_nil
  | x :: l, [], hl, _, h => absurd ((h (lo x)).1 (inn_cons.2 (.inl ⟨Nat.le_refl _, hl.head.2.2⟩))) inn_nil
  | x :: l, y :: m, hl, hm, h => by
    have ix : inn (x :: l) (lo x) := inn_cons.2 (.inl ⟨Nat.le_refl _, hl.head.2.2⟩)
    have iy : inn (y :: m) (lo y) := inn_cons.2 (.inl ⟨Nat.le_refl _, hm.head.2.2⟩)
    have e1 : lo x = lo y := Nat.le_antisymm (hl.from ((h _).2 iy)) (hm.from ((h _).1 ix))
    have hx := hl.head.2.2
    have hy := hm.head.2.2
    have e2 : hi x = hi y := by
      rcases Nat.lt_trichotomy (hi x) (hi y) with hlt | he | hlt
      · have : inn (x :: l) (hi x + 1) := (h _).2 (inn_cons.2 (.inl ⟨by omega, by omega⟩))
        rcases inn_cons.1 this with hp | hp
        · have := hp.2; omega
        · have := hl.above hp; omega
      · exact he
      · have : inn (y :: m) (hi y + 1) := (h _).1 (inn_cons.2 (.inl ⟨by omega, by omega⟩))
        rcases inn_cons.1 this with hp | hp
        · have := hp.2; omega
        · have := hm.above hp; omega
    have exy := rg_ext hl.head hm.head e1 e2
    subst exy
    congr 1
    refine canon_unique hl.tail hm.tail fun p => ⟨fun hp => ?_, fun hp => ?_⟩
    · rcases inn_cons.1 ((h p).1 (inn_cons.2 (.inr hp))) with hq | hq
      · have := hl.above hp; have := hq.2; omega
      · exact hq
    · rcases inn_cons.1 ((h p).2 (inn_cons.2 (.inr hp))) with hq | hq
      · have := hm.above hp; have := hq.2; omega
      · exact hq

/-! ### ranges as they are kept, by the reference's own way -/

def d0 : Rg := (0, 0)
def closedOf (l : List Rg) : List Rg := l.filter fun x => decide (x.1 ≠ 0 ∧ x.2 ≠ 0)
def starOf (l : List Rg) : Bool := l.any fun x => decide (x.1 = 0)
def openStep (o : Nat) (x : Rg) : Nat := if x.1 = 0 then o else if x.2 = 0 then (if o = 0 ∨ x.1 < o then x.1 else o) else o
def openOf (l : List Rg) : Nat := l.foldl openStep 0
def swp (c : List Rg) (k : Nat) : List Rg := (c.set k (c.getD (k - 1) d0)).set (k - 1) (c.getD k d0)
def bub (c : List Rg) : Nat → List Rg
  | 0 => c
  | k + 1 => if (c.getD (k + 1) d0).1 < (c.getD k d0).1 then bub (swp c (k + 1)) k else c
def srt (c : List Rg) (n : Nat) : List Rg := (List.range n).foldl bub c
def joinStep (out : List Rg) (x : Rg) : List Rg :=
  if out = [] then [x] else
  if x.1 ≤ (out.getD (out.length - 1) d0).2 + 1 then out.set (out.length - 1) ((out.getD (out.length - 1) d0).1, max (out.getD (out.length - 1) d0).2 x.2) else out ++ [x]
def joinAll (c : List Rg) : List Rg := c.foldl joinStep []
def popOpen : Nat → List Rg → Nat → List Rg × Nat
  | 0, out, o => (out, o)
  | n + 1, out, o => if out = [] then (out, o) else if o ≤ (out.getD (out.length - 1) d0).2 + 1 then popOpen n (out.take (out.length - 1)) (min o (out.getD (out.length - 1) d0).1) else (out, o)
def set9 (l : List Rg) : List Rg :=
  let out := joinAll (srt (closedOf l) (closedOf l).length)
  if 0 < openOf l then (popOpen out.length out (openOf l)).1 ++ [((popOpen out.length out (openOf l)).2, 0)]
  else if starOf l = true then out ++ [d0] else out

/-! ### the sorting -/

theorem swp_length (c : List Rg) (k : Nat) : (swp c k).length = c.length := by simp [swp]
theorem getD_set (c : List Rg) (i j : Nat) (x : Rg) (hi : i < c.length) : (c.set i x).getD j d0 = if j = i then x else c.getD j d0 := by
  rw [List.getD_eq_getElem?_getD, List.getElem?_set, List.getD_eq_getElem?_getD]
  by_cases h : i = j
  · subst h; simp [hi]
  · rw [if_neg h, if_neg (fun e => h e.symm)]
theorem swp_getD (c : List Rg) (k j : Nat) (h : k + 1 < c.length) : (swp c (k + 1)).getD j d0 = if j = k then c.getD (k + 1) d0 else if j = k + 1 then c.getD k d0 else c.getD j d0 := by
  unfold swp
  rw [getD_set _ _ _ _ (by simp; omega), getD_set _ _ _ _ h]
  simp only [Nat.add_sub_cancel]
theorem getD_of_lt (c : List Rg) (k : Nat) (h : k < c.length) : c.getD k d0 = c[k] := by
  rw [List.getD_eq_getElem?_getD, List.getElem?_eq_getElem h]; rfl
theorem swp_perm (c : List Rg) (k : Nat) (h : k + 1 < c.length) : (swp c (k + 1)).Perm c := by
  unfold swp
  rw [Nat.add_sub_cancel, getD_of_lt c k (by omega), getD_of_lt c (k + 1) h]
  exact List.set_set_perm h (by omega)
theorem bub_length : ∀ (k : Nat) (c : List Rg), (bub c k).length = c.length
  | 0, c => rfl
  | k + 1, c => by
    unfold bub
    split
    · rw [bub_length k, swp_length]
    · rfl
theorem bub_perm : ∀ (k : Nat) (c : List Rg), k < c.length → (bub c k).Perm c
  | 0, c, _ => List.Perm.refl _
  | k + 1, c, h => by
    unfold bub
    split
    · exact (bub_perm k _ (by rw [swp_length]; omega)).trans (swp_perm c k h)
    · exact List.Perm.refl _
/-- All of the first n + 1 are in order but for what stands at k. -/
def But (c : List Rg) (k n : Nat) : Prop := ∀ i j, i < j → j ≤ n → j ≠ k → (c.getD i d0).1 ≤ (c.getD j d0).1
def Upto (c : List Rg) (n : Nat) : Prop := ∀ i j, i < j → j < n → (c.getD i d0).1 ≤ (c.getD j d0).1
theorem bub_sorts : ∀ (k n : Nat) (c : List Rg), k ≤ n → n < c.length → But c k n → Upto (bub c k) (n + 1)
  | 0, n, c, _, hn, h => fun i j hij hj => h i j hij (by omega) (by omega)
  | k + 1, n, c, hk, hn, h => by
    unfold bub
    split
    · rename_i hlt
      refine bub_sorts k n _ (by omega) (by rw [swp_length]; exact hn) fun i j hij hj hne => ?_
      rw [swp_getD c k i (by omega), swp_getD c k j (by omega), if_neg hne]
      by_cases e1 : j = k + 1
      · rw [if_pos e1]
        by_cases e2 : i = k
        · rw [if_pos e2]; omega
        · rw [if_neg e2, if_neg (by omega)]
          exact h i k (by omega) (by omega) (by omega)
      · rw [if_neg e1]
        by_cases e2 : i = k
        · rw [if_pos e2]; exact h (k + 1) j (by omega) hj e1
        · rw [if_neg e2]
          by_cases e3 : i = k + 1
          · rw [if_pos e3]; exact h k j (by omega) hj e1
          · rw [if_neg e3]; exact h i j hij hj e1
    · rename_i hge
      intro i j hij hj
      by_cases e : j = k + 1
      · subst e
        by_cases e2 : i = k
        · subst e2; omega
        · have := h i k (by omega) (by omega) (by omega); omega
      · exact h i j hij (by omega) e
theorem srt_succ (c : List Rg) (n : Nat) : srt c (n + 1) = bub (srt c n) n := by unfold srt; rw [List.range_succ, List.foldl_append]; rfl
theorem srt_length (c : List Rg) : ∀ n, (srt c n).length = c.length
  | 0 => rfl
  | n + 1 => by rw [srt_succ, bub_length, srt_length]
theorem srt_perm (c : List Rg) : ∀ n, n ≤ c.length → (srt c n).Perm c
  | 0, _ => List.Perm.refl _
  | n + 1, h => by rw [srt_succ]; exact (bub_perm n _ (by rw [srt_length]; omega)).trans (srt_perm c n (by omega))
theorem srt_upto (c : List Rg) : ∀ n, n ≤ c.length → Upto (srt c n) n
  | 0, _ => fun i j _ h => by omega
  | n + 1, h => by
    rw [srt_succ]
    refine bub_sorts n n _ (Nat.le_refl _) (by rw [srt_length]; omega) fun i j hij hj hne => ?_
    exact srt_upto c n (by omega) i j hij (by omega)
theorem pairwise_of_upto (c : List Rg) (h : Upto c c.length) : c.Pairwise fun x y => x.1 ≤ y.1 := by
  rw [List.pairwise_iff_getElem]
  intro i j hi hj hij
  have := h i j hij hj
  rw [getD_of_lt c i hi, getD_of_lt c j hj] at this
  exact this
theorem srt_sorted (c : List Rg) : (srt c c.length).Pairwise fun x y => x.1 ≤ y.1 :=
  pairwise_of_upto _ (by rw [srt_length]; exact srt_upto c _ (Nat.le_refl _))

/-! ### what touches is joined -/

def Shutr (x : Rg) : Prop := Okr x ∧ x.1 ≠ 0 ∧ x.2 ≠ 0
theorem Shutr.lo {x : Rg} (h : Shutr x) : lo x = x.1 := by unfold Sets.lo; rw [if_neg h.2.1]
theorem Shutr.hi {x : Rg} (h : Shutr x) : hi x = x.2 := by unfold Sets.hi; rw [if_neg h.2.2]
theorem Shutr.le {x : Rg} (h : Shutr x) : x.1 ≤ x.2 := by have := h.1.2.2; rw [h.lo, h.hi] at this; exact this
theorem shutr_mk {a b : Nat} (h1 : 0 < a) (h2 : a ≤ b) (h3 : b < 4294967296) : Shutr (a, b) := by
  refine ⟨⟨by simp; omega, h3, ?_⟩, by simp; omega, by simp; omega⟩
  unfold Sets.lo Sets.hi; simp only; rw [if_neg (by omega), if_neg (by omega)]; exact h2
theorem last_app (o : List Rg) (y : Rg) : (o ++ [y]).getD ((o ++ [y]).length - 1) d0 = y := by
  rw [List.getD_eq_getElem?_getD]; simp
theorem set_app (o : List Rg) (y z : Rg) : (o ++ [y]).set ((o ++ [y]).length - 1) z = o ++ [z] := by
  simp [List.set_append]
theorem joinStep_app (o : List Rg) (y x : Rg) : joinStep (o ++ [y]) x = if x.1 ≤ y.2 + 1 then o ++ [(y.1, max y.2 x.2)] else o ++ [y] ++ [x] := by
  unfold joinStep
  rw [if_neg (by simp), last_app, set_app]
theorem canon_snoc {o : List Rg} {y : Rg} : Canon (o ++ [y]) ↔ Canon o ∧ Okr y ∧ ∀ x ∈ o, hi x + 1 < lo y := by
  unfold Canon
  rw [List.pairwise_append]
  constructor
  · rintro ⟨h1, h2, _, h3⟩
    exact ⟨⟨fun x hx => h1 x (List.mem_append_left _ hx), h2⟩, h1 y (by simp), fun x hx => h3 x hx y (by simp)⟩
  · rintro ⟨⟨h1, h2⟩, h3, h4⟩
    refine ⟨fun x hx => ?_, h2, List.pairwise_singleton _ _, fun x hx z hz => ?_⟩
    · rcases List.mem_append.1 hx with hx | hx
      · exact h1 x hx
      · simp at hx; subst hx; exact h3
    · simp at hz; subst hz; exact h4 x hx
theorem inn_one {x : Rg} {p : Nat} : inn [x] p ↔ has x p := by rw [inn_cons]; exact ⟨fun h => h.resolve_right inn_nil, .inl⟩
/-- One step of the joining, on shut ranges. -/
theorem joinStep_ok {out : List Rg} {x : Rg} (h : Canon out) (hs : ∀ y ∈ out, Shutr y) (hx : Shutr x) (hle : ∀ y ∈ out, y.1 ≤ x.1) :
    Canon (joinStep out x) ∧ (∀ y ∈ joinStep out x, Shutr y ∧ y.1 ≤ x.1) ∧ ∀ p, inn (joinStep out x) p ↔ inn out p ∨ has x p := by
  rcases List.eq_nil_or_concat out with rfl | ⟨o, y, rfl⟩
  · unfold joinStep
    rw [if_pos rfl]
    refine ⟨⟨by simpa using hx.1, List.pairwise_singleton _ _⟩, by simpa using hx, fun p => ?_⟩
    rw [inn_one]
    exact ⟨.inr, fun h => h.resolve_left inn_nil⟩
  · rw [List.concat_eq_append] at *
    have hy : Shutr y := hs y (by simp)
    have hyx : y.1 ≤ x.1 := hle y (by simp)
    obtain ⟨ho, _, hab⟩ := canon_snoc.1 h
    have hso : ∀ z ∈ o, Shutr z ∧ z.1 ≤ x.1 := fun z hz => ⟨hs z (List.mem_append_left _ hz), hle z (List.mem_append_left _ hz)⟩
    have hy1 := hy.le
    have hx1 := hx.le
    rw [joinStep_app]
    by_cases ht : x.1 ≤ y.2 + 1
    · rw [if_pos ht]
      have hz : Shutr (y.1, max y.2 x.2) := shutr_mk (by have := hy.2.1; omega) (by omega) (by have := hy.1.2.1; have := hx.1.2.1; omega)
      refine ⟨canon_snoc.2 ⟨ho, hz.1, fun z hzo => ?_⟩, fun z hzo => ?_, fun p => ?_⟩
      · have := hab z hzo; rw [hy.lo] at this; rw [hz.lo]; exact this
      · rcases List.mem_append.1 hzo with hzo | hzo
        · exact hso z hzo
        · simp at hzo; subst hzo; exact ⟨hz, hyx⟩
      · rw [inn_append, inn_append, inn_one, inn_one]
        unfold has
        rw [hz.lo, hz.hi, hy.lo, hy.hi, hx.lo, hx.hi]
        simp only
        constructor
        · rintro (h | h)
          · exact .inl (.inl h)
          · by_cases hp : p ≤ y.2
            · exact .inl (.inr ⟨h.1, hp⟩)
            · exact .inr ⟨by omega, by omega⟩
        · rintro ((h | h) | h)
          · exact .inl h
          · exact .inr ⟨h.1, by omega⟩
          · exact .inr ⟨by omega, by omega⟩
    · rw [if_neg ht]
      refine ⟨canon_snoc.2 ⟨h, hx.1, fun z hzo => ?_⟩, fun z hzo => ?_, fun p => ?_⟩
      · rw [hx.lo]
        rcases List.mem_append.1 hzo with hzo | hzo
        · have := hab z hzo; rw [hy.lo] at this; omega
        · simp at hzo; subst hzo; rw [hy.hi]; omega
      · rcases List.mem_append.1 hzo with hzo | hzo
        · exact ⟨hs z hzo, hle z hzo⟩
        · simp at hzo; subst hzo; exact ⟨hx, Nat.le_refl _⟩
      · rw [inn_append, inn_one]
theorem joinFold_ok : ∀ (c out : List Rg), Canon out → (∀ y ∈ out, Shutr y) → (∀ x ∈ c, Shutr x) → (∀ y ∈ out, ∀ x ∈ c, y.1 ≤ x.1) → c.Pairwise (fun x y => x.1 ≤ y.1) →
    Canon (c.foldl joinStep out) ∧ (∀ y ∈ c.foldl joinStep out, Shutr y) ∧ ∀ p, inn (c.foldl joinStep out) p ↔ inn out p ∨ inn c p
  | [], out, h, hs, _, _, _ => ⟨h, hs, fun p => ⟨.inl, fun h => h.resolve_right inn_nil⟩⟩
  | x :: c, out, h, hs, hc, hle, hp => by
    obtain ⟨h1, h2, h3⟩ := joinStep_ok h hs (hc x (by simp)) (fun y hy => hle y hy x (by simp))
    obtain ⟨p1, p2⟩ := List.pairwise_cons.1 hp
    obtain ⟨k1, k2, k3⟩ := joinFold_ok c (joinStep out x) h1 (fun y hy => (h2 y hy).1) (fun z hz => hc z (by simp [hz])) (fun y hy z hz => Nat.le_trans (h2 y hy).2 (p1 z hz)) p2
    refine ⟨k1, k2, fun p => ?_⟩
    show inn (c.foldl joinStep (joinStep out x)) p ↔ _
    rw [k3, h3, inn_cons, or_assoc]

/-! ### what is open takes in what it touches -/

theorem okr_open {o : Nat} (h0 : 0 < o) (h1 : o < 4294967296) : Okr (o, 0) := by
  refine ⟨h1, by simp, ?_⟩
  unfold Sets.lo Sets.hi; simp only; rw [if_neg (by omega), if_pos trivial]; omega
theorem lo_open {o : Nat} (h0 : 0 < o) : lo (o, 0) = o := by unfold Sets.lo; simp only; rw [if_neg (by omega)]
theorem hi_open {o : Nat} : hi (o, 0) = 4294967297 := by unfold Sets.hi; simp
theorem popOpen_ok : ∀ (n : Nat) (out : List Rg) (o : Nat), n = out.length → Canon out → (∀ y ∈ out, Shutr y) → 0 < o → o < 4294967296 →
    Canon ((popOpen n out o).1 ++ [((popOpen n out o).2, 0)]) ∧ ∀ p, inn ((popOpen n out o).1 ++ [((popOpen n out o).2, 0)]) p ↔ inn out p ∨ has (o, 0) p
  | 0, out, o, hn, hc, hs, h0, h1 => by
    obtain rfl : out = [] := List.length_eq_zero_iff.1 hn.symm
    unfold popOpen
    refine ⟨canon_snoc.2 ⟨hc, okr_open h0 h1, by simp⟩, fun p => ?_⟩
    rw [inn_append, inn_one]
  | n + 1, out, o, hn, hc, hs, h0, h1 => by
    rcases List.eq_nil_or_concat out with rfl | ⟨t, y, rfl⟩
    · simp at hn
    · rw [List.concat_eq_append] at *
      have hy : Shutr y := hs y (by simp)
      have hy1 := hy.le
      obtain ⟨ht, _, hab⟩ := canon_snoc.1 hc
      unfold popOpen
      rw [if_neg (by simp), last_app]
      by_cases hle : o ≤ y.2 + 1
      · rw [if_pos hle]
        have ek : (t ++ [y]).take ((t ++ [y]).length - 1) = t := by simp
        rw [ek]
        have hy0 := hy.2.1
        obtain ⟨k1, k2⟩ := popOpen_ok n t (min o y.1) (by simp at hn; omega) ht (fun z hz => hs z (List.mem_append_left _ hz)) (by omega) (by omega)
        refine ⟨k1, fun p => ?_⟩
        rw [k2, inn_append, inn_one]
        unfold has
        rw [lo_open (by omega), hi_open, lo_open h0, hi_open, hy.lo, hy.hi]
        have := hy.1.2.1
        constructor
        · rintro (h | h)
          · exact .inl (.inl h)
          · by_cases hp : o ≤ p
            · exact .inr ⟨hp, h.2⟩
            · exact .inl (.inr ⟨by omega, by omega⟩)
        · rintro ((h | h) | h)
          · exact .inl h
          · exact .inr ⟨by omega, by omega⟩
          · exact .inr ⟨by omega, by omega⟩
      · rw [if_neg hle]
        refine ⟨canon_snoc.2 ⟨hc, okr_open h0 h1, fun z hz => ?_⟩, fun p => by rw [inn_append, inn_one]⟩
        rw [lo_open h0]
        rcases List.mem_append.1 hz with hz | hz
        · have := hab z hz; rw [hy.lo] at this; omega
        · simp at hz; subst hz; rw [hy.hi]; omega

/-! ### the whole -/

theorem openFold (l : List Rg) (h : ∀ x ∈ l, Okr x) : ∀ (o : Nat), o < 4294967296 → l.foldl openStep o < 4294967296 ∧
    (l.foldl openStep o = 0 ↔ o = 0 ∧ ∀ x ∈ l, x.1 ≠ 0 → x.2 ≠ 0) ∧
    ∀ p, (0 < l.foldl openStep o ∧ l.foldl openStep o ≤ p) ↔ ((0 < o ∧ o ≤ p) ∨ ∃ x ∈ l, x.1 ≠ 0 ∧ x.2 = 0 ∧ x.1 ≤ p) := by
  induction l with
  | nil => intro o ho; exact ⟨ho, ⟨fun e => ⟨e, by simp⟩, fun e => e.1⟩, fun p => ⟨.inl, fun h => h.resolve_right (fun ⟨_, h, _⟩ => by cases h)⟩⟩
  | cons x l ih =>
    intro o ho
    have hx := h x (by simp)
    have key : openStep o x < 4294967296 ∧ (openStep o x = 0 ↔ o = 0 ∧ (x.1 ≠ 0 → x.2 ≠ 0)) ∧ ∀ p, (0 < openStep o x ∧ openStep o x ≤ p) ↔ ((0 < o ∧ o ≤ p) ∨ (x.1 ≠ 0 ∧ x.2 = 0 ∧ x.1 ≤ p)) := by
      have hx1 := hx.1
      unfold openStep
      by_cases e1 : x.1 = 0
      · rw [if_pos e1]; exact ⟨ho, ⟨fun e => ⟨e, fun h => absurd e1 h⟩, fun e => e.1⟩, fun p => ⟨.inl, fun h => h.resolve_right (fun h => h.1 e1)⟩⟩
      · rw [if_neg e1]
        by_cases e2 : x.2 = 0
        · rw [if_pos e2]
          by_cases e3 : o = 0 ∨ x.1 < o
          · rw [if_pos e3]
            exact ⟨hx1, ⟨fun e => absurd e e1, fun e => absurd e2 (e.2 e1)⟩, fun p => ⟨fun h => .inr ⟨e1, e2, h.2⟩, fun h => by rcases h with h | h <;> omega⟩⟩
          · rw [if_neg e3]
            exact ⟨ho, ⟨fun e => by omega, fun e => absurd e2 (e.2 e1)⟩, fun p => ⟨.inl, fun h => by rcases h with h | h <;> omega⟩⟩
        · rw [if_neg e2]
          exact ⟨ho, ⟨fun e => ⟨e, fun _ => e2⟩, fun e => e.1⟩, fun p => ⟨.inl, fun h => h.resolve_right (fun h => e2 h.2.1)⟩⟩
    obtain ⟨k1, k2, k3⟩ := ih (fun y hy => h y (by simp [hy])) (openStep o x) key.1
    refine ⟨k1, ?_, fun p => ?_⟩
    · show l.foldl openStep (openStep o x) = 0 ↔ _
      rw [k2, key.2.1]
      simp only [List.mem_cons, forall_eq_or_imp, and_assoc]
    · show (0 < l.foldl openStep (openStep o x) ∧ l.foldl openStep (openStep o x) ≤ p) ↔ _
      rw [k3, key.2.2, or_assoc]
      simp only [List.mem_cons, exists_eq_or_imp]
theorem set9_ok (l : List Rg) (h : ∀ x ∈ l, Okr x) : Canon (set9 l) ∧ ∀ p, inn (set9 l) p ↔ inn l p := by
  have hsh : ∀ x ∈ closedOf l, Shutr x := fun x hx => by
    unfold closedOf at hx
    rw [List.mem_filter] at hx
    have := of_decide_eq_true hx.2
    exact ⟨h x hx.1, this.1, this.2⟩
  have hpm := srt_perm (closedOf l) (closedOf l).length (Nat.le_refl _)
  have hss : ∀ x ∈ srt (closedOf l) (closedOf l).length, Shutr x := fun x hx => hsh x (hpm.mem_iff.1 hx)
  obtain ⟨j1, j2, j3⟩ := joinFold_ok (srt (closedOf l) (closedOf l).length) [] ⟨by simp, List.Pairwise.nil⟩ (by simp) hss (by simp) (srt_sorted _)
  have j3' : ∀ p, inn (joinAll (srt (closedOf l) (closedOf l).length)) p ↔ inn (closedOf l) p := fun p => by
    unfold joinAll
    rw [j3, inn_perm hpm]
    exact ⟨fun h => h.resolve_left inn_nil, .inr⟩
  obtain ⟨o1, o2, o3⟩ := openFold l h 0 (by omega)
  -- what a list holds, by the three kinds of ranges
  have parts : ∀ p, inn l p ↔ inn (closedOf l) p ∨ (∃ x ∈ l, x.1 ≠ 0 ∧ x.2 = 0 ∧ has x p) ∨ (∃ x ∈ l, x.1 = 0 ∧ has x p) := fun p => by
    constructor
    · rintro ⟨x, hx, hp⟩
      by_cases e1 : x.1 = 0
      · exact .inr (.inr ⟨x, hx, e1, hp⟩)
      · by_cases e2 : x.2 = 0
        · exact .inr (.inl ⟨x, hx, e1, e2, hp⟩)
        · exact .inl ⟨x, List.mem_filter.2 ⟨hx, decide_eq_true ⟨e1, e2⟩⟩, hp⟩
    · rintro (⟨x, hx, hp⟩ | ⟨x, hx, _, _, hp⟩ | ⟨x, hx, _, hp⟩)
      · exact ⟨x, (List.mem_filter.1 hx).1, hp⟩
      · exact ⟨x, hx, hp⟩
      · exact ⟨x, hx, hp⟩
  have star : ∀ x ∈ l, x.1 = 0 → ∀ p, has x p ↔ p = 4294967297 := fun x hx e p => by
    have hok := (h x hx).2.2
    have h2 := (h x hx).2.1
    unfold has
    have hl : lo x = 4294967297 := by unfold lo; rw [if_pos e]
    have hh : hi x = 4294967297 := by
      rw [hl] at hok; unfold hi at hok ⊢
      split
      · rfl
      · rename_i hne; rw [if_neg hne] at hok; omega
    rw [hl, hh]; omega
  have opn : ∀ x ∈ l, x.1 ≠ 0 → x.2 = 0 → ∀ p, has x p ↔ x.1 ≤ p ∧ p ≤ 4294967297 := fun x hx e1 e2 p => by
    unfold has lo hi; rw [if_neg e1, if_pos e2]
  unfold set9
  simp only
  unfold openOf at *
  by_cases ho : 0 < l.foldl openStep 0
  · rw [if_pos ho]
    obtain ⟨k1, k2⟩ := popOpen_ok _ _ _ rfl j1 j2 ho o1
    refine ⟨k1, fun p => ?_⟩
    show inn ((popOpen (joinAll (srt (closedOf l) (closedOf l).length)).length (joinAll (srt (closedOf l) (closedOf l).length)) _).1 ++ _) p ↔ _
    rw [show (popOpen (joinAll (srt (closedOf l) (closedOf l).length)).length (joinAll (srt (closedOf l) (closedOf l).length)) (l.foldl openStep 0)) = (popOpen (List.foldl joinStep [] (srt (closedOf l) (closedOf l).length)).length (List.foldl joinStep [] (srt (closedOf l) (closedOf l).length)) (l.foldl openStep 0)) from rfl, k2, show List.foldl joinStep [] (srt (closedOf l) (closedOf l).length) = joinAll (srt (closedOf l) (closedOf l).length) from rfl, j3', parts]
    have hop : has (l.foldl openStep 0, 0) p ↔ (∃ x ∈ l, x.1 ≠ 0 ∧ x.2 = 0 ∧ x.1 ≤ p) ∧ p ≤ 4294967297 := by
      unfold has
      rw [lo_open ho, hi_open]
      have := o3 p
      constructor
      · rintro ⟨h1, h2⟩; exact ⟨((this.1 ⟨ho, h1⟩).resolve_left (by omega)), h2⟩
      · rintro ⟨h1, h2⟩; exact ⟨(this.2 (.inr h1)).2, h2⟩
    rw [hop]
    constructor
    · rintro (h1 | ⟨⟨x, hx, e1, e2, hp⟩, hq⟩)
      · exact .inl h1
      · exact .inr (.inl ⟨x, hx, e1, e2, (opn x hx e1 e2 p).2 ⟨hp, hq⟩⟩)
    · rintro (h1 | ⟨x, hx, e1, e2, hp⟩ | ⟨x, hx, e1, hp⟩)
      · exact .inl h1
      · have := (opn x hx e1 e2 p).1 hp
        exact .inr ⟨⟨x, hx, e1, e2, this.1⟩, this.2⟩
      · have hp := (star x hx e1 p).1 hp
        have hz := o3 4294967296
        obtain ⟨y, hy, y1, y2, y3⟩ := ((hz.1 ⟨ho, by omega⟩).resolve_left (by omega))
        exact .inr ⟨⟨y, hy, y1, y2, by omega⟩, by omega⟩
  · rw [if_neg ho]
    have hno := (o2.1 (by omega)).2
    by_cases hst : starOf l = true
    · rw [if_pos hst]
      obtain ⟨x, hx, ex⟩ := List.any_eq_true.1 hst
      have ex := of_decide_eq_true ex
      refine ⟨canon_snoc.2 ⟨j1, ?_, fun z hz => ?_⟩, fun p => ?_⟩
      · exact ⟨by decide, by decide, by decide⟩
      · have hz2 := j2 z hz
        have := hz2.1.2.1
        rw [hz2.hi, show lo d0 = 4294967297 from rfl]; omega
      · show inn (joinAll (srt (closedOf l) (closedOf l).length) ++ [d0]) p ↔ _
        rw [inn_append, j3', inn_one, parts]
        have hd : has d0 p ↔ p = 4294967297 := by unfold has; rw [show lo d0 = 4294967297 from rfl, show hi d0 = 4294967297 from rfl]; omega
        rw [hd]
        constructor
        · rintro (h1 | h1)
          · exact .inl h1
          · exact .inr (.inr ⟨x, hx, ex, (star x hx ex p).2 h1⟩)
        · rintro (h1 | ⟨y, hy, e1, e2, _⟩ | ⟨y, hy, e1, hp⟩)
          · exact .inl h1
          · exact absurd e2 (hno y hy e1)
          · exact .inr ((star y hy e1 p).1 hp)
    · rw [if_neg hst]
      refine ⟨j1, fun p => ?_⟩
      show inn (joinAll (srt (closedOf l) (closedOf l).length)) p ↔ _
      rw [j3', parts]
      constructor
      · exact .inl
      · rintro (h1 | ⟨y, hy, e1, e2, _⟩ | ⟨y, hy, e1, _⟩)
        · exact h1
        · exact absurd e2 (hno y hy e1)
        · exact absurd (List.any_eq_true.2 ⟨y, hy, decide_eq_true e1⟩) hst
end Go.Proofs.YtajifebphcgcpaaDoor.Sets

namespace Go.Proofs.YtajifebphcgcpaaDoor.Sets
set_option linter.unusedVariables false
set_option linter.unusedSimpArgs false

def touch (x y : Rg) : Bool := decide (lo y ≤ hi x + 1 ∧ lo x ≤ hi y + 1)
def mrg (x y : Rg) : Rg := (if lo x ≤ lo y then x.1 else y.1, if hi x ≤ hi y then y.2 else x.2)
theorem lo_mrg (x y : Rg) (hx : Okr x) (hy : Okr y) : lo (mrg x y) = min (lo x) (lo y) := by
  unfold mrg
  by_cases h : lo x ≤ lo y
  · rw [if_pos h, Nat.min_eq_left h]; unfold lo; rfl
  · rw [if_neg h, Nat.min_eq_right (by omega)]; unfold lo; rfl
theorem hi_mrg (x y : Rg) (hx : Okr x) (hy : Okr y) : hi (mrg x y) = max (hi x) (hi y) := by
  unfold mrg
  by_cases h : hi x ≤ hi y
  · rw [if_pos h, Nat.max_eq_right h]; unfold hi; rfl
  · rw [if_neg h, Nat.max_eq_left (by omega)]; unfold hi; rfl
theorem mrg_okr {x y : Rg} (hx : Okr x) (hy : Okr y) : Okr (mrg x y) := by
  refine ⟨?_, ?_, ?_⟩
  · unfold mrg; simp only; split; exact hx.1; exact hy.1
  · unfold mrg; simp only; split; exact hy.2.1; exact hx.2.1
  · rw [lo_mrg x y hx hy, hi_mrg x y hx hy]; have := hx.2.2; have := hy.2.2; omega
theorem mrg_has {x y : Rg} (hx : Okr x) (hy : Okr y) (ht : touch x y = true) (p : Nat) : has (mrg x y) p ↔ has x p ∨ has y p := by
  have ht := of_decide_eq_true ht
  unfold has
  rw [lo_mrg x y hx hy, hi_mrg x y hx hy]
  have := hx.2.2
  have := hy.2.2
  constructor
  · rintro ⟨h1, h2⟩
    by_cases a : lo x ≤ p ∧ p ≤ hi x
    · exact .inl a
    · exact .inr ⟨by omega, by omega⟩
  · rintro (⟨h1, h2⟩ | ⟨h1, h2⟩) <;> exact ⟨by omega, by omega⟩
theorem canon_one {x : Rg} (hx : Okr x) : Canon [x] := ⟨by simpa using hx, List.pairwise_singleton _ _⟩
theorem two_one {x y : Rg} (hx : Okr x) (hy : Okr y) (ht : touch x y = true) : set9 [x, y] = [mrg x y] := by
  obtain ⟨h1, h2⟩ := set9_ok [x, y] (by simp [hx, hy])
  refine canon_unique h1 (canon_one (mrg_okr hx hy)) fun p => ?_
  rw [h2, inn_one, mrg_has hx hy ht, inn_cons, inn_one]
theorem two_two {x y : Rg} (hx : Okr x) (hy : Okr y) (ht : touch x y = false) : (set9 [x, y]).length = 2 := by
  obtain ⟨h1, h2⟩ := set9_ok [x, y] (by simp [hx, hy])
  have ht := of_decide_eq_false ht
  have k1 := hx.2.2
  have k2 := hy.2.2
  by_cases c : hi x + 1 < lo y
  · rw [canon_unique h1 (m := [x, y]) ⟨by simp [hx, hy], by simp [c]⟩ h2]; rfl
  · rw [canon_unique h1 (m := [y, x]) ⟨by simp [hx, hy], by simp; omega⟩ (fun p => by rw [h2, inn_cons, inn_one, inn_cons, inn_one, or_comm])]; rfl
/-- Two numbers in order, as the reference orders them. -/
def rng (a b : Nat) : Rg := if a = 0 ∨ (b ≠ 0 ∧ b < a) then (b, a) else (a, b)
theorem rng_okr {a b : Nat} (ha : a < 4294967296) (hb : b < 4294967296) : Okr (rng a b) := by
  unfold rng
  split
  · refine ⟨hb, ha, ?_⟩
    unfold lo hi; simp only; split <;> split <;> omega
  · refine ⟨ha, hb, ?_⟩
    unfold lo hi; simp only; split <;> split <;> omega
/-- Merging as the code goes about it. -/
def goMerge (s t : Rg) : Rg × Bool :=
  if s = t then (s, true)
  else if s.1 ≠ 0 ∧ t.1 ≠ 0 then
    let u := if s.1 > t.1 then t else s
    let v := if s.1 > t.1 then s else t
    if (u.2 ≥ v.2 ∧ v.2 ≠ 0) ∨ u.2 = 0 then (u, true)
    else if u.2 + 1 ≥ v.1 then ((u.1, v.2), true)
    else (s, false)
  else if s.1 = 0 then (if t.2 = 0 then (t, true) else (s, false))
  else if s.2 = 0 then (s, true) else (s, false)
theorem goMerge_eq {s t : Rg} (hs : Okr s) (ht : Okr t) : goMerge s t = if touch s t = true then (mrg s t, true) else (s, false) := by
  obtain ⟨a, b⟩ := s
  obtain ⟨c, d⟩ := t
  obtain ⟨a1, b1, h1⟩ := hs
  obtain ⟨c1, d1, h2⟩ := ht
  have e1 : (a = 0 ∧ lo (a, b) = 4294967297) ∨ (a ≠ 0 ∧ lo (a, b) = a) := by unfold lo; simp only; split <;> omega
  have e2 : (b = 0 ∧ hi (a, b) = 4294967297) ∨ (b ≠ 0 ∧ hi (a, b) = b) := by unfold hi; simp only; split <;> omega
  have e3 : (c = 0 ∧ lo (c, d) = 4294967297) ∨ (c ≠ 0 ∧ lo (c, d) = c) := by unfold lo; simp only; split <;> omega
  have e4 : (d = 0 ∧ hi (c, d) = 4294967297) ∨ (d ≠ 0 ∧ hi (c, d) = d) := by unfold hi; simp only; split <;> omega
  unfold goMerge touch mrg
  simp only [Prod.mk.injEq, decide_eq_true_eq] at *
  generalize lo (a, b) = A at *
  generalize hi (a, b) = B at *
  generalize lo (c, d) = C at *
  generalize hi (c, d) = D at *
  by_cases k1 : a = c ∧ b = d
  · obtain ⟨rfl, rfl⟩ := k1
    rw [if_pos ⟨rfl, rfl⟩, if_pos (by omega)]
    refine Prod.ext (Prod.ext ?_ ?_) rfl <;> simp
  rw [if_neg k1]
  by_cases k2 : a ≠ 0 ∧ c ≠ 0
  · rw [if_pos k2]
    by_cases k3 : a > c
    · simp only [if_pos k3]
      by_cases k4 : (d ≥ b ∧ b ≠ 0) ∨ d = 0
      · rw [if_pos k4, if_pos (by omega)]
        refine Prod.ext (Prod.ext ?_ ?_) rfl <;> simp only <;> split <;> omega
      · rw [if_neg k4]
        by_cases k5 : d + 1 ≥ a
        · rw [if_pos k5, if_pos (by omega)]
          refine Prod.ext (Prod.ext ?_ ?_) rfl <;> simp only <;> split <;> omega
        · rw [if_neg k5, if_neg (by omega)]
    · simp only [if_neg k3]
      by_cases k4 : (b ≥ d ∧ d ≠ 0) ∨ b = 0
      · rw [if_pos k4, if_pos (by omega)]
        refine Prod.ext (Prod.ext ?_ ?_) rfl <;> simp only <;> split <;> omega
      · rw [if_neg k4]
        by_cases k5 : b + 1 ≥ c
        · rw [if_pos k5, if_pos (by omega)]
          refine Prod.ext (Prod.ext ?_ ?_) rfl <;> simp only <;> split <;> omega
        · rw [if_neg k5, if_neg (by omega)]
  · rw [if_neg k2]
    by_cases k3 : a = 0
    · rw [if_pos k3]
      by_cases k4 : d = 0
      · rw [if_pos k4, if_pos (by omega)]
        refine Prod.ext (Prod.ext ?_ ?_) rfl <;> simp only <;> split <;> omega
      · rw [if_neg k4, if_neg (by omega)]
    · rw [if_neg k3]
      by_cases k4 : b = 0
      · rw [if_pos k4, if_pos (by omega)]
        refine Prod.ext (Prod.ext ?_ ?_) rfl <;> simp only <;> split <;> omega
      · rw [if_neg k4, if_neg (by omega)]
end Go.Proofs.YtajifebphcgcpaaDoor.Sets

namespace Go.Proofs.YtajifebphcgcpaaDoor.Sets
set_option linter.unusedVariables false
set_option linter.unusedSimpArgs false

/-- Whether a range stands ahead of a number and has it not (0: behind all). -/
def lessB (x : Rg) (q : Nat) : Bool := decide ((x.2 < q ∨ q = 0) ∧ x.2 ≠ 0)
theorem lessB_iff {x : Rg} (hx : x.2 < 4294967296) (q : Nat) (hq : q < 4294967296) : lessB x q = true ↔ hi x < (if q = 0 then 4294967297 else q) := by
  unfold lessB hi
  rw [decide_eq_true_eq]
  split <;> split <;> omega
/-- How many stand ahead of a number. -/
def idx (l : List Rg) (q : Nat) : Nat := (l.takeWhile fun x => lessB x q).length
/-- A range that takes in what touches it of those behind. -/
def sw : Rg → List Rg → Rg × List Rg
  | x, [] => (x, [])
  | x, y :: l => if touch x y = true then sw (mrg x y) l else (x, y :: l)
theorem sw_ok : ∀ (q : List Rg) (x : Rg), Okr x → Canon q → (∀ y ∈ q, lo x ≤ lo y) →
    Canon ((sw x q).1 :: (sw x q).2) ∧ lo (sw x q).1 = lo x ∧ ∀ p, inn ((sw x q).1 :: (sw x q).2) p ↔ has x p ∨ inn q p
  | [], x, hx, _, _ => ⟨canon_one hx, rfl, fun p => inn_cons⟩
  | y :: l, x, hx, hq, hle => by
    unfold sw
    by_cases ht : touch x y = true
    · rw [if_pos ht]
      have hl : lo (mrg x y) = lo x := by rw [lo_mrg x y hx hq.head]; have := hle y (by simp); omega
      obtain ⟨k1, k2, k3⟩ := sw_ok l (mrg x y) (mrg_okr hx hq.head) hq.tail (fun z hz => by rw [hl]; exact hle z (by simp [hz]))
      refine ⟨k1, by rw [k2, hl], fun p => ?_⟩
      rw [k3, mrg_has hx hq.head ht, inn_cons, or_assoc]
    · rw [if_neg ht]
      have hnt : ¬ (lo y ≤ hi x + 1 ∧ lo x ≤ hi y + 1) := fun h => ht (decide_eq_true h)
      have h1 := hle y (by simp)
      have h2 := hq.head.2.2
      refine ⟨⟨?_, ?_⟩, rfl, fun p => inn_cons⟩
      · intro z hz
        rcases List.mem_cons.1 hz with rfl | hz
        · exact hx
        · exact hq.1 z hz
      · refine List.pairwise_cons.2 ⟨fun z hz => ?_, hq.2⟩
        show hi x + 1 < lo z
        rcases List.mem_cons.1 hz with rfl | hz
        · omega
        · have := (List.pairwise_cons.1 hq.2).1 z hz
          omega
theorem canon_app {p q : List Rg} : Canon (p ++ q) ↔ Canon p ∧ Canon q ∧ ∀ x ∈ p, ∀ y ∈ q, hi x + 1 < lo y := by
  unfold Canon
  rw [List.pairwise_append]
  constructor
  · rintro ⟨h1, h2, h3, h4⟩
    exact ⟨⟨fun x hx => h1 x (List.mem_append_left _ hx), h2⟩, ⟨fun x hx => h1 x (List.mem_append_right _ hx), h3⟩, h4⟩
  · rintro ⟨⟨h1, h2⟩, ⟨h3, h4⟩, h5⟩
    refine ⟨fun x hx => ?_, h2, h4, h5⟩
    rcases List.mem_append.1 hx with hx | hx
    · exact h1 x hx
    · exact h3 x hx
/-- The ranges behind a range has been put in. -/
def insB (p : List Rg) (v : Rg) (q : List Rg) : List Rg :=
  match q with
  | [] => p ++ [v]
  | z :: q' => if touch z v = true then p ++ (sw (mrg z v) q').1 :: (sw (mrg z v) q').2 else p ++ v :: z :: q'
def insA (p : List Rg) (v : Rg) (q : List Rg) : List Rg :=
  if p = [] then insB p v q else
  if touch (p.getD (p.length - 1) d0) v = true then p.take (p.length - 1) ++ (sw (mrg (p.getD (p.length - 1) d0) v) q).1 :: (sw (mrg (p.getD (p.length - 1) d0) v) q).2 else insB p v q
def ins (s : List Rg) (v : Rg) : List Rg := insA (s.take (idx s v.1)) v (s.drop (idx s v.1))
theorem touch_comm (x y : Rg) : touch x y = touch y x := by unfold touch; rw [Bool.eq_iff_iff, decide_eq_true_eq, decide_eq_true_eq]; exact And.comm
theorem insB_ok {p q : List Rg} {v : Rg} (h : Canon (p ++ q)) (hv : Okr v) (hp : ∀ x ∈ p, hi x + 1 < lo v) (hq : ∀ y ∈ q, lo v ≤ hi y) :
    Canon (insB p v q) ∧ ∀ k, inn (insB p v q) k ↔ inn (p ++ q) k ∨ has v k := by
  obtain ⟨h1, h2, h3⟩ := canon_app.1 h
  unfold insB
  cases q with
  | nil =>
    refine ⟨canon_snoc.2 ⟨h1, hv, hp⟩, fun k => ?_⟩
    rw [inn_append, inn_one, List.append_nil]
  | cons z q' =>
    simp only
    have hz := h2.head
    by_cases ht : touch z v = true
    · rw [if_pos ht]
      have hm := mrg_okr hz hv
      have hl := lo_mrg z v hz hv
      obtain ⟨k1, k2, k3⟩ := sw_ok q' (mrg z v) hm h2.tail (fun y hy => by
        have := (List.pairwise_cons.1 h2.2).1 y hy
        have := hz.2.2
        rw [hl]; omega)
      refine ⟨canon_app.2 ⟨h1, k1, fun x hx y hy => ?_⟩, fun k => ?_⟩
      · have a1 := hp x hx
        have a2 := h3 x hx z (by simp)
        have : hi x + 1 < lo (sw (mrg z v) q').1 := by rw [k2, hl]; omega
        rcases List.mem_cons.1 hy with rfl | hy
        · exact this
        · have b1 := (List.pairwise_cons.1 k1.2).1 y hy
          have b2 := k1.head.2.2
          omega
      · rw [inn_append, k3, inn_append, inn_cons, mrg_has hz hv ht]
        constructor
        · rintro (a | (a | a) | a)
          · exact .inl (.inl a)
          · exact .inl (.inr (.inl a))
          · exact .inr a
          · exact .inl (.inr (.inr a))
        · rintro ((a | a | a) | a)
          · exact .inl a
          · exact .inr (.inl (.inl a))
          · exact .inr (.inr a)
          · exact .inr (.inl (.inr a))
    · rw [if_neg ht]
      have hnt : ¬ (lo v ≤ hi z + 1 ∧ lo z ≤ hi v + 1) := fun h => ht (decide_eq_true h)
      have a0 := hq z (by simp)
      refine ⟨canon_app.2 ⟨h1, ⟨?_, ?_⟩, fun x hx y hy => ?_⟩, fun k => ?_⟩
      · intro y hy
        rcases List.mem_cons.1 hy with rfl | hy
        · exact hv
        · exact h2.1 y hy
      · refine List.pairwise_cons.2 ⟨fun y hy => ?_, h2.2⟩
        rcases List.mem_cons.1 hy with rfl | hy
        · omega
        · have := (List.pairwise_cons.1 h2.2).1 y hy
          have := hz.2.2
          omega
      · rcases List.mem_cons.1 hy with rfl | hy
        · exact hp x hx
        · exact h3 x hx y hy
      · rw [inn_append, inn_cons, inn_append]
        constructor
        · rintro (a | a | a)
          · exact .inl (.inl a)
          · exact .inr a
          · exact .inl (.inr a)
        · rintro ((a | a) | a)
          · exact .inl a
          · exact .inr (.inr a)
          · exact .inr (.inl a)
theorem insA_ok {p q : List Rg} {v : Rg} (h : Canon (p ++ q)) (hv : Okr v) (hp : ∀ x ∈ p, hi x < lo v) (hq : ∀ y ∈ q, lo v ≤ hi y) :
    Canon (insA p v q) ∧ ∀ k, inn (insA p v q) k ↔ inn (p ++ q) k ∨ has v k := by
  unfold insA
  rcases List.eq_nil_or_concat p with rfl | ⟨t, y, rfl⟩
  · rw [if_pos rfl]
    exact insB_ok h hv (by simp) hq
  · rw [List.concat_eq_append] at *
    rw [if_neg (by simp), last_app]
    have hy0 : Okr y := h.1 y (by simp)
    have hyv := hp y (by simp)
    have hy2 := hy0.2.2
    obtain ⟨h1, h2, h3⟩ := canon_app.1 h
    obtain ⟨t1, _, t3⟩ := canon_snoc.1 h1
    by_cases ht : touch y v = true
    · rw [if_pos ht]
      have ek : (t ++ [y]).take ((t ++ [y]).length - 1) = t := by simp
      rw [ek]
      have hm := mrg_okr hy0 hv
      have hl : lo (mrg y v) = lo y := by rw [lo_mrg y v hy0 hv]; omega
      obtain ⟨k1, k2, k3⟩ := sw_ok q (mrg y v) hm h2 (fun z hz => by
        have := h3 y (by simp) z hz
        rw [hl]; omega)
      refine ⟨canon_app.2 ⟨t1, k1, fun x hx z hz => ?_⟩, fun k => ?_⟩
      · have a1 := t3 x hx
        have : hi x + 1 < lo (sw (mrg y v) q).1 := by rw [k2, hl]; exact a1
        rcases List.mem_cons.1 hz with rfl | hz
        · exact this
        · have b1 := (List.pairwise_cons.1 k1.2).1 z hz
          have b2 := k1.head.2.2
          omega
      · rw [inn_append, k3, inn_append, inn_append, inn_one, mrg_has hy0 hv ht]
        constructor
        · rintro (a | (a | a) | a)
          · exact .inl (.inl (.inl a))
          · exact .inl (.inl (.inr a))
          · exact .inr a
          · exact .inl (.inr a)
        · rintro (((a | a) | a) | a)
          · exact .inl a
          · exact .inr (.inl (.inl a))
          · exact .inr (.inr a)
          · exact .inr (.inl (.inr a))
    · rw [if_neg ht]
      have hnt : ¬ (lo v ≤ hi y + 1 ∧ lo y ≤ hi v + 1) := fun h => ht (decide_eq_true h)
      have hv2 := hv.2.2
      have hyl : hi y + 1 < lo v := by omega
      exact insB_ok h hv (fun x hx => by
        rcases List.mem_append.1 hx with hx | hx
        · have := t3 x hx; omega
        · simp at hx; subst hx; exact hyl) hq
theorem take_idx (s : List Rg) (q : Nat) : s.take (idx s q) = s.takeWhile fun x => lessB x q := by
  unfold idx
  conv => lhs; arg 2; rw [← List.takeWhile_append_dropWhile (p := fun x => lessB x q) (l := s)]
  exact List.take_left
theorem drop_idx (s : List Rg) (q : Nat) : s.drop (idx s q) = s.dropWhile fun x => lessB x q := by
  unfold idx
  conv => lhs; arg 2; rw [← List.takeWhile_append_dropWhile (p := fun x => lessB x q) (l := s)]
  exact List.drop_left
theorem lo_eq {v : Rg} : (if v.1 = 0 then 4294967297 else v.1) = lo v := rfl
theorem dropWhile_all (s : List Rg) (f : Rg → Bool) (hm : s.Pairwise fun x y => f y = true → f x = true) : ∀ y ∈ s.dropWhile f, f y = false := by
  induction s with
  | nil => simp
  | cons x s ih =>
    obtain ⟨h1, h2⟩ := List.pairwise_cons.1 hm
    rw [List.dropWhile_cons]
    by_cases hx : f x = true
    · rw [if_pos hx]; exact ih h2
    · rw [if_neg hx]
      intro y hy
      rcases List.mem_cons.1 hy with rfl | hy
      · simpa using hx
      · by_cases hy' : f y = true
        · exact absurd (h1 y hy hy') hx
        · simpa using hy'
theorem takeWhile_all (s : List Rg) (f : Rg → Bool) : ∀ y ∈ s.takeWhile f, f y = true := by
  induction s with
  | nil => simp
  | cons x s ih =>
    rw [List.takeWhile_cons]
    by_cases hx : f x = true
    · rw [if_pos hx]
      intro y hy
      rcases List.mem_cons.1 hy with rfl | hy
      · exact hx
      · exact ih y hy
    · rw [if_neg hx]; simp
theorem canon_mono {s : List Rg} (h : Canon s) (q : Nat) (hq : q < 4294967296) : s.Pairwise fun x y => lessB y q = true → lessB x q = true := by
  refine h.2.imp_of_mem fun {x y} hx hy hxy hl => ?_
  rw [lessB_iff (h.1 y hy).2.1 q hq] at hl
  rw [lessB_iff (h.1 x hx).2.1 q hq]
  have := (h.1 y hy).2.2
  omega
theorem ins_ok {s : List Rg} {v : Rg} (h : Canon s) (hv : Okr v) : Canon (ins s v) ∧ ∀ k, inn (ins s v) k ↔ inn s k ∨ has v k := by
  have hap : s.take (idx s v.1) ++ s.drop (idx s v.1) = s := List.take_append_drop _ _
  have := insA_ok (p := s.take (idx s v.1)) (q := s.drop (idx s v.1)) (v := v) (by rw [hap]; exact h) hv
    (fun x hx => by
      rw [take_idx] at hx
      have h1 := takeWhile_all _ _ x hx
      have hm : x ∈ s := (List.takeWhile_sublist _).subset hx
      rw [lessB_iff (h.1 x hm).2.1 _ hv.1, lo_eq] at h1
      exact h1)
    (fun y hy => by
      rw [drop_idx] at hy
      have h1 := dropWhile_all s _ (canon_mono h v.1 hv.1) y hy
      have hm : y ∈ s := (List.dropWhile_sublist _).subset hy
      have : ¬ (lessB y v.1 = true) := by rw [h1]; simp
      rw [lessB_iff (h.1 y hm).2.1 _ hv.1, lo_eq] at this
      omega)
  rw [hap] at this
  exact this
/-- A row of ranges put in one by one: the reference's own set. -/
theorem fold_ins : ∀ (l s : List Rg), Canon s → (∀ x ∈ l, Okr x) → Canon (l.foldl ins s) ∧ ∀ k, inn (l.foldl ins s) k ↔ inn s k ∨ inn l k
  | [], s, h, _ => ⟨h, fun k => ⟨.inl, fun h => h.resolve_right inn_nil⟩⟩
  | x :: l, s, h, hl => by
    obtain ⟨h1, h2⟩ := ins_ok h (hl x (by simp))
    obtain ⟨k1, k2⟩ := fold_ins l (ins s x) h1 (fun y hy => hl y (by simp [hy]))
    refine ⟨k1, fun k => ?_⟩
    show inn (l.foldl ins (ins s x)) k ↔ _
    rw [k2, h2, inn_cons, or_assoc]
theorem canon_nil : Canon [] := ⟨by simp, List.Pairwise.nil⟩
theorem fold_set9 (l : List Rg) (hl : ∀ x ∈ l, Okr x) : l.foldl ins [] = set9 l := by
  obtain ⟨h1, h2⟩ := fold_ins l [] canon_nil hl
  obtain ⟨k1, k2⟩ := set9_ok l hl
  refine canon_unique h1 k1 fun p => ?_
  rw [h2, k2]
  exact ⟨fun h => h.resolve_left inn_nil, .inr⟩
end Go.Proofs.YtajifebphcgcpaaDoor.Sets
