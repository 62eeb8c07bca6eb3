/- Whether a set has a number, or an asterisk: the code's search, and the set's points. SeqSet.Contains, SeqSet.Dynamic, impl.SeqHas and impl.SeqMoves by hand. FnSeqHas, the law's walk: out of the contracts of both sides. -/
import Derived.Test.YtajifebphcgcpaaDoorMF
import Derived.Test.YtajifebphcgcpaaDoorPFnSeqHasx2
namespace Go.Proofs.YtajifebphcgcpaaDoor.OfP
open Go.RowKit Go.Proofs.YtajifebphcgcpaaDoor.PFnSeqOf Go.Proofs.YtajifebphcgcpaaDoorW.PrintWords Go.Proofs.YtajifebphcgcpaaDoorW.PrintLast Go.Proofs.YtajifebphcgcpaaDoor.Sets Go.Proofs.YtajifebphcgcpaaDoor.Own
set_option linter.unusedVariables false
set_option linter.unusedSimpArgs false

/-- Whether a range has a number. -/
def inB (x : Rg) (q : Nat) : Bool := if q = 0 then decide (x.2 = 0) else decide (x.1 ≠ 0 ∧ x.1 ≤ q ∧ (q ≤ x.2 ∨ x.2 = 0))
theorem contains_is (x : Rg) (q : Nat) : goimap_Seq_Contains.f (x.1 : Int) (x.2 : Int) (q : Int) = some (inB x q) := by
  unfold goimap_Seq_Contains.f inB
  have hz : (((x.2 : Nat) : Int) == 0) = decide (x.2 = 0) := by rw [Bool.eq_iff_iff]; simp
  by_cases h0 : q = 0
  · rw [if_pos (by omega), if_pos h0, hz]
  · rw [if_neg (by omega), if_neg h0]
    repeat' split
    all_goals
      congr 1
      rw [Bool.eq_iff_iff]
      simp
      omega
def contB (l : List Rg) (q : Nat) : Bool := decide (idx l q < l.length) && inB (l.getD (idx l q) d0) q
theorem search_runB (l : List Rg) (q : Nat) (hm : l.Pairwise fun x y => lessB y q = true → lessB x q = true) (hn : l.length < 1000000) : ∀ (d a b : Nat), b - a ≤ d → a ≤ b → b < l.length → (∀ j, j < a → lessB (l.getD j d0) q = true) → (b = l.length - 1 ∨ lessB (l.getD b d0) q = false) →
    goimap_SeqSet_search.l0 (d + 1) (q : Int) (a : Int) (b : Int) (l.map enc47) = some ((idx l q : Int), contB l q)
  | d, a, b, hd, hab, hb, h1, h2 => by
    rw [goimap_SeqSet_search.l0]
    by_cases hlt : a < b
    · obtain ⟨d, rfl⟩ : ∃ d', d = d' + 1 := ⟨d - 1, by omega⟩
      have hw : wrap64 ((a : Int) + (b : Int)) / 2 = (((a + b) / 2 : Nat) : Int) := by unfold wrap64; omega
      have hmid : (a + b) / 2 < b := by omega
      rw [if_pos (by omega), hw, if_pos (by omega), if_pos (by rw [List.length_map]; omega), OfP.rd47, show (enc47 (l.getD ((a + b) / 2) d0)).f0 = ((l.getD ((a + b) / 2) d0).1 : Int) from rfl, show (enc47 (l.getD ((a + b) / 2) d0)).f1 = ((l.getD ((a + b) / 2) d0).2 : Int) from rfl, less_tells]
      rw [Option.bind_some]
      by_cases hless : lessB (l.getD ((a + b) / 2) d0) q = true
      · rw [if_pos hless, show wrap64 (((((a + b) / 2 : Nat) : Int)) + 1) = (((a + b) / 2 + 1 : Nat) : Int) by unfold wrap64; omega]
        exact search_runB l q hm hn d _ b (by omega) (by omega) hb (fun j hj => by
          rcases Nat.lt_or_ge j ((a + b) / 2) with h | h
          · exact mono_get hm h (by omega) hless
          · rw [show j = (a + b) / 2 by omega]; exact hless) h2
      · rw [if_neg hless]
        exact search_runB l q hm hn d a _ (by omega) (by omega) (by omega) h1 (.inr (by simpa using hless))
    · obtain rfl : a = b := by omega
      rw [if_neg (by omega), if_neg (by omega), if_pos (by omega), if_pos (by rw [List.length_map]; omega), OfP.rd47, show (enc47 (l.getD a d0)).f0 = ((l.getD a d0).1 : Int) from rfl, show (enc47 (l.getD a d0)).f1 = ((l.getD a d0).2 : Int) from rfl, less_tells, Option.bind_some]
      by_cases hless : lessB (l.getD a d0) q = true
      · rw [if_pos hless]
        have hal : a = l.length - 1 := by
          rcases h2 with h | h
          · exact h
          · rw [hless] at h; cases h
        have hi : idx l q = l.length := idx_eq (a := l.length) (Nat.le_refl _) (fun j hj => by
          rcases Nat.lt_or_ge j a with h | h
          · exact h1 j h
          · rw [show j = a by omega]; exact hless) (fun h => absurd h (Nat.lt_irrefl _))
        unfold contB
        rw [hi, List.length_map, show decide (l.length < l.length) = false from decide_eq_false (Nat.lt_irrefl _), Bool.false_and]
      · rw [if_neg hless]
        have hi : idx l q = a := idx_eq (Nat.le_of_lt hb) h1 (fun _ => by simpa using hless)
        rw [contains_is, Option.bind_some]
        unfold contB
        rw [hi, show decide (a < l.length) = true from decide_eq_true hb, Bool.true_and]
theorem search_is {l : List Rg} (h : Canon l) (hn : l.length < 1000000) {q : Nat} (hq : q < 4294967296) : ∃ k, goimap_SeqSet_search.f k (l.map enc47) (q : Int) = some ((idx l q : Int), contB l q) := by
  unfold goimap_SeqSet_search.f
  rw [List.length_map]
  by_cases h0 : l.length = 0
  · obtain rfl := List.eq_nil_of_length_eq_zero h0
    refine ⟨1, ?_⟩
    have hw : wrap64 ((([] : List Rg).length : Int) - 1) = -1 := by show wrap64 ((0 : Int) - 1) = -1; unfold wrap64; omega
    rw [hw, goimap_SeqSet_search.l0, if_neg (by decide), if_pos (by decide)]
    rfl
  · have hw : wrap64 ((l.length : Int) - 1) = ((l.length - 1 : Nat) : Int) := by unfold wrap64; omega
    rw [hw]
    exact ⟨_, search_runB l q (canon_mono h q hq) hn (l.length - 1) 0 (l.length - 1) (by omega) (by omega) (by omega) (fun j hj => by omega) (.inl rfl)⟩
theorem search_is_any {l : List Rg} (h : Canon l) (hn : l.length < 1000000) {q : Nat} (hq : q < 4294967296) {w : World} {base : Nat} {v : Value} (hr : RowQ w base v l) :
    Calls Tryd.prog 45 #[.agg #[v], .int .u32 (q : Int)] w fun e w' => e = .returned (.tuple #[.int .i64 (idx l q : Int), .bool (contB l q)]) ∧ Below w.heap.size w w' := by
  obtain ⟨A, c, rfl, hc, hC⟩ := hr.reads (by omega)
  obtain ⟨k, hk⟩ := search_is h hn hq
  have := goimap_SeqSet_search.calls k A c (l.map enc47) (q : Int) _ _ w hC (by rw [List.length_map]; exact hc) hk
  rw [List.length_map] at this
  exact this
theorem inB_has {x : Rg} {q : Nat} (h1 : 1 ≤ q) (h2 : q < 4294967296) (hx : Okr x) : inB x q = true ↔ has x q := by
  have h3 := hx.1
  have h4 := hx.2.1
  unfold inB has lo hi
  rw [if_neg (by omega), decide_eq_true_eq]
  repeat' split
  all_goals omega
theorem less_hi {x : Rg} {q : Nat} (h1 : 1 ≤ q) (h2 : q < 4294967296) : lessB x q = true ↔ hi x < q := by
  unfold lessB hi
  simp
  split <;> omega
theorem idx_cons (x : Rg) (l : List Rg) (q : Nat) : idx (x :: l) q = if lessB x q = true then idx l q + 1 else 0 := by
  unfold idx
  rw [List.takeWhile_cons]
  split <;> rfl
theorem at_idx : ∀ (l : List Rg) (q : Nat), idx l q < l.length → lessB (l.getD (idx l q) d0) q = false
  | [], q, h => by simp at h
  | x :: l, q, h => by
    rw [idx_cons] at h ⊢
    by_cases hx : lessB x q = true
    · rw [if_pos hx] at h ⊢
      rw [List.getD_cons_succ]
      exact at_idx l q (by simpa using h)
    · rw [if_neg hx, List.getD_cons_zero]
      simpa using hx
theorem contB_inn {l : List Rg} (h : Canon l) {q : Nat} (h1 : 1 ≤ q) (h2 : q < 4294967296) : contB l q = true ↔ inn l q := by
  obtain ⟨hok, hpw⟩ := h
  unfold contB
  rw [Bool.and_eq_true, decide_eq_true_eq]
  constructor
  · rintro ⟨hlt, hb⟩
    have hx : l.getD (idx l q) d0 ∈ l := by rw [getD_of_lt l _ hlt]; exact List.getElem_mem _
    exact ⟨_, hx, (inB_has h1 h2 (hok _ hx)).1 hb⟩
  · rintro ⟨x, hx, hxq⟩
    have hnl : lessB x q = false := by
      cases hq : lessB x q with
      | false => rfl
      | true => have := (less_hi h1 h2).1 hq; have := hxq.2; omega
    obtain ⟨j, hj, rfl⟩ := List.getElem_of_mem hx
    have hij : idx l q ≤ j := by
      rcases Nat.lt_or_ge j (idx l q) with h | h
      · exfalso
        have ht : l[j] ∈ l.takeWhile fun x => lessB x q := by
          have hlen : j < (l.takeWhile fun x => lessB x q).length := h
          have he : (l.takeWhile fun x => lessB x q)[j] = l[j] := (List.takeWhile_prefix _).getElem hlen
          rw [← he]; exact List.getElem_mem _
        have := takeWhile_all l (fun x => lessB x q) _ ht
        rw [this] at hnl; cases hnl
      · exact h
    have hlt : idx l q < l.length := by omega
    refine ⟨hlt, ?_⟩
    have hx' : l.getD (idx l q) d0 = l[idx l q] := getD_of_lt l _ hlt
    rw [hx']
    rcases Nat.eq_or_lt_of_le hij with he | hl
    · have : l[idx l q] = l[j] := by congr 1
      rw [this]
      exact (inB_has h1 h2 (hok _ hx)).2 hxq
    · exfalso
      have hpj := (List.pairwise_iff_getElem.1 hpw) (idx l q) j hlt hj hl
      have hnl2 : lessB l[idx l q] q = false := by
        have hd := at_idx l q hlt
        rw [hx'] at hd
        exact hd
      have h5 : ¬ hi l[idx l q] < q := fun h => by
        have := (less_hi h1 h2).2 h
        rw [this] at hnl2; cases hnl2
      have h6 := hxq.1
      omega
end Go.Proofs.YtajifebphcgcpaaDoor.OfP

namespace Go.Proofs.YtajifebphcgcpaaDoor.Own
open Go.RowKit Go.Lib Sets OfP Go.Proofs.YtajifebphcgcpaaDoorW.PrintWords
set_option linter.unusedVariables false
set_option linter.unusedSimpArgs false

theorem setHas_any {l : List Rg} (h : Canon l) (hn : l.length ≤ 1000) {q : Nat} (h1 : 1 ≤ q) (hq : q < 4294967296) {w : World} {base : Nat} {v : Value} (hr : RowQ w base v l) :
    Calls Tryd.prog 32 #[.agg #[v], .int .u32 (q : Int)] w fun e w' => e = .returned (.bool (contB l q)) ∧ Below w.heap.size w w' := by
  obtain ⟨W0, hW0⟩ : ∃ W0, w.alloc (.cells #[v] 66) = W0 := ⟨_, rfl⟩
  have hb0 : Below w.heap.size w W0 := by rw [← hW0]; exact (Below.refl _ _).alloc (Nat.le_refl _) _
  have hc0 : W0.cell? ⟨w.heap.size, 0, none⟩ = some v := by rw [← hW0]; exact cell_of_row _ _ 0 _ _ _ (heap_alloc_new _ _)
  have hcall := Lib.hid (search_is_any h (by omega) hq (hr.below hb0))
  have hB0 := Lib.hid hb0
  obtain ⟨ok, hok⟩ : ∃ ok, contB l q = ok := ⟨_, rfl⟩
  rw [hok] at hcall ⊢
  have hq1 : ((q : Int) != 0) = true := by rw [bne_iff_ne]; omega
  have hq2 : (q != 0) = true := by rw [bne_iff_ne]; omega
  clear hok h hr hb0
  go_enter Tryd.func32, Tryd.ntmps32
  go_wp2_with fail
  refine (hcall.out).mono ?_
  rintro e w1 ⟨rfl, hb1⟩
  have hB1 := Lib.hid (hB0.out.trans (hb1.mono hB0.out.size))
  clear hb1 hW0
  cases ok with
  | true =>
    go_wp2_with fail
    go_ret
    exact ⟨rfl, hB1.out⟩
  | false =>
    go_wp2_with fail
    go_ret
    exact ⟨rfl, hB1.out⟩
def dynB (l : List Rg) : Bool := decide (0 < l.length) && decide ((l.getD (l.length - 1) d0).2 = 0)
theorem setMoves_any {l : List Rg} (hn : l.length ≤ 1000) {w : World} {base : Nat} {v : Value} (hr : RowQ w base v l) :
    Calls Tryd.prog 33 #[.agg #[v]] w fun e w' => e = .returned (.bool (dynB l)) ∧ Below w.heap.size w w' := by
  obtain ⟨W0, hW0⟩ : ∃ W0, w.alloc (.cells #[v] 66) = W0 := ⟨_, rfl⟩
  have hb0 : Below w.heap.size w W0 := by rw [← hW0]; exact (Below.refl _ _).alloc (Nat.le_refl _) _
  have hc0 : W0.cell? ⟨w.heap.size, 0, none⟩ = some v := by rw [← hW0]; exact cell_of_row _ _ 0 _ _ _ (heap_alloc_new _ _)
  have hr0 := hr.below hb0
  have hB0 := Lib.hid hb0
  clear hr hb0
  rcases hr0.form with ⟨rfl, rfl⟩ | ⟨g, cap, rfl, _, _, hcap⟩
  · clear hr0
    go_enter Tryd.func33, Tryd.ntmps33
    go_wp2_with fail
    go_ret
    exact ⟨rfl, by first | exact hB0.out | exact (Below.refl _ _).alloc (Nat.le_refl _) _⟩
  · rcases Nat.eq_zero_or_pos l.length with h0 | h0
    · obtain rfl := List.eq_nil_of_length_eq_zero h0
      clear hr0 h0
      go_enter Tryd.func33, Tryd.ntmps33
      go_wp2_with fail
      go_ret
      exact ⟨rfl, by first | exact hB0.out | exact (Below.refl _ _).alloc (Nat.le_refl _) _⟩
    · obtain ⟨_, hc1⟩ := hr0.cell (l.length - 1) (by omega)
      obtain ⟨y, hy⟩ : ∃ y, (l.getD (l.length - 1) d0).2 = y := ⟨_, rfl⟩
      rw [hy] at hc1
      have hd : dynB l = decide (y = 0) := by unfold dynB; rw [decide_eq_true h0, hy, Bool.true_and]
      have hz : ((y : Int) == 0) = decide (y = 0) := by rw [Bool.eq_iff_iff]; simp
      have hw1 : IntKind.i64.wrap ((l.length : Int) - 1) = (l.length : Int) - 1 := by rw [IntKind.wrap_i64]; omega
      have hw3 : (0 : Int) ≤ (l.length : Int) - 1 := by omega
      have hw2 : (1 : Int) ≤ (l.length : Int) := by omega
      have hw5 : ((l.length : Int) - 1).toNat = l.length - 1 := by omega
      rw [hd, ← hz]
      clear hr0 hy hd hz
      go_enter Tryd.func33, Tryd.ntmps33
      go_wp2_with fail
      go_ret
      exact ⟨rfl, by first | exact hB0.out | exact (Below.refl _ _).alloc (Nat.le_refl _) _⟩
theorem dyn_inn {l : List Rg} (h : Canon l) : dynB l = true ↔ inn l 4294967297 := by
  obtain ⟨hok, hpw⟩ := h
  unfold dynB
  rw [Bool.and_eq_true, decide_eq_true_eq, decide_eq_true_eq]
  constructor
  · rintro ⟨h0, h2⟩
    have hlt : l.length - 1 < l.length := by omega
    have hx : l.getD (l.length - 1) d0 ∈ l := by rw [getD_of_lt l _ hlt]; exact List.getElem_mem _
    refine ⟨_, hx, ?_, ?_⟩
    · have h3 := (hok _ hx).1
      unfold lo; split <;> omega
    · unfold hi; rw [if_pos h2]; exact Nat.le_refl _
  · rintro ⟨x, hx, hxq⟩
    obtain ⟨j, hj, rfl⟩ := List.getElem_of_mem hx
    have hj0 := (hok _ hx).2.1
    have h2 : l[j].2 = 0 := by
      have := hxq.2
      unfold hi at this
      split at this
      · assumption
      · omega
    have hlast : j = l.length - 1 := by
      rcases Nat.lt_or_ge j (l.length - 1) with h | h
      · exfalso
        have hl : l.length - 1 < l.length := by omega
        have hp := (List.pairwise_iff_getElem.1 hpw) j (l.length - 1) hj hl h
        have ho := (hok _ (List.getElem_mem hl))
        have h3 := ho.1
        unfold hi at hp
        rw [if_pos h2] at hp
        unfold lo at hp
        split at hp <;> omega
      · omega
    refine ⟨by omega, ?_⟩
    rw [← hlast, getD_of_lt l j hj]
    exact h2
def HasIs (s : ByteArray) (b : Bool) (w : World) (e : Ending) (w' : World) : Prop := e = .returned (.tuple #[.bool b, .bool true]) ∧ Below w.heap.size w w'
theorem seqHas_any (s : ByteArray) (hs : s.size ≤ 500) (hok : (setOf s).2 = true) (q : Nat) (h1 : 1 ≤ q) (hq : q < 4294967296) (w : World) (henv : EnvB w.heap.size w) :
    Calls Tryd.prog 18 #[.string s, .int .u32 (q : Int)] w (HasIs s (contB (setOf s).1 q) w) := by
  have hp := Lib.hid (parseSet_any s hs w henv)
  have hok' := Lib.hid hok
  clear henv hok
  go_enter Tryd.func18, Tryd.ntmps18
  go_wp2_with fail
  refine (hp.out).mono ?_
  rintro e w1 ⟨ev, rfl, herr, ⟨v, hv1, hrow, _⟩, hb1⟩
  rw [hok'.out] at herr
  obtain rfl := herr.1 rfl
  have hlen := setOf_len hs
  have hcell : w1.cell? ⟨w.heap.size, 0, none⟩ = some v := cell_of_row w1 _ 0 _ _ _ hv1
  have hcall := Lib.hid (setHas_any (setOf_canon s) (by omega) h1 hq hrow)
  have hb1' := Lib.hid hb1
  clear herr hv1 hrow hb1
  go_wp2_with fail
  refine (hcall.out).mono ?_
  rintro e w2 ⟨rfl, hb2⟩
  have hB2 := Lib.hid (hb1'.out.trans (hb2.mono hb1'.out.size))
  clear hb2
  go_wp2_with fail
  go_ret2
  exact ⟨rfl, hB2.out⟩
theorem seqMoves_any (s : ByteArray) (hs : s.size ≤ 500) (hok : (setOf s).2 = true) (w : World) (henv : EnvB w.heap.size w) :
    Calls Tryd.prog 19 #[.string s] w (HasIs s (dynB (setOf s).1) w) := by
  have hp := Lib.hid (parseSet_any s hs w henv)
  have hok' := Lib.hid hok
  clear henv hok
  go_enter Tryd.func19, Tryd.ntmps19
  go_wp2_with fail
  refine (hp.out).mono ?_
  rintro e w1 ⟨ev, rfl, herr, ⟨v, hv1, hrow, _⟩, hb1⟩
  rw [hok'.out] at herr
  obtain rfl := herr.1 rfl
  have hlen := setOf_len hs
  have hcell : w1.cell? ⟨w.heap.size, 0, none⟩ = some v := cell_of_row w1 _ 0 _ _ _ hv1
  have hcall := Lib.hid (setMoves_any (by omega) hrow)
  have hb1' := Lib.hid hb1
  clear herr hv1 hrow hb1
  go_wp2_with fail
  refine (hcall.out).mono ?_
  rintro e w2 ⟨rfl, hb2⟩
  have hB2 := Lib.hid (hb1'.out.trans (hb2.mono hb1'.out.size))
  clear hb2
  go_wp2_with fail
  go_ret2
  exact ⟨rfl, hB2.out⟩
end Go.Proofs.YtajifebphcgcpaaDoor.Own

namespace Go.Proofs.YtajifebphcgcpaaDoor.Own
open Go.RowKit Go.Lib Sets OfP Go.Proofs.YtajifebphcgcpaaDoorW.PrintWords
set_option linter.unusedVariables false
set_option linter.unusedSimpArgs false

theorem within_is (x : Rg) (q : Nat) : PFnSeqHas.spec_Within9.f (x.1 : Int) (x.2 : Int) (q : Int) = some (inB x q) := by
  rw [← contains_is]
  rfl
theorem within_any (x : Rg) (q : Nat) (w : World) : Calls Tryd.prog 11 #[.agg #[.int .u32 (x.1 : Int), .int .u32 (x.2 : Int)], .int .u32 (q : Int)] w fun e w' => e = .returned (.bool (inB x q)) ∧ Below w.heap.size w w' :=
  PFnSeqHas.spec_Within9.calls _ _ _ _ w (within_is x q)
def anyIn (l : List Rg) (q : Nat) : Bool := l.any fun x => inB x q
def anyStar (l : List Rg) : Bool := l.any fun x => decide (x.2 = 0)
theorem any_take (l : List Rg) (f : Rg → Bool) (j : Nat) (hj : j < l.length) : (l.take (j + 1)).any f = ((l.take j).any f || f (l.getD j d0)) := by
  rw [List.take_succ_eq_append_getElem hj, List.any_append, getD_of_lt l j hj]
  simp
theorem has_same (s : ByteArray) (q : Nat) (h1 : 1 ≤ q) (h2 : q < 4294967296) : contB (setOf s).1 q = anyIn (upto (parts s)).1 q := by
  rw [Bool.eq_iff_iff, contB_inn (setOf_canon s) h1 h2, setOf_set9, (set9_ok _ (upto_okr _)).2]
  unfold anyIn
  rw [List.any_eq_true]
  constructor
  · rintro ⟨x, hx, h⟩; exact ⟨x, hx, (inB_has h1 h2 (upto_okr _ x hx)).2 h⟩
  · rintro ⟨x, hx, h⟩; exact ⟨x, hx, (inB_has h1 h2 (upto_okr _ x hx)).1 h⟩
theorem star_has {x : Rg} (hx : Okr x) : decide (x.2 = 0) = true ↔ has x 4294967297 := by
  have h3 := hx.1
  have h4 := hx.2.1
  rw [decide_eq_true_eq]
  unfold has lo hi
  repeat' split
  all_goals omega
theorem moves_same (s : ByteArray) : dynB (setOf s).1 = anyStar (upto (parts s)).1 := by
  rw [Bool.eq_iff_iff, dyn_inn (setOf_canon s), setOf_set9, (set9_ok _ (upto_okr _)).2]
  unfold anyStar
  rw [List.any_eq_true]
  constructor
  · rintro ⟨x, hx, h⟩; exact ⟨x, hx, (star_has (upto_okr _ x hx)).2 h⟩
  · rintro ⟨x, hx, h⟩; exact ⟨x, hx, (star_has (upto_okr _ x hx)).1 h⟩

set_option maxHeartbeats 2000000 in
set_option maxRecDepth 100000 in
theorem fnSeqHas_walk (s : ByteArray) (q : Int) (w : World) (w0 : s.size ≤ 140737488351232) (wq : (Lit.int .u32 q).wf = true) (henv : EnvS w) :
    Calls Tryd.prog 5 #[.string s, .int .u32 q] w fun e w' => e = .returned (.bool true) ∧ Below w.heap.size w w' := by
  have hq := Go.bounds_u32 wq
  obtain ⟨q, rfl⟩ := Int.eq_ofNat_of_zero_le (show 0 ≤ q by omega)
  have hq2 : q < 4294967296 := by omega
  clear wq hq
  rcases Nat.lt_or_ge 2147483647 s.size with h1 | h1
  · go_enter Tryd.func5, Tryd.ntmps5
    go_wp2_with fail
    go_ret
    exact ⟨rfl, Below.refl _ _⟩
  rcases Nat.lt_or_ge 500 s.size with h2 | h2
  · have hd : decide (500 < (s.size : Int)) = true := decide_eq_true (by omega)
    go_enter Tryd.func5, Tryd.ntmps5
    go_wp2_with fail
    go_ret
    exact ⟨rfl, Below.refl _ _⟩
  rcases Nat.eq_zero_or_pos q with hq0 | hq0
  · subst hq0
    have hd : decide (500 < (s.size : Int)) = false := decide_eq_false (by omega)
    go_enter Tryd.func5, Tryd.ntmps5
    go_wp2_with fail
    go_ret
    exact ⟨rfl, Below.refl _ _⟩
  have hq1 : ((q : Int) == 0) = false := by rw [beq_eq_false_iff_ne]; omega
  have hd5 : decide (500 < (s.size : Int)) = false := decide_eq_false (by omega)
  have hp9 := Lib.hid (parts9_any s (by omega) w)
  have hplen : (upto (parts s)).1.length ≤ 501 := by
    have h3 := upto_len (parts s)
    have h4 : (parts s).length ≤ s.size + 1 := splitN_len s.size s
    omega
  have hsame := Lib.hid (has_same s q hq0 hq2)
  have hmov := Lib.hid (moves_same s)
  replace henv := Lib.hid henv
  obtain ⟨L, hL⟩ : ∃ L, (upto (parts s)).1 = L := ⟨_, rfl⟩
  obtain ⟨ok, hok⟩ : ∃ ok, (upto (parts s)).2 = ok := ⟨_, rfl⟩
  have hok2 : (setOf s).2 = ok := (setOf_ok s).trans hok
  rw [hL] at hplen hsame hmov
  replace hL := Lib.hid hL
  replace hok := Lib.hid hok
  replace hok2 := Lib.hid hok2
  go_enter Tryd.func5, Tryd.ntmps5
  go_wp2_with fail
  refine (hp9.out).mono ?_
  rintro e w1 ⟨v, rfl, hrow, hb1⟩
  rw [hL.out] at hrow
  rw [hok.out]
  have hE1 := Lib.hid (henv.out.below hb1)
  have hB1 := Lib.hid hb1
  replace hrow := Lib.hid hrow
  clear hb1
  cases ok with
  | false =>
    go_wp2_with fail
    go_ret
    exact ⟨rfl, hB1.out⟩
  | true =>
    obtain ⟨A, c, hv, hAc⟩ : ∃ A c, v = .slice A L.length c ∧ (0 < L.length → ∃ g, A = some ⟨g, 0, none⟩ ∧ ∀ i, i < L.length → w1.cell? ⟨g, i * 2, none⟩ = some (.int .u32 ((L.getD i d0).1 : Int)) ∧ w1.cell? ⟨g, i * 2 + 1, none⟩ = some (.int .u32 ((L.getD i d0).2 : Int))) := by
      have hr := hrow.out
      rcases hr.form with ⟨rfl, rfl⟩ | ⟨g, cap, rfl, _, _, _⟩
      · exact ⟨none, 0, rfl, fun h => absurd h (Nat.lt_irrefl _)⟩
      · exact ⟨_, _, rfl, fun _ => ⟨g, rfl, fun i hi => hr.cell i hi⟩⟩
    subst hv
    replace hAc := Lib.hid hAc
    clear hrow
    go_wp2_with fail
    go_loopw [7, 8, 33] (fun s7 s8 s33 wr => ∃ j : Nat, s33 = .int .i64 (j : Int) ∧ j ≤ L.length ∧ s7 = .bool (anyIn (L.take j) q) ∧ s8 = .bool (anyStar (L.take j)) ∧ Hid (Below w1.heap.size w1 wr)) (fun _ _ s33 _ => L.length - (RowKit.intOf s33).toNat)
    case atStart => exact ⟨0, rfl, Nat.zero_le _, rfl, rfl, Below.refl _ _⟩
    case round =>
      obtain ⟨wx, hwx⟩ : ∃ wx : World, wx = wr := ⟨_, rfl⟩
      rw [← hwx] at hrel ⊢
      clear hwx
      obtain ⟨j, rfl, hj, rfl, rfl, hBx⟩ := hrel
      rcases Nat.lt_or_ge j L.length with hlt | hge
      · obtain ⟨g, rfl, hcell⟩ := hAc.out (by omega)
        obtain ⟨hc0, hc1⟩ := hcell j hlt
        replace hc0 := (hBx.out.cell (World.block_lt_of_cell? w1 _ hc0)).trans hc0
        replace hc1 := (hBx.out.cell (World.block_lt_of_cell? w1 _ hc1)).trans hc1
        have ha1 : anyIn (L.take (j + 1)) q = (anyIn (L.take j) q || inB (L.getD j d0) q) := any_take L _ j hlt
        have ha2 : anyStar (L.take (j + 1)) = (anyStar (L.take j) || decide ((L.getD j d0).2 = 0)) := any_take L _ j hlt
        obtain ⟨x, hx⟩ : ∃ x, L.getD j d0 = x := ⟨_, rfl⟩
        rw [hx] at hc0 hc1 ha1 ha2
        obtain ⟨y0, y1⟩ := x
        have hwi := Lib.hid (fun W => within_any (y0, y1) q W)
        have hz : decide (y1 = 0) = ((y1 : Int) == 0) := by rw [Bool.eq_iff_iff]; simp
        obtain ⟨a1, e1⟩ : ∃ a1, anyIn (L.take j) q = a1 := ⟨_, rfl⟩
        obtain ⟨a2, e2⟩ : ∃ a2, anyStar (L.take j) = a2 := ⟨_, rfl⟩
        obtain ⟨b1, f1⟩ : ∃ b1, inB (y0, y1) q = b1 := ⟨_, rfl⟩
        rw [f1] at hwi ha1
        rw [e1] at ha1 ⊢
        rw [e2] at ha2 ⊢
        rw [show ((y0, y1) : Rg).2 = y1 from rfl, hz] at ha2
        replace ha1 := Lib.hid ha1
        replace ha2 := Lib.hid ha2
        have hj2 : (j : Int) < (L.length : Int) := by omega
        clear hcell hx hz e1 e2 f1
        cases a1 with
        | false =>
          go_wp2_with fail
          refine (hwi.out wx).mono ?_
          rintro e w2 ⟨rfl, hb2⟩
          have hc1' := (hb2.cell (World.block_lt_of_cell? wx _ hc1)).trans hc1
          have hB2 := Lib.hid (hBx.out.trans (hb2.mono hBx.out.size))
          clear hb2 hc0 hc1
          cases a2 with
          | false =>
            go_wp2_with fail
            go_roundw
            case rel => exact ⟨j + 1, by go_num, by omega, by rw [ha1.out]; rfl, by rw [ha2.out]; rfl, hB2⟩
            case measure => simp [RowKit.intOf]; omega
          | true =>
            go_wp2_with fail
            go_roundw
            case rel => exact ⟨j + 1, by go_num, by omega, by rw [ha1.out]; rfl, by rw [ha2.out]; rfl, hB2⟩
            case measure => simp [RowKit.intOf]; omega
        | true =>
          cases a2 with
          | false =>
            go_wp2_with fail
            go_roundw
            case rel => exact ⟨j + 1, by go_num, by omega, by rw [ha1.out]; rfl, by rw [ha2.out]; rfl, hBx⟩
            case measure => simp [RowKit.intOf]; omega
          | true =>
            go_wp2_with fail
            go_roundw
            case rel => exact ⟨j + 1, by go_num, by omega, by rw [ha1.out]; rfl, by rw [ha2.out]; rfl, hBx⟩
            case measure => simp [RowKit.intOf]; omega
      · obtain rfl : j = L.length := by omega
        rw [List.take_length]
        have hEx := Lib.hid (hE1.out.below hBx.out)
        have hsh := Lib.hid (seqHas_any s h2 hok2.out q hq0 hq2 wx hEx.out)
        rw [hsame.out] at hsh
        have hBx2 := Lib.hid (hB1.out.trans (hBx.out.mono hB1.out.size))
        have hsm := Lib.hid (fun W h => seqMoves_any s h2 hok2.out W h)
        rw [hmov.out] at hsm
        obtain ⟨r, hr⟩ : ∃ r, anyIn L q = r := ⟨_, rfl⟩
        obtain ⟨m, hm⟩ : ∃ m, anyStar L = m := ⟨_, rfl⟩
        rw [hr] at hsh ⊢
        rw [hm] at hsm ⊢
        clear hr hm hsame hmov hAc
        go_wp2_with fail
        refine (hsh.out).mono ?_
        rintro e w2 ⟨rfl, hb2⟩
        have hE2 := Lib.hid (hEx.out.below hb2)
        have hB2 := Lib.hid (hBx2.out.trans (hb2.mono hBx2.out.size))
        clear hb2
        go_wp2_with fail
        refine (hsm.out w2 hE2.out).mono ?_
        rintro e w3 ⟨rfl, hb3⟩
        have hB3 := Lib.hid (hB2.out.trans (hb3.mono hB2.out.size))
        clear hb3
        cases r <;> cases m
        all_goals
          go_wp2_with fail
          go_ret
          exact ⟨rfl, hB3.out⟩
end Go.Proofs.YtajifebphcgcpaaDoor.Own
