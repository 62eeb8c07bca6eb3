/- The printed spec.Set9 tells what the plain set9 tells. -/
import Derived.Test.YtnokeaiemiiicaaDoorPFnSeqOnex4
import Derived.Test.YtnokeaiemiiicaaDoorInsert
namespace Go.Proofs.YtnokeaiemiiicaaDoor.Own
open Go.RowKit Go.Proofs.YtnokeaiemiiicaaDoorW.PrintWords Go.Proofs.YtnokeaiemiiicaaDoorW.PrintLast Go.Proofs.YtnokeaiemiiicaaDoorW.PrintMore
open Go.Proofs.YtnokeaiemiiicaaDoor.Sets
open Go.Proofs.YtnokeaiemiiicaaDoor.PFnSeqOne (S24 z24 rd_T24 spec_Set9.f spec_Set9.l0 spec_Set9.l1 spec_Set9.l2 spec_Set9.l3 spec_Set9.l4)
set_option linter.unusedVariables false
set_option linter.unusedSimpArgs false

def enc (x : Rg) : S24 := ⟨(x.1 : Int), (x.2 : Int)⟩
theorem rd_enc (l : List Rg) (i : Nat) : rd_T24 (l.map enc) (i : Int) = enc (l.getD i d0) := by
  unfold rd_T24
  rw [Int.toNat_natCast, List.getD_eq_getElem?_getD, List.getD_eq_getElem?_getD, List.getElem?_map]
  cases l[i]? <;> rfl
theorem w64 {i : Nat} (h : i < 4611686018427387904) : wrap64 ((i : Int) + 1) = ((i + 1 : Nat) : Int) := by unfold wrap64; omega
theorem w64m {i : Nat} (h : i < 4611686018427387904) (h0 : 0 < i) : wrap64 ((i : Int) - 1) = ((i - 1 : Nat) : Int) := by unfold wrap64; omega
theorem wu64 {i : Nat} (h : i < 18446744073709551616) : IntKind.u64.wrap (i : Int) = (i : Int) := by rw [IntKind.wrap_u64]; omega
def Sm (l : List Rg) : Prop := ∀ x ∈ l, x.1 < 4294967296 ∧ x.2 < 4294967296
theorem Sm.get {l : List Rg} (h : Sm l) (i : Nat) : (l.getD i d0).1 < 4294967296 ∧ (l.getD i d0).2 < 4294967296 := by
  rw [List.getD_eq_getElem?_getD]
  cases hg : l[i]? with
  | none => exact ⟨by decide, by decide⟩
  | some x => exact h x (List.mem_of_getElem? hg)
theorem enc_fst (x : Rg) : (enc x).f0 = (x.1 : Int) := rfl
theorem enc_snd (x : Rg) : (enc x).f1 = (x.2 : Int) := rfl
theorem enc_mk (x : Rg) : (⟨(x.1 : Int), (x.2 : Int)⟩ : S24) = enc x := rfl

/-! ### the last loop -/
theorem l4_run (r : List S24) : ∀ (n : Nat) (out : List Rg) (o : Nat), n = out.length → n < 1000000 → Sm out → o < 4294967296 →
    ∃ k, spec_Set9.l4 k (o : Int) (out.map enc) (n : Int) = some (((popOpen n out o).1 ++ [((popOpen n out o).2, 0)]).map enc)
  | 0, out, o, hn, hlt, hs, ho => by
    refine ⟨1, ?_⟩
    unfold spec_Set9.l4
    rw [if_neg (by omega), if_pos (by rw [List.length_map]; omega)]
    unfold popOpen
    rw [List.map_append]
    rfl
  | n + 1, out, o, hn, hlt, hs, ho => by
    have hne : out ≠ [] := by intro e; subst e; simp at hn
    have hw : wrap64 (((n + 1 : Nat) : Int) - 1) = (n : Int) := by unfold wrap64; omega
    have hg := hs.get n
    have e1 : out.length - 1 = n := by omega
    by_cases hle : o ≤ (out.getD (out.length - 1) d0).2 + 1
    · obtain ⟨k, hk⟩ := l4_run r n (out.take n) (min o (out.getD n d0).1) (by simp; omega) (by omega) (fun x hx => hs x (List.mem_of_mem_take hx)) (by omega)
      refine ⟨k + 1, ?_⟩
      rw [e1] at hle
      unfold spec_Set9.l4
      rw [if_pos (by omega), hw, if_pos (by omega), if_pos (by rw [List.length_map]; omega), rd_enc, enc_snd, enc_fst, wu64 (by omega), show ((out.getD n d0).2 : Int) + 1 = (((out.getD n d0).2 + 1 : Nat) : Int) by omega, wu64 (by omega), wu64 (by omega), if_pos (by omega), if_pos (by rw [List.length_map]; omega)]
      simp only [Option.bind_some]
      rw [Int.toNat_natCast, ← List.map_take, List.length_map]
      unfold popOpen
      rw [if_neg hne, e1, if_pos hle]
      rw [show mn (o : Int) ((out.getD n d0).1 : Int) = ((min o (out.getD n d0).1 : Nat) : Int) by unfold mn; split <;> omega, show (out.take n).length = n by simp; omega]
      exact hk
    · refine ⟨1, ?_⟩
      rw [e1] at hle
      unfold spec_Set9.l4
      rw [if_pos (by omega), hw, if_pos (by omega), if_pos (by rw [List.length_map]; omega), rd_enc, enc_snd, wu64 (by omega), show ((out.getD n d0).2 : Int) + 1 = (((out.getD n d0).2 + 1 : Nat) : Int) by omega, wu64 (by omega), wu64 (by omega), if_neg (by omega), if_pos (by rw [List.length_map]; omega)]
      unfold popOpen
      rw [if_neg hne, e1, if_neg hle, List.map_append]
      rfl
def endSet (out : List Rg) (s : Bool) (o : Nat) : List Rg :=
  if 0 < o then (popOpen out.length out o).1 ++ [((popOpen out.length out o).2, 0)] else if s = true then out ++ [d0] else out
theorem sm_join {out : List Rg} {x : Rg} (h : Sm out) (hx : x.1 < 4294967296 ∧ x.2 < 4294967296) : Sm (joinStep out x) ∧ (joinStep out x).length ≤ out.length + 1 := by
  unfold joinStep
  split
  · refine ⟨fun y hy => ?_, by simp⟩
    simp at hy; subst hy; exact hx
  · split
    · refine ⟨fun y hy => ?_, by simp⟩
      rcases List.mem_or_eq_of_mem_set hy with hy | rfl
      · exact h y hy
      · have := h.get (out.length - 1)
        exact ⟨this.1, by show max _ _ < _; omega⟩
    · refine ⟨fun y hy => ?_, by simp⟩
      rcases List.mem_append.1 hy with hy | hy
      · exact h y hy
      · simp at hy; subst hy; exact hx
theorem map_set_enc (l : List Rg) (i : Nat) (x : Rg) : (l.set i x).map enc = (l.map enc).set i (enc x) := by rw [List.map_set]
/-! ### the joining -/
theorem l3_run (c : List Rg) (s : Bool) (o : Nat) (hc : Sm c) (ho : o < 4294967296) (hcl : c.length < 100000) : ∀ (d i : Nat) (out : List Rg), i + d = c.length → out.length ≤ i → Sm out →
    ∃ k, spec_Set9.l3 k (c.map enc) s (o : Int) (out.map enc) (c.length : Int) (i : Int) = some ((endSet ((c.drop i).foldl joinStep out) s o).map enc)
  | 0, i, out, hd, hl, hs => by
    have e : c.drop i = [] := List.drop_eq_nil_of_le (by omega)
    rw [e]
    show ∃ k, _ = some ((endSet out s o).map enc)
    unfold endSet
    by_cases h0 : 0 < o
    · obtain ⟨k, hk⟩ := l4_run [] out.length out o rfl (by omega) hs ho
      refine ⟨k + 1, ?_⟩
      unfold spec_Set9.l3
      rw [if_neg (by omega), if_pos (by omega), if_pos h0, List.length_map]
      exact hk
    · refine ⟨1, ?_⟩
      unfold spec_Set9.l3
      rw [if_neg (by omega), if_neg (by omega), if_neg h0]
      cases s
      · rfl
      · rw [if_pos rfl, if_pos rfl, if_pos (by rw [List.length_map]; omega), List.map_append]; rfl
  | d + 1, i, out, hd, hl, hs => by
    have hi : i < c.length := by omega
    have e : c.drop i = c.getD i d0 :: c.drop (i + 1) := by rw [getD_of_lt c i hi]; exact List.drop_eq_getElem_cons hi
    have hg := hc.get i
    obtain ⟨j1, j2⟩ := sm_join hs hg
    obtain ⟨k, hk⟩ := l3_run c s o hc ho hcl d (i + 1) (joinStep out (c.getD i d0)) (by omega) (by omega) j1
    refine ⟨k + 1, ?_⟩
    rw [e]
    show _ = some ((endSet ((c.drop (i + 1)).foldl joinStep (joinStep out (c.getD i d0))) s o).map enc)
    unfold spec_Set9.l3
    rw [if_pos (by omega)]
    by_cases hn : out = []
    · subst hn
      rw [if_neg (by simp), if_pos (by omega), if_pos (by rw [List.length_map]; omega), if_pos (by simp), rd_enc, w64 (by omega), enc_fst, enc_snd]
      exact hk
    · have hpos : 0 < out.length := List.length_pos_iff.2 hn
      have ho' := hs.get (out.length - 1)
      rw [List.length_map, if_pos (by omega), if_pos (by omega), if_pos (by rw [List.length_map]; omega), w64m (by omega) hpos, if_pos (by omega), if_pos (by omega), rd_enc, rd_enc, w64 (by omega), enc_fst, enc_snd, enc_fst, enc_snd]
      rw [wu64 (by omega), wu64 (i := (out.getD (out.length - 1) d0).2) (by omega), show ((out.getD (out.length - 1) d0).2 : Int) + 1 = (((out.getD (out.length - 1) d0).2 + 1 : Nat) : Int) by omega, wu64 (by omega)]
      by_cases hle : (c.getD i d0).1 ≤ (out.getD (out.length - 1) d0).2 + 1
      · rw [if_pos (by omega), Int.toNat_natCast]
        rw [show (⟨((out.getD (out.length - 1) d0).1 : Int), mx ((out.getD (out.length - 1) d0).2 : Int) ((c.getD i d0).2 : Int)⟩ : S24) = enc ((out.getD (out.length - 1) d0).1, max (out.getD (out.length - 1) d0).2 (c.getD i d0).2) by
          unfold enc mx; simp only; congr 1; split <;> omega, ← map_set_enc]
        have ej : joinStep out (c.getD i d0) = out.set (out.length - 1) ((out.getD (out.length - 1) d0).1, max (out.getD (out.length - 1) d0).2 (c.getD i d0).2) := by unfold joinStep; rw [if_neg hn, if_pos hle]
        rw [← ej]
        exact hk
      · rw [if_neg (by omega), if_pos (by omega)]
        have ej : joinStep out (c.getD i d0) = out ++ [c.getD i d0] := by unfold joinStep; rw [if_neg hn, if_neg hle]
        rw [ej, List.map_append] at hk
        rw [enc_mk, ej]
        exact hk
/-! ### the sorting -/
theorem swp_sm {c : List Rg} {k : Nat} (h : Sm c) : Sm (swp c k) := by
  unfold swp
  intro y hy
  rcases List.mem_or_eq_of_mem_set hy with hy | rfl
  · rcases List.mem_or_eq_of_mem_set hy with hy | rfl
    · exact h y hy
    · exact h.get _
  · exact h.get _
theorem l2_run (s : Bool) (o n i : Int) (N : Nat) (r : List S24) (hi : wrap64 (i + 1) = i + 1) : ∀ (q : Nat) (c : List Rg), q < c.length → c.length < 100000 →
    (∃ k, spec_Set9.l1 k ((bub c q).map enc) s o n (i + 1) = some r) → ∃ k, spec_Set9.l2 k (c.map enc) s o (q : Int) n i = some r
  | 0, c, hq, hc, ⟨k, hk⟩ => by
    refine ⟨k + 1, ?_⟩
    unfold spec_Set9.l2
    rw [if_neg (by omega), hi]
    exact hk
  | q + 1, c, hq, hc, ⟨k, hk⟩ => by
    have hw : wrap64 (((q + 1 : Nat) : Int) - 1) = (q : Int) := by unfold wrap64; omega
    by_cases hlt : (c.getD (q + 1) d0).1 < (c.getD q d0).1
    · have eb : bub c (q + 1) = bub (swp c (q + 1)) q := by rw [bub, if_pos hlt]
      rw [eb] at hk
      obtain ⟨k', hk'⟩ := l2_run s o n i N r hi q (swp c (q + 1)) (by rw [swp_length]; omega) (by rw [swp_length]; omega) ⟨k, hk⟩
      refine ⟨k' + 1, ?_⟩
      unfold spec_Set9.l2
      rw [if_pos (by omega), if_pos (by omega), if_pos (by rw [List.length_map]; omega), hw, if_pos (by omega), if_pos (by rw [List.length_map]; omega), rd_enc, rd_enc, enc_fst, enc_fst, enc_snd, enc_snd, if_pos (by omega), Int.toNat_natCast, Int.toNat_natCast, enc_mk, enc_mk, ← map_set_enc, ← map_set_enc]
      exact hk'
    · have eb : bub c (q + 1) = c := by rw [bub, if_neg hlt]
      rw [eb] at hk
      refine ⟨k + 1, ?_⟩
      unfold spec_Set9.l2
      rw [if_pos (by omega), if_pos (by omega), if_pos (by rw [List.length_map]; omega), hw, if_pos (by omega), if_pos (by rw [List.length_map]; omega), rd_enc, rd_enc, enc_fst, enc_fst, if_neg (by omega), hi]
      exact hk
theorem srtFrom (c : List Rg) (i : Nat) : ∀ d, (List.range' i d).foldl bub (srt c i) = srt c (i + d)
  | 0 => rfl
  | d + 1 => by
    rw [List.range'_concat, List.foldl_append, srtFrom c i d]
    show bub (srt c (i + d)) (i + 1 * d) = srt c (i + (d + 1))
    rw [Nat.one_mul, ← Nat.add_assoc, srt_succ]
theorem l1_run (s : Bool) (o : Int) (c : List Rg) (r : List S24) (hc : c.length < 100000) : ∀ (d i : Nat), i + d = c.length →
    (∃ k, spec_Set9.l3 k ((srt c c.length).map enc) s o [] (c.length : Int) 0 = some r) → ∃ k, spec_Set9.l1 k ((srt c i).map enc) s o (c.length : Int) (i : Int) = some r
  | 0, i, hd, ⟨k, hk⟩ => by
    refine ⟨k + 1, ?_⟩
    have : i = c.length := by omega
    subst this
    unfold spec_Set9.l1
    rw [if_neg (by omega), List.length_map, srt_length]
    exact hk
  | d + 1, i, hd, h => by
    obtain ⟨k, hk⟩ := l1_run s o c r hc d (i + 1) (by omega) h
    rw [srt_succ, show ((i + 1 : Nat) : Int) = (i : Int) + 1 by omega] at hk
    obtain ⟨k', hk'⟩ := l2_run s o (c.length : Int) (i : Int) 0 r (by unfold wrap64; omega) i (srt c i) (by rw [srt_length]; omega) (by rw [srt_length]; omega) ⟨k, hk⟩
    refine ⟨k' + 1, ?_⟩
    unfold spec_Set9.l1
    rw [if_pos (by omega)]
    exact hk'
/-! ### the parting -/
theorem closedOf_cons (x : Rg) (l : List Rg) : closedOf (x :: l) = if x.1 ≠ 0 ∧ x.2 ≠ 0 then x :: closedOf l else closedOf l := by
  unfold closedOf
  rw [List.filter_cons]
  by_cases h : x.1 ≠ 0 ∧ x.2 ≠ 0
  · rw [if_pos (decide_eq_true h), if_pos h]
  · rw [if_neg (by simpa using h), if_neg h]
theorem starOf_cons (x : Rg) (l : List Rg) : starOf (x :: l) = (decide (x.1 = 0) || starOf l) := rfl
theorem l0_run (l : List Rg) (r : List S24) (hl : l.length < 100000) (hs : Sm l) : ∀ (d i : Nat) (c : List Rg) (s : Bool) (o : Nat), i + d = l.length → c.length ≤ i →
    (∃ k, spec_Set9.l1 k ((c ++ closedOf (l.drop i)).map enc) (s || starOf (l.drop i)) (((l.drop i).foldl openStep o : Nat) : Int) ((c ++ closedOf (l.drop i)).length : Int) 0 = some r) →
    ∃ k, spec_Set9.l0 k (l.map enc) (c.map enc) s (o : Int) (l.length : Int) (i : Int) = some r
  | 0, i, c, s, o, hd, hcl, ⟨k, hk⟩ => by
    have e : l.drop i = [] := List.drop_eq_nil_of_le (by omega)
    rw [e] at hk
    refine ⟨k + 1, ?_⟩
    unfold spec_Set9.l0
    rw [if_neg (by omega), List.length_map]
    simpa [closedOf, starOf] using hk
  | d + 1, i, c, s, o, hd, hcl, ⟨k, hk⟩ => by
    have hi : i < l.length := by omega
    have e : l.drop i = l.getD i d0 :: l.drop (i + 1) := by rw [getD_of_lt l i hi]; exact List.drop_eq_getElem_cons hi
    have hg := hs.get i
    rw [e] at hk
    have go : ∀ (c' : List Rg) (s' : Bool) (o' : Nat), c'.length ≤ i + 1 → c ++ closedOf (l.getD i d0 :: l.drop (i + 1)) = c' ++ closedOf (l.drop (i + 1)) → (s || starOf (l.getD i d0 :: l.drop (i + 1))) = (s' || starOf (l.drop (i + 1))) →
        openStep o (l.getD i d0) = o' → ∃ k, spec_Set9.l0 k (l.map enc) (c'.map enc) s' (o' : Int) (l.length : Int) ((i + 1 : Nat) : Int) = some r := fun c' s' o' h1 h2 h3 h4 => by
      refine l0_run l r hl hs d (i + 1) c' s' o' (by omega) h1 ⟨k, ?_⟩
      rw [← h2, ← h3, ← h4]
      exact hk
    by_cases e1 : (l.getD i d0).1 = 0
    · obtain ⟨k', hk'⟩ := go c true o (by omega) (by rw [closedOf_cons, if_neg (by omega)]) (by rw [starOf_cons, decide_eq_true e1]; simp) (by unfold openStep; rw [if_pos e1])
      refine ⟨k' + 1, ?_⟩
      unfold spec_Set9.l0
      rw [if_pos (by omega), if_pos (by omega), if_pos (by rw [List.length_map]; omega), rd_enc, enc_fst, if_pos (by omega), w64 (by omega)]
      exact hk'
    · by_cases e2 : (l.getD i d0).2 = 0
      · have hcl' : c ++ closedOf (l.getD i d0 :: l.drop (i + 1)) = c ++ closedOf (l.drop (i + 1)) := by rw [closedOf_cons, if_neg (by omega)]
        have hst : (s || starOf (l.getD i d0 :: l.drop (i + 1))) = (s || starOf (l.drop (i + 1))) := by rw [starOf_cons, decide_eq_false e1]; simp
        by_cases e3 : o = 0
        · obtain ⟨k', hk'⟩ := go c s (l.getD i d0).1 (by omega) hcl' hst (by unfold openStep; rw [if_neg e1, if_pos e2, if_pos (.inl e3)])
          refine ⟨k' + 1, ?_⟩
          unfold spec_Set9.l0
          rw [if_pos (by omega), if_pos (by omega), if_pos (by rw [List.length_map]; omega), rd_enc, enc_fst, enc_snd, if_neg (by omega), if_pos (by omega), if_pos (by omega), w64 (by omega)]
          exact hk'
        · by_cases e4 : (l.getD i d0).1 < o
          · obtain ⟨k', hk'⟩ := go c s (l.getD i d0).1 (by omega) hcl' hst (by unfold openStep; rw [if_neg e1, if_pos e2, if_pos (.inr e4)])
            refine ⟨k' + 1, ?_⟩
            unfold spec_Set9.l0
            rw [if_pos (by omega), if_pos (by omega), if_pos (by rw [List.length_map]; omega), rd_enc, enc_fst, enc_snd, if_neg (by omega), if_pos (by omega), if_neg (by omega), if_pos (by omega), w64 (by omega)]
            exact hk'
          · obtain ⟨k', hk'⟩ := go c s o (by omega) hcl' hst (by unfold openStep; rw [if_neg e1, if_pos e2, if_neg (by omega)])
            refine ⟨k' + 1, ?_⟩
            unfold spec_Set9.l0
            rw [if_pos (by omega), if_pos (by omega), if_pos (by rw [List.length_map]; omega), rd_enc, enc_fst, enc_snd, if_neg (by omega), if_pos (by omega), if_neg (by omega), if_neg (by omega), w64 (by omega)]
            exact hk'
      · obtain ⟨k', hk'⟩ := go (c ++ [l.getD i d0]) s o (by simp; omega) (by rw [closedOf_cons, if_pos ⟨e1, e2⟩, List.append_assoc]; rfl) (by rw [starOf_cons, decide_eq_false e1]; simp) (by unfold openStep; rw [if_neg e1, if_neg e2])
        refine ⟨k' + 1, ?_⟩
        unfold spec_Set9.l0
        rw [if_pos (by omega), if_pos (by omega), if_pos (by rw [List.length_map]; omega), rd_enc, enc_fst, enc_snd, if_neg (by omega), if_neg (by omega), if_pos (by rw [List.length_map]; omega), w64 (by omega)]
        rw [List.map_append] at hk'
        exact hk'
theorem sm_closed {l : List Rg} (h : Sm l) : Sm (closedOf l) := fun x hx => h x (List.mem_filter.1 hx).1
theorem open_lt {l : List Rg} (h : Sm l) : ∀ o, o < 4294967296 → l.foldl openStep o < 4294967296 := by
  induction l with
  | nil => exact fun o h => h
  | cons x l ih =>
    intro o ho
    refine ih (fun y hy => h y (by simp [hy])) _ ?_
    have := (h x (by simp)).1
    unfold openStep
    split
    · exact ho
    · split
      · split <;> assumption
      · exact ho
theorem set9_tells (l : List Rg) (hl : l.length < 100000) (hs : Sm l) : ∃ k, spec_Set9.f k (l.map enc) = some ((set9 l).map enc) := by
  have hcl : (closedOf l).length ≤ l.length := List.length_filter_le _ _
  have ho := open_lt hs 0 (by omega)
  obtain ⟨k3, hk3⟩ := l3_run (srt (closedOf l) (closedOf l).length) (starOf l) (openOf l) (fun x hx => sm_closed hs x ((srt_perm _ _ (Nat.le_refl _)).mem_iff.1 hx)) ho (by rw [srt_length]; omega) (closedOf l).length 0 [] (by rw [srt_length]; omega) (by simp) (by intro x hx; cases hx)
  rw [srt_length, List.drop_zero] at hk3
  obtain ⟨k1, hk1⟩ := l1_run (starOf l) (openOf l : Nat) (closedOf l) _ (by omega) (closedOf l).length 0 (by omega) ⟨k3, hk3⟩
  have hk1' : spec_Set9.l1 k1 (([] ++ closedOf (l.drop 0)).map enc) (false || starOf (l.drop 0)) (((l.drop 0).foldl openStep 0 : Nat) : Int) (([] ++ closedOf (l.drop 0)).length : Int) 0 = some ((set9 l).map enc) := by
    rw [List.nil_append, List.drop_zero, Bool.false_or]
    exact hk1
  obtain ⟨k0, hk0⟩ := l0_run l _ hl hs l.length 0 [] false 0 (by omega) (by simp) ⟨k1, hk1'⟩
  refine ⟨k0, ?_⟩
  unfold spec_Set9.f
  rw [List.length_map]
  exact hk0
end Go.Proofs.YtnokeaiemiiicaaDoor.Own
