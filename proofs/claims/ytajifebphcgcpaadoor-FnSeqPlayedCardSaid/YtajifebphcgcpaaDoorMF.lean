/- ParseSeqSet and impl.SeqOf by hand: the set that a text is. The printed spec.Set9 tells what the plain set9 tells. FnSeqOf, the law's walk: out of the contracts of both sides. What the row lists of strconv's two errors, as the laws of sets ask it. -/
import Derived.Test.YtajifebphcgcpaaDoorMD
import Derived.Test.YtajifebphcgcpaaDoorME
import Derived.Test.YtajifebphcgcpaaDoorPFnSeqOfx7
import Derived.Test.YtajifebphcgcpaaDoorPFnSeqOfx3
import Derived.Test.YtajifebphcgcpaaDoorMA
import Derived.Test.YtajifebphcgcpaaDoorRows
import Derived.Lib.LaidU8
import Derived.LaidLaws
import Derived.KernelRfl
namespace Go.Proofs.YtajifebphcgcpaaDoor.Own
open Go.RowKit Go.Lib Sets Go.Proofs.YtajifebphcgcpaaDoorW.PrintWords
set_option linter.unusedVariables false
set_option linter.unusedSimpArgs false

/-- The ranges that a text's parts are, kept as a set; whether all are ranges. -/
def setOf (s : ByteArray) : List Rg × Bool := addF [] (parts s)
theorem setOf_eq (s : ByteArray) : setOf s = ((upto (parts s)).1.foldl ins [], (upto (parts s)).2) := addF_upto (parts s) []
theorem setOf_canon (s : ByteArray) : Canon (setOf s).1 := addF_canon _ _ canon_nil
theorem setOf_len {s : ByteArray} (hs : s.size ≤ 500) : (setOf s).1.length ≤ 501 := by
  have h1 := addF_len (parts s) []
  have h2 : (parts s).length ≤ s.size + 1 := splitN_len s.size s
  unfold setOf
  simp only [List.length_nil] at h1
  omega
def SetIs (s : ByteArray) (w : World) (e : Ending) (w' : World) : Prop :=
  ∃ ev, e = .returned (.tuple #[.pointer (some ⟨w.heap.size, 0, none⟩), ev]) ∧ ErrQ (!(setOf s).2) ev ∧ SetAt (fun _ => .none) w.heap.size (setOf s).1 w' ∧ Below w.heap.size w w'
theorem parseSet_any (s : ByteArray) (hs : s.size ≤ 500) (w : World) (henv : EnvB w.heap.size w) :
    Calls Tryd.prog 30 #[.string s] w (SetIs s w) := by
  obtain ⟨W0, hW0⟩ : ∃ W0, w.alloc (.cells #[.slice none 0 0] 66) = W0 := ⟨_, rfl⟩
  have hb0 := Lib.hid (show Below w.heap.size w W0 by rw [← hW0]; exact (Below.refl _ _).alloc (Nat.le_refl _) _)
  have hS0 : SetAt (fun _ => .none) w.heap.size [] W0 := ⟨.slice none 0 0, by rw [← hW0]; exact heap_alloc_new _ _, RowQ.nil _ _, Gd.none _ _ _⟩
  have hadd := Lib.hid (add_any (fun _ => .none) w.heap.size [] s W0 hS0 canon_nil hs (by simp) (henv.belowB hb0.out))
  clear henv hS0
  go_enter Tryd.func30, Tryd.ntmps30
  go_wp2_with fail
  refine (hadd.out).mono ?_
  rintro e w1 ⟨ev, rfl, herr, hS1, hb1⟩
  have hfin : SetIs s w (.returned (.tuple #[.pointer (some ⟨w.heap.size, 0, none⟩), ev])) w1 := ⟨ev, rfl, herr, hS1, hb0.out.trans hb1⟩
  replace hfin := Lib.hid hfin
  clear herr hS1 hb1
  go_wp2_with fail
  go_ret2
  exact hfin.out
theorem rd47 (l : List Rg) (i : Nat) : PFnSeqOf.rd_T50 (l.map enc47) (i : Int) = enc47 (l.getD i d0) := by
  unfold PFnSeqOf.rd_T50
  rw [Int.toNat_natCast, List.getD_eq_getElem?_getD, List.getElem?_map, List.getD_eq_getElem?_getD]
  cases l[i]? <;> rfl
theorem rd24 (l : List Rg) (i : Nat) : PFnSeqOf.rd_T24 (l.map enc24) (i : Int) = enc24 (l.getD i d0) := by
  unfold PFnSeqOf.rd_T24
  rw [Int.toNat_natCast, List.getD_eq_getElem?_getD, List.getElem?_map, List.getD_eq_getElem?_getD]
  cases l[i]? <;> rfl
theorem seqsOf_loop (l : List Rg) (hl : l.length ≤ 1000000) : ∀ (d i : Nat), l.length - i = d → i ≤ l.length → PFnSeqOf.impl_seqsOf.l0 (d + 1) ((l.take i).map enc24) (l.map enc47) (l.length : Int) (i : Int) = some (l.map enc24)
  | 0, i, hd, hi => by
    simp only [PFnSeqOf.impl_seqsOf.l0]
    rw [if_neg (by omega), List.take_of_length_le (by omega)]
  | d + 1, i, hd, hi => by
    have hlt : i < l.length := by omega
    simp only [PFnSeqOf.impl_seqsOf.l0]
    rw [if_pos (by omega), if_pos (by omega), if_pos (by rw [List.length_map]; omega), if_pos (by rw [List.length_map, List.length_take]; omega), rd47, wrap_succ (by omega)]
    have h := seqsOf_loop l hl d (i + 1) (by omega) (by omega)
    rw [List.take_succ_eq_append_getElem hlt, List.map_append] at h
    rw [List.getD_eq_getElem?_getD, List.getElem?_eq_getElem hlt]
    exact h
theorem seqsOf_tells (l : List Rg) (hl : l.length ≤ 1000000) : PFnSeqOf.impl_seqsOf.f (l.length + 1) (l.map enc47) = some (l.map enc24) := by
  unfold PFnSeqOf.impl_seqsOf.f
  rw [List.length_map]
  exact seqsOf_loop l hl l.length 0 (by omega) (by omega)
theorem same_loop (l : List Rg) (hl : l.length ≤ 1000000) : ∀ (d i : Nat), l.length - i = d → i ≤ l.length → PFnSeqOf.spec_SameSeqs.l0 (d + 1) (l.map enc24) (l.map enc24) (l.length : Int) (i : Int) = some true
  | 0, i, hd, hi => by
    simp only [PFnSeqOf.spec_SameSeqs.l0]
    rw [if_neg (by omega)]
  | d + 1, i, hd, hi => by
    simp only [PFnSeqOf.spec_SameSeqs.l0]
    rw [if_pos (by omega), if_pos (by omega), if_pos (by rw [List.length_map]; omega), if_pos (by rw [List.length_map]; omega), if_neg (by simp), wrap_succ (by omega)]
    exact same_loop l hl d (i + 1) (by omega) (by omega)
theorem same_tells (l : List Rg) (hl : l.length ≤ 1000000) : PFnSeqOf.spec_SameSeqs.f (l.length + 1) (l.map enc24) (l.map enc24) = some true := by
  unfold PFnSeqOf.spec_SameSeqs.f
  rw [if_pos rfl, List.length_map]
  exact same_loop l hl l.length 0 (by omega) (by omega)
def RowR (w : World) (base : Nat) (v : Value) (l : List Rg) : Prop := Kd.R PFnSeqOf.k24 24 w base (fun _ => True) v (l.map enc24)
def SeqOfIs (s : ByteArray) (w : World) (e : Ending) (w' : World) : Prop :=
  ∃ v, e = .returned (.tuple #[v, .bool (setOf s).2]) ∧ ((setOf s).2 = true → RowR w' w.heap.size v (setOf s).1) ∧ Below w.heap.size w w'
theorem seqOf_any (s : ByteArray) (hs : s.size ≤ 500) (w : World) (henv : EnvB w.heap.size w) :
    Calls Tryd.prog 16 #[.string s] w (SeqOfIs s w) := by
  have hp := Lib.hid (parseSet_any s hs w henv)
  clear henv
  go_enter Tryd.func16, Tryd.ntmps16
  go_wp2_with fail
  refine (hp.out).mono ?_
  rintro e w1 ⟨ev, rfl, herr, hS1, hb1⟩
  have hlen := setOf_len hs
  obtain ⟨ok, hok⟩ : ∃ ok, (setOf s).2 = ok := ⟨_, rfl⟩
  rw [hok] at herr
  have hok' := Lib.hid hok
  cases ok with
  | false =>
    obtain ⟨T, z, rfl⟩ := herr.2 rfl
    have hfin : SeqOfIs s w (.returned (.tuple #[.slice none 0 0, .bool false])) w1 := ⟨_, by rw [hok], fun h => by (rw [hok] at h; cases h), hb1⟩
    replace hfin := Lib.hid hfin
    clear herr hS1 hb1 hok
    go_wp2_with fail
    go_ret2
    exact hfin.out
  | true =>
    obtain rfl := herr.1 rfl
    obtain ⟨v, hv1, hrow, _⟩ := hS1
    obtain ⟨A, c, hv, hc, hC⟩ := hrow.reads (by omega)
    have hcell : w1.cell? ⟨w.heap.size, 0, none⟩ = some v := cell_of_row w1 _ 0 _ _ _ hv1
    rw [hv] at hcell
    have hcall0 := PFnSeqOf.impl_seqsOf.calls _ A c _ _ w1 hC (by rw [List.length_map]; exact hc) (seqsOf_tells (setOf s).1 (by omega))
    rw [List.length_map] at hcall0
    have hcall := Lib.hid hcall0
    clear hcall0
    have hb1' := Lib.hid hb1
    clear herr hv1 hrow hv hC hc hb1 hok
    go_wp2_with fail
    refine (hcall.out).mono ?_
    rintro e w2 ⟨v2, rfl, hR, hb2⟩
    have hfin : SeqOfIs s w (.returned (.tuple #[v2, .bool true])) w2 := ⟨v2, by rw [hok'.out], fun _ => Kd.R_lower hR hb1'.out.size, hb1'.out.trans (hb2.mono hb1'.out.size)⟩
    replace hfin := Lib.hid hfin
    clear hR hb2
    go_wp2_with fail
    go_ret2
    exact hfin.out
end Go.Proofs.YtajifebphcgcpaaDoor.Own

namespace Go.Proofs.YtajifebphcgcpaaDoor.Own
open Go.RowKit Go.Proofs.YtajifebphcgcpaaDoorW.PrintWords Go.Proofs.YtajifebphcgcpaaDoorW.PrintLast Go.Proofs.YtajifebphcgcpaaDoorW.PrintMore
open Go.Proofs.YtajifebphcgcpaaDoor.Sets
open Go.Proofs.YtajifebphcgcpaaDoor.PFnSeqOf (S24 z24 rd_T24 spec_Set9.f spec_Set9.l0 spec_Set9.l1 spec_Set9.l2 spec_Set9.l3 spec_Set9.l4)
set_option linter.unusedVariables false
set_option linter.unusedSimpArgs false

def enc (x : Rg) : S24 := ⟨(x.1 : Int), (x.2 : Int)⟩
theorem rd_enc (l : List Rg) (i : Nat) : rd_T24 (l.map enc) (i : Int) = enc (l.getD i d0) := by
  unfold rd_T24
  rw [Int.toNat_natCast, List.getD_eq_getElem?_getD, List.getD_eq_getElem?_getD, List.getElem?_map]
  cases l[i]? <;> rfl
theorem w64 {i : Nat} (h : i < 4611686018427387904) : wrap64 ((i : Int) + 1) = ((i + 1 : Nat) : Int) := by unfold wrap64; omega
theorem w64m {i : Nat} (h : i < 4611686018427387904) (h0 : 0 < i) : wrap64 ((i : Int) - 1) = ((i - 1 : Nat) : Int) := by unfold wrap64; omega
theorem wu64 {i : Nat} (h : i < 18446744073709551616) : IntKind.u64.wrap (i : Int) = (i : Int) := by rw [IntKind.wrap_u64]; omega
def Sm (l : List Rg) : Prop := ∀ x ∈ l, x.1 < 4294967296 ∧ x.2 < 4294967296
theorem Sm.get {l : List Rg} (h : Sm l) (i : Nat) : (l.getD i d0).1 < 4294967296 ∧ (l.getD i d0).2 < 4294967296 := by
  rw [List.getD_eq_getElem?_getD]
  cases hg : l[i]? with
  | none => exact ⟨by decide, by decide⟩
  | some x => exact h x (List.mem_of_getElem? hg)
theorem enc_fst (x : Rg) : (enc x).f0 = (x.1 : Int) := rfl
theorem enc_snd (x : Rg) : (enc x).f1 = (x.2 : Int) := rfl
theorem enc_mk (x : Rg) : (⟨(x.1 : Int), (x.2 : Int)⟩ : S24) = enc x := rfl

/-! ### the last loop -/
theorem l4_run (r : List S24) : ∀ (n : Nat) (out : List Rg) (o : Nat), n = out.length → n < 1000000 → Sm out → o < 4294967296 →
    ∃ k, spec_Set9.l4 k (o : Int) (out.map enc) (n : Int) = some (((popOpen n out o).1 ++ [((popOpen n out o).2, 0)]).map enc)
  | 0, out, o, hn, hlt, hs, ho => by
    refine ⟨1, ?_⟩
    unfold spec_Set9.l4
    rw [if_neg (by omega), if_pos (by rw [List.length_map]; omega)]
    unfold popOpen
    rw [List.map_append]
    rfl
  | n + 1, out, o, hn, hlt, hs, ho => by
    have hne : out ≠ [] := by intro e; subst e; simp at hn
    have hw : wrap64 (((n + 1 : Nat) : Int) - 1) = (n : Int) := by unfold wrap64; omega
    have hg := hs.get n
    have e1 : out.length - 1 = n := by omega
    by_cases hle : o ≤ (out.getD (out.length - 1) d0).2 + 1
    · obtain ⟨k, hk⟩ := l4_run r n (out.take n) (min o (out.getD n d0).1) (by simp; omega) (by omega) (fun x hx => hs x (List.mem_of_mem_take hx)) (by omega)
      refine ⟨k + 1, ?_⟩
      rw [e1] at hle
      unfold spec_Set9.l4
      rw [if_pos (by omega), hw, if_pos (by omega), if_pos (by rw [List.length_map]; omega), rd_enc, enc_snd, enc_fst, wu64 (by omega), show ((out.getD n d0).2 : Int) + 1 = (((out.getD n d0).2 + 1 : Nat) : Int) by omega, wu64 (by omega), wu64 (by omega), if_pos (by omega), if_pos (by rw [List.length_map]; omega)]
      simp only [Option.bind_some]
      rw [Int.toNat_natCast, ← List.map_take, List.length_map]
      unfold popOpen
      rw [if_neg hne, e1, if_pos hle]
      rw [show mn (o : Int) ((out.getD n d0).1 : Int) = ((min o (out.getD n d0).1 : Nat) : Int) by unfold mn; split <;> omega, show (out.take n).length = n by simp; omega]
      exact hk
    · refine ⟨1, ?_⟩
      rw [e1] at hle
      unfold spec_Set9.l4
      rw [if_pos (by omega), hw, if_pos (by omega), if_pos (by rw [List.length_map]; omega), rd_enc, enc_snd, wu64 (by omega), show ((out.getD n d0).2 : Int) + 1 = (((out.getD n d0).2 + 1 : Nat) : Int) by omega, wu64 (by omega), wu64 (by omega), if_neg (by omega), if_pos (by rw [List.length_map]; omega)]
      unfold popOpen
      rw [if_neg hne, e1, if_neg hle, List.map_append]
      rfl
def endSet (out : List Rg) (s : Bool) (o : Nat) : List Rg :=
  if 0 < o then (popOpen out.length out o).1 ++ [((popOpen out.length out o).2, 0)] else if s = true then out ++ [d0] else out
theorem sm_join {out : List Rg} {x : Rg} (h : Sm out) (hx : x.1 < 4294967296 ∧ x.2 < 4294967296) : Sm (joinStep out x) ∧ (joinStep out x).length ≤ out.length + 1 := by
  unfold joinStep
  split
  · refine ⟨fun y hy => ?_, by simp⟩
    simp at hy; subst hy; exact hx
  · split
    · refine ⟨fun y hy => ?_, by simp⟩
      rcases List.mem_or_eq_of_mem_set hy with hy | rfl
      · exact h y hy
      · have := h.get (out.length - 1)
        exact ⟨this.1, by show max _ _ < _; omega⟩
    · refine ⟨fun y hy => ?_, by simp⟩
      rcases List.mem_append.1 hy with hy | hy
      · exact h y hy
      · simp at hy; subst hy; exact hx
theorem map_set_enc (l : List Rg) (i : Nat) (x : Rg) : (l.set i x).map enc = (l.map enc).set i (enc x) := by rw [List.map_set]
/-! ### the joining -/
theorem l3_run (c : List Rg) (s : Bool) (o : Nat) (hc : Sm c) (ho : o < 4294967296) (hcl : c.length < 100000) : ∀ (d i : Nat) (out : List Rg), i + d = c.length → out.length ≤ i → Sm out →
    ∃ k, spec_Set9.l3 k (c.map enc) s (o : Int) (out.map enc) (c.length : Int) (i : Int) = some ((endSet ((c.drop i).foldl joinStep out) s o).map enc)
  | 0, i, out, hd, hl, hs => by
    have e : c.drop i = [] := List.drop_eq_nil_of_le (by omega)
    rw [e]
    show ∃ k, _ = some ((endSet out s o).map enc)
    unfold endSet
    by_cases h0 : 0 < o
    · obtain ⟨k, hk⟩ := l4_run [] out.length out o rfl (by omega) hs ho
      refine ⟨k + 1, ?_⟩
      unfold spec_Set9.l3
      rw [if_neg (by omega), if_pos (by omega), if_pos h0, List.length_map]
      exact hk
    · refine ⟨1, ?_⟩
      unfold spec_Set9.l3
      rw [if_neg (by omega), if_neg (by omega), if_neg h0]
      cases s
      · rfl
      · rw [if_pos rfl, if_pos rfl, if_pos (by rw [List.length_map]; omega), List.map_append]; rfl
  | d + 1, i, out, hd, hl, hs => by
    have hi : i < c.length := by omega
    have e : c.drop i = c.getD i d0 :: c.drop (i + 1) := by rw [getD_of_lt c i hi]; exact List.drop_eq_getElem_cons hi
    have hg := hc.get i
    obtain ⟨j1, j2⟩ := sm_join hs hg
    obtain ⟨k, hk⟩ := l3_run c s o hc ho hcl d (i + 1) (joinStep out (c.getD i d0)) (by omega) (by omega) j1
    refine ⟨k + 1, ?_⟩
    rw [e]
    show _ = some ((endSet ((c.drop (i + 1)).foldl joinStep (joinStep out (c.getD i d0))) s o).map enc)
    unfold spec_Set9.l3
    rw [if_pos (by omega)]
    by_cases hn : out = []
    · subst hn
      rw [if_neg (by simp), if_pos (by omega), if_pos (by rw [List.length_map]; omega), if_pos (by simp), rd_enc, w64 (by omega), enc_fst, enc_snd]
      exact hk
    · have hpos : 0 < out.length := List.length_pos_iff.2 hn
      have ho' := hs.get (out.length - 1)
      rw [List.length_map, if_pos (by omega), if_pos (by omega), if_pos (by rw [List.length_map]; omega), w64m (by omega) hpos, if_pos (by omega), if_pos (by omega), rd_enc, rd_enc, w64 (by omega), enc_fst, enc_snd, enc_fst, enc_snd]
      rw [wu64 (by omega), wu64 (i := (out.getD (out.length - 1) d0).2) (by omega), show ((out.getD (out.length - 1) d0).2 : Int) + 1 = (((out.getD (out.length - 1) d0).2 + 1 : Nat) : Int) by omega, wu64 (by omega)]
      by_cases hle : (c.getD i d0).1 ≤ (out.getD (out.length - 1) d0).2 + 1
      · rw [if_pos (by omega), Int.toNat_natCast]
        rw [show (⟨((out.getD (out.length - 1) d0).1 : Int), mx ((out.getD (out.length - 1) d0).2 : Int) ((c.getD i d0).2 : Int)⟩ : S24) = enc ((out.getD (out.length - 1) d0).1, max (out.getD (out.length - 1) d0).2 (c.getD i d0).2) by
          unfold enc mx; simp only; congr 1; split <;> omega, ← map_set_enc]
        have ej : joinStep out (c.getD i d0) = out.set (out.length - 1) ((out.getD (out.length - 1) d0).1, max (out.getD (out.length - 1) d0).2 (c.getD i d0).2) := by unfold joinStep; rw [if_neg hn, if_pos hle]
        rw [← ej]
        exact hk
      · rw [if_neg (by omega), if_pos (by omega)]
        have ej : joinStep out (c.getD i d0) = out ++ [c.getD i d0] := by unfold joinStep; rw [if_neg hn, if_neg hle]
        rw [ej, List.map_append] at hk
        rw [enc_mk, ej]
        exact hk
/-! ### the sorting -/
theorem swp_sm {c : List Rg} {k : Nat} (h : Sm c) : Sm (swp c k) := by
  unfold swp
  intro y hy
  rcases List.mem_or_eq_of_mem_set hy with hy | rfl
  · rcases List.mem_or_eq_of_mem_set hy with hy | rfl
    · exact h y hy
    · exact h.get _
  · exact h.get _
theorem l2_run (s : Bool) (o n i : Int) (N : Nat) (r : List S24) (hi : wrap64 (i + 1) = i + 1) : ∀ (q : Nat) (c : List Rg), q < c.length → c.length < 100000 →
    (∃ k, spec_Set9.l1 k ((bub c q).map enc) s o n (i + 1) = some r) → ∃ k, spec_Set9.l2 k (c.map enc) s o (q : Int) n i = some r
  | 0, c, hq, hc, ⟨k, hk⟩ => by
    refine ⟨k + 1, ?_⟩
    unfold spec_Set9.l2
    rw [if_neg (by omega), hi]
    exact hk
  | q + 1, c, hq, hc, ⟨k, hk⟩ => by
    have hw : wrap64 (((q + 1 : Nat) : Int) - 1) = (q : Int) := by unfold wrap64; omega
    by_cases hlt : (c.getD (q + 1) d0).1 < (c.getD q d0).1
    · have eb : bub c (q + 1) = bub (swp c (q + 1)) q := by rw [bub, if_pos hlt]
      rw [eb] at hk
      obtain ⟨k', hk'⟩ := l2_run s o n i N r hi q (swp c (q + 1)) (by rw [swp_length]; omega) (by rw [swp_length]; omega) ⟨k, hk⟩
      refine ⟨k' + 1, ?_⟩
      unfold spec_Set9.l2
      rw [if_pos (by omega), if_pos (by omega), if_pos (by rw [List.length_map]; omega), hw, if_pos (by omega), if_pos (by rw [List.length_map]; omega), rd_enc, rd_enc, enc_fst, enc_fst, enc_snd, enc_snd, if_pos (by omega), Int.toNat_natCast, Int.toNat_natCast, enc_mk, enc_mk, ← map_set_enc, ← map_set_enc]
      exact hk'
    · have eb : bub c (q + 1) = c := by rw [bub, if_neg hlt]
      rw [eb] at hk
      refine ⟨k + 1, ?_⟩
      unfold spec_Set9.l2
      rw [if_pos (by omega), if_pos (by omega), if_pos (by rw [List.length_map]; omega), hw, if_pos (by omega), if_pos (by rw [List.length_map]; omega), rd_enc, rd_enc, enc_fst, enc_fst, if_neg (by omega), hi]
      exact hk
theorem srtFrom (c : List Rg) (i : Nat) : ∀ d, (List.range' i d).foldl bub (srt c i) = srt c (i + d)
  | 0 => rfl
  | d + 1 => by
    rw [List.range'_concat, List.foldl_append, srtFrom c i d]
    show bub (srt c (i + d)) (i + 1 * d) = srt c (i + (d + 1))
    rw [Nat.one_mul, ← Nat.add_assoc, srt_succ]
theorem l1_run (s : Bool) (o : Int) (c : List Rg) (r : List S24) (hc : c.length < 100000) : ∀ (d i : Nat), i + d = c.length →
    (∃ k, spec_Set9.l3 k ((srt c c.length).map enc) s o [] (c.length : Int) 0 = some r) → ∃ k, spec_Set9.l1 k ((srt c i).map enc) s o (c.length : Int) (i : Int) = some r
  | 0, i, hd, ⟨k, hk⟩ => by
    refine ⟨k + 1, ?_⟩
    have : i = c.length := by omega
    subst this
    unfold spec_Set9.l1
    rw [if_neg (by omega), List.length_map, srt_length]
    exact hk
  | d + 1, i, hd, h => by
    obtain ⟨k, hk⟩ := l1_run s o c r hc d (i + 1) (by omega) h
    rw [srt_succ, show ((i + 1 : Nat) : Int) = (i : Int) + 1 by omega] at hk
    obtain ⟨k', hk'⟩ := l2_run s o (c.length : Int) (i : Int) 0 r (by unfold wrap64; omega) i (srt c i) (by rw [srt_length]; omega) (by rw [srt_length]; omega) ⟨k, hk⟩
    refine ⟨k' + 1, ?_⟩
    unfold spec_Set9.l1
    rw [if_pos (by omega)]
    exact hk'
/-! ### the parting -/
theorem closedOf_cons (x : Rg) (l : List Rg) : closedOf (x :: l) = if x.1 ≠ 0 ∧ x.2 ≠ 0 then x :: closedOf l else closedOf l := by
  unfold closedOf
  rw [List.filter_cons]
  by_cases h : x.1 ≠ 0 ∧ x.2 ≠ 0
  · rw [if_pos (decide_eq_true h), if_pos h]
  · rw [if_neg (by simpa using h), if_neg h]
theorem starOf_cons (x : Rg) (l : List Rg) : starOf (x :: l) = (decide (x.1 = 0) || starOf l) := rfl
theorem l0_run (l : List Rg) (r : List S24) (hl : l.length < 100000) (hs : Sm l) : ∀ (d i : Nat) (c : List Rg) (s : Bool) (o : Nat), i + d = l.length → c.length ≤ i →
    (∃ k, spec_Set9.l1 k ((c ++ closedOf (l.drop i)).map enc) (s || starOf (l.drop i)) (((l.drop i).foldl openStep o : Nat) : Int) ((c ++ closedOf (l.drop i)).length : Int) 0 = some r) →
    ∃ k, spec_Set9.l0 k (l.map enc) (c.map enc) s (o : Int) (l.length : Int) (i : Int) = some r
  | 0, i, c, s, o, hd, hcl, ⟨k, hk⟩ => by
    have e : l.drop i = [] := List.drop_eq_nil_of_le (by omega)
    rw [e] at hk
    refine ⟨k + 1, ?_⟩
    unfold spec_Set9.l0
    rw [if_neg (by omega), List.length_map]
    simpa [closedOf, starOf] using hk
  | d + 1, i, c, s, o, hd, hcl, ⟨k, hk⟩ => by
    have hi : i < l.length := by omega
    have e : l.drop i = l.getD i d0 :: l.drop (i + 1) := by rw [getD_of_lt l i hi]; exact List.drop_eq_getElem_cons hi
    have hg := hs.get i
    rw [e] at hk
    have go : ∀ (c' : List Rg) (s' : Bool) (o' : Nat), c'.length ≤ i + 1 → c ++ closedOf (l.getD i d0 :: l.drop (i + 1)) = c' ++ closedOf (l.drop (i + 1)) → (s || starOf (l.getD i d0 :: l.drop (i + 1))) = (s' || starOf (l.drop (i + 1))) →
        openStep o (l.getD i d0) = o' → ∃ k, spec_Set9.l0 k (l.map enc) (c'.map enc) s' (o' : Int) (l.length : Int) ((i + 1 : Nat) : Int) = some r := fun c' s' o' h1 h2 h3 h4 => by
      refine l0_run l r hl hs d (i + 1) c' s' o' (by omega) h1 ⟨k, ?_⟩
      rw [← h2, ← h3, ← h4]
      exact hk
    by_cases e1 : (l.getD i d0).1 = 0
    · obtain ⟨k', hk'⟩ := go c true o (by omega) (by rw [closedOf_cons, if_neg (by omega)]) (by rw [starOf_cons, decide_eq_true e1]; simp) (by unfold openStep; rw [if_pos e1])
      refine ⟨k' + 1, ?_⟩
      unfold spec_Set9.l0
      rw [if_pos (by omega), if_pos (by omega), if_pos (by rw [List.length_map]; omega), rd_enc, enc_fst, if_pos (by omega), w64 (by omega)]
      exact hk'
    · by_cases e2 : (l.getD i d0).2 = 0
      · have hcl' : c ++ closedOf (l.getD i d0 :: l.drop (i + 1)) = c ++ closedOf (l.drop (i + 1)) := by rw [closedOf_cons, if_neg (by omega)]
        have hst : (s || starOf (l.getD i d0 :: l.drop (i + 1))) = (s || starOf (l.drop (i + 1))) := by rw [starOf_cons, decide_eq_false e1]; simp
        by_cases e3 : o = 0
        · obtain ⟨k', hk'⟩ := go c s (l.getD i d0).1 (by omega) hcl' hst (by unfold openStep; rw [if_neg e1, if_pos e2, if_pos (.inl e3)])
          refine ⟨k' + 1, ?_⟩
          unfold spec_Set9.l0
          rw [if_pos (by omega), if_pos (by omega), if_pos (by rw [List.length_map]; omega), rd_enc, enc_fst, enc_snd, if_neg (by omega), if_pos (by omega), if_pos (by omega), w64 (by omega)]
          exact hk'
        · by_cases e4 : (l.getD i d0).1 < o
          · obtain ⟨k', hk'⟩ := go c s (l.getD i d0).1 (by omega) hcl' hst (by unfold openStep; rw [if_neg e1, if_pos e2, if_pos (.inr e4)])
            refine ⟨k' + 1, ?_⟩
            unfold spec_Set9.l0
            rw [if_pos (by omega), if_pos (by omega), if_pos (by rw [List.length_map]; omega), rd_enc, enc_fst, enc_snd, if_neg (by omega), if_pos (by omega), if_neg (by omega), if_pos (by omega), w64 (by omega)]
            exact hk'
          · obtain ⟨k', hk'⟩ := go c s o (by omega) hcl' hst (by unfold openStep; rw [if_neg e1, if_pos e2, if_neg (by omega)])
            refine ⟨k' + 1, ?_⟩
            unfold spec_Set9.l0
            rw [if_pos (by omega), if_pos (by omega), if_pos (by rw [List.length_map]; omega), rd_enc, enc_fst, enc_snd, if_neg (by omega), if_pos (by omega), if_neg (by omega), if_neg (by omega), w64 (by omega)]
            exact hk'
      · obtain ⟨k', hk'⟩ := go (c ++ [l.getD i d0]) s o (by simp; omega) (by rw [closedOf_cons, if_pos ⟨e1, e2⟩, List.append_assoc]; rfl) (by rw [starOf_cons, decide_eq_false e1]; simp) (by unfold openStep; rw [if_neg e1, if_neg e2])
        refine ⟨k' + 1, ?_⟩
        unfold spec_Set9.l0
        rw [if_pos (by omega), if_pos (by omega), if_pos (by rw [List.length_map]; omega), rd_enc, enc_fst, enc_snd, if_neg (by omega), if_neg (by omega), if_pos (by rw [List.length_map]; omega), w64 (by omega)]
        rw [List.map_append] at hk'
        exact hk'
theorem sm_closed {l : List Rg} (h : Sm l) : Sm (closedOf l) := fun x hx => h x (List.mem_filter.1 hx).1
theorem open_lt {l : List Rg} (h : Sm l) : ∀ o, o < 4294967296 → l.foldl openStep o < 4294967296 := by
  induction l with
  | nil => exact fun o h => h
  | cons x l ih =>
    intro o ho
    refine ih (fun y hy => h y (by simp [hy])) _ ?_
    have := (h x (by simp)).1
    unfold openStep
    split
    · exact ho
    · split
      · split <;> assumption
      · exact ho
theorem set9_tells (l : List Rg) (hl : l.length < 100000) (hs : Sm l) : ∃ k, spec_Set9.f k (l.map enc) = some ((set9 l).map enc) := by
  have hcl : (closedOf l).length ≤ l.length := List.length_filter_le _ _
  have ho := open_lt hs 0 (by omega)
  obtain ⟨k3, hk3⟩ := l3_run (srt (closedOf l) (closedOf l).length) (starOf l) (openOf l) (fun x hx => sm_closed hs x ((srt_perm _ _ (Nat.le_refl _)).mem_iff.1 hx)) ho (by rw [srt_length]; omega) (closedOf l).length 0 [] (by rw [srt_length]; omega) (by simp) (by intro x hx; cases hx)
  rw [srt_length, List.drop_zero] at hk3
  obtain ⟨k1, hk1⟩ := l1_run (starOf l) (openOf l : Nat) (closedOf l) _ (by omega) (closedOf l).length 0 (by omega) ⟨k3, hk3⟩
  have hk1' : spec_Set9.l1 k1 (([] ++ closedOf (l.drop 0)).map enc) (false || starOf (l.drop 0)) (((l.drop 0).foldl openStep 0 : Nat) : Int) (([] ++ closedOf (l.drop 0)).length : Int) 0 = some ((set9 l).map enc) := by
    rw [List.nil_append, List.drop_zero, Bool.false_or]
    exact hk1
  obtain ⟨k0, hk0⟩ := l0_run l _ hl hs l.length 0 [] false 0 (by omega) (by simp) ⟨k1, hk1'⟩
  refine ⟨k0, ?_⟩
  unfold spec_Set9.f
  rw [List.length_map]
  exact hk0
end Go.Proofs.YtajifebphcgcpaaDoor.Own

namespace Go.Proofs.YtajifebphcgcpaaDoor.Own
open Go.RowKit Go.Lib Sets Go.Proofs.YtajifebphcgcpaaDoorW.PrintWords
set_option linter.unusedVariables false
set_option linter.unusedSimpArgs false

/-- What the row lists: the two errors' cells. -/
def EnvS (W : World) : Prop := EnvB W.heap.size W
theorem EnvS.below {w w' : World} (h : EnvS w) (hb : Below w.heap.size w w') : EnvS w' := (h.belowB hb).mono hb.size
theorem upto_len : ∀ (t : List ByteArray), (upto t).1.length ≤ t.length
  | [] => Nat.le_refl _
  | p :: t => by
    rw [upto]
    split
    · simp
    · have := upto_len t
      rw [List.length_cons, List.length_cons]; omega
theorem setOf_set9 (s : ByteArray) : (setOf s).1 = set9 (upto (parts s)).1 := by
  rw [setOf_eq]
  exact fold_set9 _ (upto_okr _)
theorem setOf_ok (s : ByteArray) : (setOf s).2 = (upto (parts s)).2 := by rw [setOf_eq]
theorem upto_sm (t : List ByteArray) : Sm (upto t).1 := fun x hx => ⟨(upto_okr t x hx).1, (upto_okr t x hx).2.1⟩
theorem one_fine : (setOf ⟨#[49]⟩).2 = true := by decide +kernel
/-- spec.Set9 over a row of parts. -/
theorem set9_any (l : List Rg) (hl : l.length < 100000) (hs : Sm l) (v : Value) (w : World) (base : Nat) (hr : RowI w base v l) :
    Calls Tryd.prog 8 #[v] w fun e w' => ∃ u, e = .returned u ∧ RowR w' w.heap.size u (set9 l) ∧ Below w.heap.size w w' := by
  obtain ⟨A, c, hv, hc, hC⟩ := hr.reads (by omega)
  obtain ⟨k, hk⟩ := set9_tells l hl hs
  rw [hv]
  exact PFnSeqOf.spec_Set9.calls k A c _ _ w hC hc hk
theorem same_any (l : List Rg) (hl : l.length ≤ 1000000) (u v : Value) (w : World) (b1 b2 : Nat) (h1 : RowR w b1 u l) (h2 : RowR w b2 v l) :
    Calls Tryd.prog 17 #[u, v] w fun e w' => e = .returned (.bool true) ∧ Below w.heap.size w w' := by
  obtain ⟨A, c, hv, hc, hC⟩ := Kd.R_reads h1
  obtain ⟨A', c', hv', hc', hC'⟩ := Kd.R_reads h2
  rw [hv, hv']
  refine (PFnSeqOf.spec_SameSeqs.calls _ A c _ A' c' _ _ w hC hc hC' hc' (same_tells l hl)).mono ?_
  rintro e w' ⟨rfl, hd⟩
  exact ⟨rfl, hd.below⟩

set_option maxHeartbeats 1000000 in
set_option maxRecDepth 100000 in
theorem fnSeqOf_walk (s : ByteArray) (w : World) (w0 : s.size ≤ 140737488351232) (henv : EnvS w) :
    Calls Tryd.prog 4 #[.string s] w fun e w' => e = .returned (.bool true) ∧ Below w.heap.size w w' := by
  rcases Nat.lt_or_ge 2147483647 s.size with h1 | h1
  · go_enter Tryd.func4, Tryd.ntmps4
    go_wp2_with fail
    go_ret
    exact ⟨rfl, Below.refl _ _⟩
  rcases Nat.lt_or_ge 500 s.size with h2 | h2
  · go_enter Tryd.func4, Tryd.ntmps4
    go_wp2_with fail
    go_ret
    exact ⟨rfl, Below.refl _ _⟩
  have hp9 := Lib.hid (parts9_any s (by omega) w)
  have hso := Lib.hid (fun W h => seqOf_any s h2 W h)
  have hs1 := Lib.hid (fun W h => seqOf_any ⟨#[49]⟩ (by decide) W h)
  have hplen : (upto (parts s)).1.length ≤ 501 := by
    have h3 := upto_len (parts s)
    have h4 : (parts s).length ≤ s.size + 1 := splitN_len s.size s
    omega
  replace henv := Lib.hid henv
  go_enter Tryd.func4, Tryd.ntmps4
  go_wp2_with fail
  refine (hp9.out).mono ?_
  rintro e w1 ⟨v, rfl, hrow, hb1, _⟩
  have hE1 := Lib.hid (henv.out.below hb1)
  have hB1 := Lib.hid hb1
  replace hrow := Lib.hid hrow
  obtain ⟨ok, hok⟩ : ∃ ok, (upto (parts s)).2 = ok := ⟨_, rfl⟩
  have hok2 : (setOf s).2 = ok := (setOf_ok s).trans hok
  rw [hok]
  replace hok := Lib.hid hok
  replace hok2 := Lib.hid hok2
  clear hb1
  go_wp2_with fail
  refine (hso.out w1 hE1.out).mono ?_
  rintro e w2 ⟨v2, rfl, hR2, hb2⟩
  have hE2 := Lib.hid (hE1.out.below hb2)
  have hB2 := Lib.hid (hB1.out.trans (hb2.mono hB1.out.size))
  have hrow2 := Lib.hid (hrow.out.below hb2)
  rw [hok2.out] at hR2 ⊢
  replace hR2 := Lib.hid hR2
  clear hb2
  cases ok with
  | false =>
    go_wp2_with fail
    refine (hs1.out w2 hE2.out).mono ?_
    rintro e w3 ⟨v3, rfl, _, hb3⟩
    have hB3 := Lib.hid (hB2.out.trans (hb3.mono hB2.out.size))
    rw [one_fine]
    clear hb3
    go_wp2_with fail
    go_ret
    exact ⟨rfl, hB3.out⟩
  | true =>
    have hRR := Lib.hid (show RowR w2 w1.heap.size v2 (set9 (upto (parts s)).1) by rw [← setOf_set9]; exact hR2.out rfl)
    have h9 := Lib.hid (set9_any (upto (parts s)).1 (by omega) (upto_sm _) v w2 w.heap.size hrow2.out)
    have hlen9 : (set9 (upto (parts s)).1).length ≤ 501 := by rw [← setOf_set9]; exact setOf_len h2
    clear hR2 hrow hrow2
    go_wp2_with fail
    refine (h9.out).mono ?_
    rintro e w3 ⟨u, rfl, hu, hb3⟩
    have hB3 := Lib.hid (hB2.out.trans (hb3.mono hB2.out.size))
    have hsame := Lib.hid (same_any (set9 (upto (parts s)).1) (by omega) v2 u w3 _ _ (Kd.R_below hRR.out hb3) hu)
    clear hb3 hu
    go_wp2_with fail
    refine (hsame.out).mono ?_
    rintro e w4 ⟨rfl, hb4⟩
    have hB4 := Lib.hid (hB3.out.trans (hb4.mono hB3.out.size))
    clear hb4
    go_wp2_with fail
    go_ret
    exact ⟨rfl, hB4.out⟩
end Go.Proofs.YtajifebphcgcpaaDoor.Own

namespace Go.Proofs.YtajifebphcgcpaaDoor.Own
open Go.RowKit Go.Lib
set_option linter.unusedVariables false
set_option linter.unusedSimpArgs false
theorem error_iface : ∃ ms, Tryd.prog.underlying 60 = some (.interface ms) := by
  have h0 : ((Tryd.prog.underlying 60).bind fun | .interface ms => some ms | _ => none).isSome = true := by kernel_rfl
  revert h0
  match hu : Tryd.prog.underlying 60 with
  | some (.interface ms) => exact fun _ => ⟨ms, rfl⟩
  | some x => cases x <;> simp
  | none => simp
theorem cell_of_reads {W : World} {name tn : String} {d : DataW Unit} {g : Nat} (hg : Tryd.prog.globalNamed name = some g) (hty : (Tryd.prog.globals[g]?).map (·.type) = some 60) (h : VarReads Tryd.prog W name (.iface tn d)) :
    ErrCell g W ∧ g < W.heap.size := by
  obtain ⟨g', t, cs, fuel, p, hg', hty', hv, hd⟩ := h
  obtain rfl := Option.some.inj (hg.symm.trans hg')
  obtain rfl := Option.some.inj (hty.symm.trans hty')
  obtain ⟨ms, hi⟩ := error_iface
  obtain ⟨f, u, v, hcs, _⟩ := iface_of_trod hi hd
  have hc0 : W.cell? ⟨g, 0, none⟩ = some (.iface u v) := by
    have := World.var?_cell hg hv 0
    rw [show cs = #[Value.iface u v] from by apply Array.ext'; exact hcs] at this
    simpa using this
  exact ⟨⟨_, hc0, .inr ⟨u, v, rfl⟩⟩, World.block_lt_of_cell? _ _ hc0⟩
theorem envS_of_reads {W : World} (h1 : VarReads Tryd.prog W "strconv.ErrSyntax" Rows.laid_strconv_ErrSyntax) (h2 : VarReads Tryd.prog W "strconv.ErrRange" Rows.laid_strconv_ErrRange) : EnvS W := by
  obtain ⟨a1, a2⟩ := cell_of_reads (g := 3) (by kernel_rfl) (by kernel_rfl) h1
  obtain ⟨b1, b2⟩ := cell_of_reads (g := 4) (by kernel_rfl) (by kernel_rfl) h2
  exact ⟨⟨a1, b1⟩, a2, b2⟩
end Go.Proofs.YtajifebphcgcpaaDoor.Own
