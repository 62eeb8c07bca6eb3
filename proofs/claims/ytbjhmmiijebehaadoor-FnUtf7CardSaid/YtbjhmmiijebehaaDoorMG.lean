/- The reference's FromUtf7Of against what the package makes of bytes. Plain Lean alone: no law of the program is proved here. The reference's FromUtf7Of says of bytes what the package says. Plain Lean alone: no law of the program is proved here. impl.FromUtf7 and spec.FromUtf7Of in the print's form: both say of at most 500 bytes what 'fromP' says. -/
import Derived.Test.YtbjhmmiijebehaaDoorMF
import Derived.Test.YtbjhmmiijebehaaDoorPFromUtf7Ofx3
namespace Go.Proofs.YtbjhmmiijebehaaDoor.Own
open Go.RowKit Go.Lib Go.Proofs.YtbjhmmiijebehaaDoorW.PrintWords Go.Proofs.YtbjhmmiijebehaaDoorW.PrintMore
open PFromUtf7Of (spec_units9.f spec_units9.l0 spec_FromUtf7Of.f spec_FromUtf7Of.l0 spec_FromUtf7Of.l1 spec_FromUtf7Of.j1 spec_FromUtf7Of.j3)
set_option linter.unusedVariables false
set_option linter.unusedSimpArgs false

theorem codeU_bad (T : List UInt8) (hb : ∃ c ∈ T, ¬ good c) : codeU T = none := by
  unfold codeU
  by_cases hl : T.getLast? = some 61
  · rw [if_pos hl]
  · rw [if_neg hl]
    rcases rel_all T.length T (Nat.le_refl _) hl [] with ⟨us, b', m', h1, _⟩ | ⟨_, h2⟩
    · rw [runL_none T _ hb] at h1; cases h1
    · rcases h2 with h2 | ⟨bs, h2, h3⟩
      · rw [h2]
      · rw [h2]
        show (if bs.length % 2 = 1 then none else u16 bs) = none
        rw [if_pos h3]
theorem ub_len : ∀ us : List Nat, (us.flatMap ub).length = 2 * us.length
  | [] => rfl
  | u :: t => by
    have := ub_len t
    simp [ub] at this ⊢
    omega
theorem units9_f (k : Nat) (T : ByteArray) : spec_units9.f k T = spec_units9.l0 k T (ints []) ((0 : Nat) : Int) ((0 : Nat) : Int) (T.size : Int) ((0 : Nat) : Int) := rfl
theorem units9_sum (T : ByteArray) (hT : T.size ≤ 1000) (hne : T.data.toList ≠ []) :
    match codeU T.data.toList with
    | none => Ev (fun k => spec_units9.f k T) ([], false)
    | some b => ∃ rs : List Nat, (∀ r ∈ rs, Chr r) ∧ b = rs.flatMap enc8 ∧ rs ≠ [] ∧ Ev (fun k => spec_units9.f k T) (ints rs, true) := by
  have hrun : ∀ v, Out9 v (runL ([], 0, 0) T.data.toList) → Ev (fun k => spec_units9.f k T) v := fun v hv => by
    have := l0_run T hT v T.data.toList 0 [] 0 0 (by simp) (by omega) (by omega) (by omega) (by simp) hv
    exact this
  by_cases hl : T.data.toList.getLast? = some 61
  · have hb : ∃ c ∈ T.data.toList, ¬ good c := ⟨61, List.mem_of_getLast? hl, good_61⟩
    rw [codeU_bad _ hb]
    exact hrun _ (by rw [runL_none _ _ hb]; rfl)
  · rcases rel_all T.data.toList.length T.data.toList (Nat.le_refl _) hl [] with ⟨us, b', m', h1, h2, h3, h4, h5⟩ | ⟨h1, h2⟩
    · have hcode : codeU T.data.toList = (runesU us).map fun rs => rs.flatMap enc8 := by
        unfold codeU
        rw [if_neg hl, h3]
        show (if (us.flatMap ub).length % 2 = 1 then none else u16 (us.flatMap ub)) = _
        rw [if_neg (by rw [ub_len]; omega), u16_runes us h5]
      have hus := h4 hne
      have hlen : us.length ≤ 1000 := by
        have := dec64_len _ _ h3
        rw [ub_len] at this
        have hp : (padT T.data.toList).length ≤ T.size + 3 := by
          unfold padT
          rw [List.length_append]
          have : T.data.toList.length = T.size := by simp
          split
          · simp
          · split
            · simp
            · split <;> simp
        omega
      rw [hcode]
      have hfin : ∀ v, Ev (fun k => PFromUtf7Of.spec_units9.l2 k (ints us) [] 0) v → Ev (fun k => spec_units9.f k T) v := fun v hv => by
        refine hrun v ?_
        rw [h1]
        show Fin9 ([] ++ us) m' v
        unfold Fin9
        rw [List.nil_append, if_neg (by intro h; rcases h with h | h; omega; exact hus h)]
        exact hv
      rcases hr : runesU us with _ | rs
      · exact hfin _ (l2_run us hlen h5 ([], false) us.length us 0 [] (Nat.le_refl _) (by simp) (by omega) (by simp) (by rw [hr]))
      · exact ⟨rs, runesU_chr us rs h5 hr, rfl, runesU_ne us rs hr hus, hfin _ (l2_run us hlen h5 (ints rs, true) us.length us 0 [] (Nat.le_refl _) (by simp) (by omega) (by simp) (by rw [hr]; simp))⟩
    · have hcode : codeU T.data.toList = none := by
        unfold codeU
        rw [if_neg hl]
        rcases h2 with h2 | ⟨bs, h2, h3⟩
        · rw [h2]
        · rw [h2]
          show (if bs.length % 2 = 1 then none else u16 bs) = none
          rw [if_pos h3]
      rw [hcode]
      refine hrun _ ?_
      rcases h1 with h1 | ⟨st, h1, h6⟩
      · rw [h1]; rfl
      · rw [h1]
        show Fin9 st.1 st.2.2 _
        unfold Fin9
        rw [if_pos (.inl h6)]
/-- The first hyphen, whatever stands ahead of it. -/
def cutR : List UInt8 → Option (List UInt8 × List UInt8)
  | [] => none
  | c :: t => if c = 45 then some ([], t) else (cutR t).map fun p => (c :: p.1, p.2)
theorem cutR_none : ∀ l, cutR l = none → cut45 l = none
  | [], _ => rfl
  | c :: t, h => by
    unfold cutR at h
    split at h
    · cases h
    · rename_i hc
      rcases hr : cutR t with _ | p
      · unfold cut45
        rw [if_neg hc, cutR_none t hr]
        split <;> rfl
      · rw [hr] at h; cases h
theorem cutR_some : ∀ l T r, cutR l = some (T, r) → l = T ++ 45 :: r ∧ (cut45 l = some (T, r) ∨ (cut45 l = none ∧ ∃ c ∈ T, c = 13 ∨ c = 10))
  | [], T, r, h => by cases h
  | c :: t, T, r, h => by
    unfold cutR at h
    split at h
    · rename_i hc
      cases h
      refine ⟨by rw [hc]; rfl, .inl ?_⟩
      unfold cut45
      rw [if_pos hc]
    · rename_i hc
      rcases hr : cutR t with _ | ⟨T1, r1⟩
      · rw [hr] at h; cases h
      · rw [hr] at h
        cases h
        obtain ⟨e1, e2⟩ := cutR_some t T1 r1 hr
        refine ⟨by rw [e1]; rfl, ?_⟩
        unfold cut45
        rw [if_neg hc]
        by_cases hn : c = 13 ∨ c = 10
        · rw [if_pos hn]
          exact .inr ⟨rfl, c, by simp, hn⟩
        · rw [if_neg hn]
          rcases e2 with e2 | ⟨e2, x, hx, hx2⟩
          · exact .inl (by rw [e2]; rfl)
          · exact .inr ⟨by rw [e2]; rfl, x, by simp [hx], hx2⟩
theorem good_nl : ¬ good 13 ∧ ¬ good 10 := by decide +kernel
end Go.Proofs.YtbjhmmiijebehaaDoor.Own

namespace Go.Proofs.YtbjhmmiijebehaaDoor.Own
open Go.RowKit Go.Lib Go.Proofs.YtbjhmmiijebehaaDoorW.PrintWords Go.Proofs.YtbjhmmiijebehaaDoorW.PrintMore
open PFromUtf7Of (spec_units9.f spec_FromUtf7Of.f spec_FromUtf7Of.l0 spec_FromUtf7Of.l1 spec_FromUtf7Of.j1 spec_FromUtf7Of.j3)
set_option linter.unusedVariables false
set_option linter.unusedSimpArgs false

theorem f0_end (k : Nat) (s : ByteArray) (x : List Int) (sh : Bool) (i : Int) (h : ¬ i < (s.size : Int)) : spec_FromUtf7Of.l0 (k + 1) s x sh i = some (runesBytes x, true) := by
  rw [spec_FromUtf7Of.l0, if_neg h]
theorem f0_low (k : Nat) (s : ByteArray) (x : List Int) (sh : Bool) (i : Nat) (c : UInt8) (hc : s.data.toList[i]? = some c) (h : c.toNat < 32) : spec_FromUtf7Of.l0 (k + 1) s x sh (i : Int) = spec_FromUtf7Of.j1 k s x sh (i : Int) true := by
  have hlt := (List.getElem?_eq_some_iff.1 hc).1
  have hs : i < s.size := by simpa using hlt
  rw [spec_FromUtf7Of.l0, if_pos (by omega), if_pos (by omega), bt_list s i c hc, if_pos (by omega)]
theorem f0_rest (k : Nat) (s : ByteArray) (x : List Int) (sh : Bool) (i : Nat) (c : UInt8) (hc : s.data.toList[i]? = some c) (h : ¬ c.toNat < 32) : spec_FromUtf7Of.l0 (k + 1) s x sh (i : Int) = spec_FromUtf7Of.j1 k s x sh (i : Int) (decide (126 < c.toNat)) := by
  have hlt := (List.getElem?_eq_some_iff.1 hc).1
  have hs : i < s.size := by simpa using hlt
  rw [spec_FromUtf7Of.l0, if_pos (by omega), if_pos (by omega), bt_list s i c hc, if_neg (by omega)]
  exact congrArg _ (decide_eq_decide.2 (by omega))
theorem j1_bad (k : Nat) (s : ByteArray) (x : List Int) (sh : Bool) (i : Int) : spec_FromUtf7Of.j1 (k + 1) s x sh i true = some (⟨#[]⟩, false) := by
  rw [spec_FromUtf7Of.j1, if_pos rfl]
theorem j1_amp (k : Nat) (s : ByteArray) (x : List Int) (sh : Bool) (i : Nat) (hi : i ≤ 100000) (hc : s.data.toList[i]? = some 38) : spec_FromUtf7Of.j1 (k + 1) s x sh (i : Int) false = spec_FromUtf7Of.l1 k s x sh (i : Int) ((i + 1 : Nat) : Int) := by
  have hlt := (List.getElem?_eq_some_iff.1 hc).1
  have hs : i < s.size := by simpa using hlt
  rw [spec_FromUtf7Of.j1, if_neg (by decide), if_pos (by omega), if_pos (by omega), bt_list s i 38 hc, if_pos (by rfl), wi i hi]
theorem j1_plain (k : Nat) (s : ByteArray) (rs : List Nat) (sh : Bool) (i : Nat) (c : UInt8) (hi : i ≤ 100000) (hr : rs.length ≤ 100000) (hc : s.data.toList[i]? = some c) (h : c ≠ 38) : spec_FromUtf7Of.j1 (k + 1) s (ints rs) sh (i : Int) false = spec_FromUtf7Of.l0 k s (ints (rs ++ [c.toNat])) false ((i + 1 : Nat) : Int) := by
  have hlt := (List.getElem?_eq_some_iff.1 hc).1
  have hs : i < s.size := by simpa using hlt
  have h38 : ¬ ((c.toNat : Int) = 38) := fun e => h (UInt8.toNat.inj (by show _ = 38; omega))
  have hc2 := UInt8.toNat_lt c
  have hw : wrap32 (c.toNat : Int) = (c.toNat : Int) := by unfold wrap32; omega
  rw [spec_FromUtf7Of.j1, if_neg (by decide), if_pos (by omega), if_pos (by omega), bt_list s i c hc, if_neg h38, if_pos (by rw [ints_length]; omega), wi i hi, hw, ints_append]
  rfl
theorem l1_more (k : Nat) (s : ByteArray) (x : List Int) (sh : Bool) (i : Int) (p : Nat) (c : UInt8) (hp : p ≤ 100000) (hc : s.data.toList[p]? = some c) (h : c ≠ 45) : spec_FromUtf7Of.l1 (k + 1) s x sh i (p : Int) = spec_FromUtf7Of.l1 k s x sh i ((p + 1 : Nat) : Int) := by
  have hlt := (List.getElem?_eq_some_iff.1 hc).1
  have hs : p < s.size := by simpa using hlt
  have h45 : ¬ ((c.toNat : Int) = 45) := fun e => h (UInt8.toNat.inj (by show _ = 45; omega))
  rw [spec_FromUtf7Of.l1, if_pos (by omega), if_pos (by omega), bt_list s p c hc, if_neg h45, wi p hp]
theorem l1_hyph (k : Nat) (s : ByteArray) (x : List Int) (sh : Bool) (i : Int) (p : Nat) (hc : s.data.toList[p]? = some 45) : spec_FromUtf7Of.l1 (k + 1) s x sh i (p : Int) = spec_FromUtf7Of.j3 k s x sh i (p : Int) := by
  have hlt := (List.getElem?_eq_some_iff.1 hc).1
  have hs : p < s.size := by simpa using hlt
  rw [spec_FromUtf7Of.l1, if_pos (by omega), if_pos (by omega), bt_list s p 45 hc, if_pos (by rfl)]
theorem l1_end (k : Nat) (s : ByteArray) (x : List Int) (sh : Bool) (i p : Int) (h : ¬ p < (s.size : Int)) : spec_FromUtf7Of.l1 (k + 1) s x sh i p = spec_FromUtf7Of.j3 k s x sh i p := by
  rw [spec_FromUtf7Of.l1, if_neg h]
theorem j3_end (k : Nat) (s : ByteArray) (x : List Int) (sh : Bool) (i : Int) : spec_FromUtf7Of.j3 (k + 1) s x sh i (s.size : Int) = some (⟨#[]⟩, false) := by
  rw [spec_FromUtf7Of.j3, if_pos rfl]
theorem j3_amp (k : Nat) (s : ByteArray) (rs : List Nat) (sh : Bool) (i : Nat) (hi : i + 1 < s.size) (hs : s.size ≤ 1000) (hr : rs.length ≤ 100000) : spec_FromUtf7Of.j3 (k + 1) s (ints rs) sh (i : Int) ((i + 1 : Nat) : Int) = spec_FromUtf7Of.l0 k s (ints (rs ++ [38])) false ((i + 2 : Nat) : Int) := by
  rw [spec_FromUtf7Of.j3, if_neg (by omega), wi i (by omega), if_pos rfl, if_pos (by rw [ints_length]; omega), wi (i + 1) (by omega), ints_append]
  rfl
theorem j3_shift (k : Nat) (s : ByteArray) (x : List Int) (sh : Bool) (i p : Nat) (h1 : i + 1 < p) (h2 : p < s.size) (hs : s.size ≤ 1000) : spec_FromUtf7Of.j3 (k + 1) s x sh (i : Int) (p : Int) =
    (spec_units9.f k (s.extract (i + 1) p)).bind fun bt121 => (if bt121.2 = true then (if sh = true then (some ((⟨#[]⟩ : ByteArray), false)) else (if x.length + bt121.1.length < 35184372088832 then (spec_FromUtf7Of.l0 k s (x ++ bt121.1) true ((p + 1 : Nat) : Int)) else (none))) else (some ((⟨#[]⟩ : ByteArray), false))) := by
  rw [spec_FromUtf7Of.j3, if_neg (by omega), wi i (by omega), if_neg (by omega), if_pos (by omega), if_pos (by omega), if_pos (by omega), wi p (by omega)]
  rfl
theorem scanR (s : ByteArray) (hs : s.size ≤ 1000) (x : List Int) (sh : Bool) (i : Int) (v : ByteArray × Bool) : ∀ (t : List UInt8) (p : Nat), s.data.toList.drop p = t → p ≤ s.size →
    (match cutR t with
      | none => Ev (fun k => spec_FromUtf7Of.j3 k s x sh i (s.size : Int)) v
      | some q => Ev (fun k => spec_FromUtf7Of.j3 k s x sh i ((p + q.1.length : Nat) : Int)) v) →
    Ev (fun k => spec_FromUtf7Of.l1 k s x sh i (p : Int)) v := by
  intro t
  induction t with
  | nil =>
    intro p hd hp h
    have hpe : p = s.size := by have := congrArg List.length hd; simp at this; omega
    have h' : Ev (fun k => spec_FromUtf7Of.j3 k s x sh i (s.size : Int)) v := h
    rw [← hpe] at h'
    exact h'.of fun k => l1_end k s x sh i p (by omega)
  | cons c t ih =>
    intro p hd hp h
    have hpl : p < s.size := by have := congrArg List.length hd; simp at this; omega
    have hc : s.data.toList[p]? = some c := by have := congrArg (·[0]?) hd; simpa using this
    have hd2 : s.data.toList.drop (p + 1) = t := by rw [← List.drop_drop, hd]; rfl
    by_cases h45 : c = 45
    · subst h45
      have hcr : cutR (45 :: t) = some ([], t) := by unfold cutR; rw [if_pos rfl]
      rw [hcr] at h
      have h' : Ev (fun k => spec_FromUtf7Of.j3 k s x sh i (p : Int)) v := h
      exact h'.of fun k => l1_hyph k s x sh i p hc
    · have hcr : cutR (c :: t) = (cutR t).map fun q => (c :: q.1, q.2) := by rw [cutR, if_neg h45]
      have hI : Ev (fun k => spec_FromUtf7Of.l1 k s x sh i ((p + 1 : Nat) : Int)) v := by
        refine ih (p + 1) hd2 (by omega) ?_
        rw [hcr] at h
        rcases hq : cutR t with _ | ⟨T, r⟩
        · rw [hq] at h; exact h
        · rw [hq] at h
          have h' : Ev (fun k => spec_FromUtf7Of.j3 k s x sh i ((p + (c :: T).length : Nat) : Int)) v := h
          show Ev (fun k => spec_FromUtf7Of.j3 k s x sh i ((p + 1 + T.length : Nat) : Int)) v
          rw [show p + 1 + T.length = p + (c :: T).length by simp; omega]
          exact h'
      exact hI.of fun k => l1_more k s x sh i p c (by omega) hc h45
theorem extract_list (s : ByteArray) (a b : Nat) : (s.extract a b).data.toList = (s.data.toList.drop a).take (b - a) := by
  simp [List.extract_eq_take_drop]
theorem f0_run (s : ByteArray) (hs : s.size ≤ 1000) (v : ByteArray × Bool) : ∀ (n : Nat) (l : List UInt8) (i : Nat) (rs : List Nat) (sh : Bool), l.length ≤ n → s.data.toList.drop i = l → i ≤ s.size → rs.length ≤ 3 * i → (∀ r ∈ rs, Chr r) →
    (match trF (!sh) l with
      | none => v = (⟨#[]⟩, false)
      | some out => v = (⟨(rs.flatMap enc8 ++ out).toArray⟩, true)) →
    Ev (fun k => spec_FromUtf7Of.l0 k s (ints rs) sh (i : Int)) v := by
  intro n
  induction n with
  | zero =>
    intro l i rs sh hl hd hi hr hch h
    have hle : l = [] := List.eq_nil_of_length_eq_zero (by omega)
    subst hle
    have hie : i = s.size := by have := congrArg List.length hd; simp at this; omega
    rw [trF_nil] at h
    have hv : v = (runesBytes (ints rs), true) := by rw [runesBytes_eq rs hch]; simpa using h
    rw [hv]
    exact Ev.const fun k => f0_end k s (ints rs) sh i (by omega)
  | succ n ih =>
    intro l i rs sh hl hd hi hr hch h
    match l, hl, hd, h with
    | [], hl, hd, h =>
      have hie : i = s.size := by have := congrArg List.length hd; simp at this; omega
      rw [trF_nil] at h
      have hv : v = (runesBytes (ints rs), true) := by rw [runesBytes_eq rs hch]; simpa using h
      rw [hv]
      exact Ev.const fun k => f0_end k s (ints rs) sh i (by omega)
    | c :: t, hl, hd, h =>
      have hil : i < s.size := by have := congrArg List.length hd; simp at this; omega
      have hc : s.data.toList[i]? = some c := by have := congrArg (·[0]?) hd; simpa using this
      have hd2 : s.data.toList.drop (i + 1) = t := by rw [← List.drop_drop, hd]; rfl
      have htl : t.length = s.size - i - 1 := by have := congrArg List.length hd2; simp at this; omega
      by_cases hlow : c.toNat < 32
      · rw [trF_bad _ c t (.inl hlow)] at h
        have hv : v = (⟨#[]⟩, false) := h
        rw [hv]
        exact (show Ev (fun k => spec_FromUtf7Of.j1 k s (ints rs) sh (i : Int) true) (⟨#[]⟩, false) from Ev.const fun k => j1_bad k s (ints rs) sh i).of fun k => f0_low k s (ints rs) sh i c hc hlow
      · by_cases hhigh : 126 < c.toNat
        · rw [trF_bad _ c t (.inr hhigh)] at h
          have hv : v = (⟨#[]⟩, false) := h
          rw [hv]
          refine (show Ev (fun k => spec_FromUtf7Of.j1 k s (ints rs) sh (i : Int) true) (⟨#[]⟩, false) from Ev.const fun k => j1_bad k s (ints rs) sh i).of fun k => ?_
          rw [f0_rest k s (ints rs) sh i c hc hlow, decide_eq_true hhigh]
        · have hok : ¬ (c.toNat < 32 ∨ 126 < c.toNat) := by omega
          suffices hj1 : Ev (fun k => spec_FromUtf7Of.j1 k s (ints rs) sh (i : Int) false) v by
            refine hj1.of fun k => ?_
            rw [f0_rest k s (ints rs) sh i c hc hlow, decide_eq_false hhigh]
          by_cases h38 : c = 38
          · subst h38
            refine Ev.of ?_ fun k => j1_amp k s (ints rs) sh i (by omega) hc
            refine scanR s hs (ints rs) sh i v t (i + 1) hd2 (by omega) ?_
            rcases hcr : cutR t with _ | ⟨T, r⟩
            · rw [trF_open _ t (cutR_none t hcr)] at h
              have hv : v = (⟨#[]⟩, false) := h
              show Ev (fun k => spec_FromUtf7Of.j3 k s (ints rs) sh i (s.size : Int)) v
              rw [hv]
              exact Ev.const fun k => j3_end k s (ints rs) sh i
            · obtain ⟨e1, e2⟩ := cutR_some t T r hcr
              show Ev (fun k => spec_FromUtf7Of.j3 k s (ints rs) sh i ((i + 1 + T.length : Nat) : Int)) v
              have hlenT : T.length + r.length + 1 = t.length := by rw [e1]; simp; omega
              have hdr : s.data.toList.drop (i + 1 + T.length + 1) = r := by
                have : s.data.toList.drop (i + 1 + T.length + 1) = (s.data.toList.drop (i + 1)).drop (T.length + 1) := by rw [List.drop_drop]; congr 1
                rw [this, hd2, e1]
                rw [List.drop_append, List.drop_of_length_le (by omega)]
                simp
              by_cases hT0 : T = []
              · subst hT0
                have hcut : cut45 t = some ([], r) := by
                  rcases e2 with e2 | ⟨_, x, hx, _⟩
                  · exact e2
                  · simp at hx
                rw [trF_amp _ t r hcut] at h
                have hI : Ev (fun k => spec_FromUtf7Of.l0 k s (ints (rs ++ [38])) false ((i + 2 : Nat) : Int)) v := by
                  refine ih r (i + 2) (rs ++ [38]) false (by simp at hl hlenT; omega) hdr (by simp at hlenT; omega) (by simp; omega) ?_ ?_
                  · intro x hx
                    rcases List.mem_append.1 hx with hx | hx
                    · exact hch x hx
                    · simp at hx; subst hx; unfold Chr; omega
                  · show (match trF true r with
                      | none => v = (⟨#[]⟩, false)
                      | some out => v = (⟨((rs ++ [38]).flatMap enc8 ++ out).toArray⟩, true))
                    rcases ht : trF true r with _ | out
                    · rw [ht] at h; exact h
                    · rw [ht] at h
                      have h' : v = (⟨(rs.flatMap enc8 ++ 38 :: out).toArray⟩, true) := h
                      show v = (⟨((rs ++ [38]).flatMap enc8 ++ out).toArray⟩, true)
                      rw [h', List.flatMap_append]
                      have : [38].flatMap enc8 = [38] := by simp only [List.flatMap_cons, List.flatMap_nil, List.append_nil]; exact enc8_1 38 (by omega)
                      rw [this]; simp
                exact hI.of fun k => j3_amp k s rs sh i (by simp at hlenT; omega) hs (by omega)
              · have hTpos : 0 < T.length := List.length_pos_iff.2 hT0
                have hex : (s.extract (i + 1) (i + 1 + T.length)).data.toList = T := by
                  rw [extract_list, hd2, e1, show i + 1 + T.length - (i + 1) = T.length by omega]; simp
                have hsz : (s.extract (i + 1) (i + 1 + T.length)).size = T.length := by
                  have h0 := congrArg List.length hex
                  rw [Array.length_toList] at h0
                  exact h0
                have hsum := units9_sum (s.extract (i + 1) (i + 1 + T.length)) (by rw [hsz]; omega) (by rw [hex]; exact hT0)
                rw [hex] at hsum
                have hstep := fun k => j3_shift k s (ints rs) sh i (i + 1 + T.length) (by omega) (by omega) hs
                have hfail : (Ev (fun k => spec_units9.f k (s.extract (i + 1) (i + 1 + T.length))) ([], false)) → v = (⟨#[]⟩, false) → Ev (fun k => spec_FromUtf7Of.j3 k s (ints rs) sh i ((i + 1 + T.length : Nat) : Int)) v := by
                  rintro ⟨m, hm⟩ hv
                  refine ⟨m + 1, fun k hk => ?_⟩
                  obtain ⟨j, rfl⟩ : ∃ j, k = j + 1 := ⟨k - 1, by omega⟩
                  have hmj : spec_units9.f j (s.extract (i + 1) (i + 1 + T.length)) = some ([], false) := hm j (by omega)
                  refine (hstep j).trans ?_
                  rw [hmj, hv]
                  rfl
                rcases e2 with e2 | ⟨e2, x, hx, hx2⟩
                · rcases hcU : codeU T with _ | b
                  · rw [hcU] at hsum
                    refine hfail hsum ?_
                    cases sh with
                    | false =>
                      have : trF (!false) (38 :: t) = none := trF_shift1 t T r e2 hT0 (.inl hcU)
                      rw [this] at h; exact h
                    | true =>
                      have : trF (!true) (38 :: t) = none := trF_shift0 t T r e2 hT0
                      rw [this] at h; exact h
                  · rw [hcU] at hsum
                    obtain ⟨rs2, hch2, hb, hne2, m, hm⟩ := hsum
                    cases sh with
                    | true =>
                      have : trF (!true) (38 :: t) = none := trF_shift0 t T r e2 hT0
                      rw [this] at h
                      have hv : v = (⟨#[]⟩, false) := h
                      refine ⟨m + 1, fun k hk => ?_⟩
                      obtain ⟨j, rfl⟩ : ∃ j, k = j + 1 := ⟨k - 1, by omega⟩
                      have hmj : spec_units9.f j (s.extract (i + 1) (i + 1 + T.length)) = some (ints rs2, true) := hm j (by omega)
                      refine (hstep j).trans ?_
                      rw [hmj, hv]
                      rfl
                    | false =>
                      have hbne : b ≠ [] := by
                        rw [hb]
                        intro h0
                        cases rs2 with
                        | nil => exact hne2 rfl
                        | cons y ys =>
                          simp only [List.flatMap_cons] at h0
                          exact enc8_ne y (List.append_eq_nil_iff.1 h0).1
                      have htr : trF (!false) (38 :: t) = (trF false r).map (b ++ ·) := trF_shift t T r b e2 hT0 hcU hbne
                      rw [htr] at h
                      have hlen2 : rs2.length ≤ b.length := by
                        rw [hb]
                        clear hb hm hch2 hne2 htr h
                        induction rs2 with
                        | nil => simp
                        | cons y ys ihy =>
                          have := List.length_pos_iff.2 (enc8_ne y)
                          simp only [List.flatMap_cons, List.length_append, List.length_cons]
                          omega
                      have hbl := codeU_len T b hcU
                      have hI : Ev (fun k => spec_FromUtf7Of.l0 k s (ints (rs ++ rs2)) true ((i + 1 + T.length + 1 : Nat) : Int)) v := by
                        refine ih r (i + 1 + T.length + 1) (rs ++ rs2) true (by simp at hl; omega) hdr (by omega) (by simp; omega) ?_ ?_
                        · intro x hx
                          rcases List.mem_append.1 hx with hx | hx
                          · exact hch x hx
                          · exact hch2 x hx
                        · show (match trF false r with
                            | none => v = (⟨#[]⟩, false)
                            | some out => v = (⟨((rs ++ rs2).flatMap enc8 ++ out).toArray⟩, true))
                          rcases ht : trF false r with _ | out
                          · rw [ht] at h; exact h
                          · rw [ht] at h
                            have h' : v = (⟨(rs.flatMap enc8 ++ (b ++ out)).toArray⟩, true) := h
                            show v = (⟨((rs ++ rs2).flatMap enc8 ++ out).toArray⟩, true)
                            rw [h', List.flatMap_append, hb]; simp
                      obtain ⟨m2, hm2⟩ := hI
                      refine ⟨m + m2 + 1, fun k hk => ?_⟩
                      obtain ⟨j, rfl⟩ : ∃ j, k = j + 1 := ⟨k - 1, by omega⟩
                      have hmj : spec_units9.f j (s.extract (i + 1) (i + 1 + T.length)) = some (ints rs2, true) := hm j (by omega)
                      refine (hstep j).trans ?_
                      rw [hmj]
                      have hl3 : (ints rs).length + (ints rs2).length < 35184372088832 := by rw [ints_length, ints_length]; omega
                      simp only [Option.bind_some, Bool.false_eq_true, if_true, if_false]
                      rw [if_pos hl3, ← ints_append]
                      exact hm2 j (by omega)
                · have hbadT : codeU T = none := codeU_bad T (by
                    rcases hx2 with rfl | rfl
                    · exact ⟨13, hx, good_nl.1⟩
                    · exact ⟨10, hx, good_nl.2⟩)
                  rw [hbadT] at hsum
                  refine hfail hsum ?_
                  rw [trF_open _ t e2] at h
                  exact h
          · have htr := trF_plain (!sh) c t hok h38
            rw [htr] at h
            have hI : Ev (fun k => spec_FromUtf7Of.l0 k s (ints (rs ++ [c.toNat])) false ((i + 1 : Nat) : Int)) v := by
              refine ih t (i + 1) (rs ++ [c.toNat]) false (by simp at hl; omega) hd2 (by omega) (by simp; omega) ?_ ?_
              · intro x hx
                rcases List.mem_append.1 hx with hx | hx
                · exact hch x hx
                · simp at hx; subst hx; unfold Chr; omega
              · show (match trF true t with
                  | none => v = (⟨#[]⟩, false)
                  | some out => v = (⟨((rs ++ [c.toNat]).flatMap enc8 ++ out).toArray⟩, true))
                rcases ht : trF true t with _ | out
                · rw [ht] at h; exact h
                · rw [ht] at h
                  have h' : v = (⟨(rs.flatMap enc8 ++ c :: out).toArray⟩, true) := h
                  show v = (⟨((rs ++ [c.toNat]).flatMap enc8 ++ out).toArray⟩, true)
                  rw [h', List.flatMap_append]
                  have : [c.toNat].flatMap enc8 = [c] := by
                    simp only [List.flatMap_cons, List.flatMap_nil, List.append_nil]
                    rw [enc8_1 _ (by omega), UInt8.ofNat_toNat]
                  rw [this]; simp
            exact hI.of fun k => j1_plain k s rs sh i c (by omega) (by omega) hc h38
theorem ref_from (s : ByteArray) (hs : s.size ≤ 1000) : Ev (fun k => spec_FromUtf7Of.f k s) (fromP s) := by
  have h := f0_run s hs (fromP s) s.data.toList.length s.data.toList 0 [] false (Nat.le_refl _) (by simp) (by omega) (by simp) (by simp) (by
    unfold fromP
    show (match trF true s.data.toList with
      | none => _ = ((⟨#[]⟩ : ByteArray), false)
      | some out => _ = ((⟨([].flatMap enc8 ++ out).toArray⟩ : ByteArray), true))
    rcases trF true s.data.toList with _ | out
    · rfl
    · rfl)
  exact h
end Go.Proofs.YtbjhmmiijebehaaDoor.Own

namespace Go.Proofs.YtbjhmmiijebehaaDoor.Own
open Go.RowKit Go.Lib
set_option linter.unusedVariables false
set_option linter.unusedSimpArgs false

def EnvU (w : World) : Prop := ∃ (t : TypeId) (v : Value), w.cell? ⟨0, 0, none⟩ = some (.iface t v)
theorem EnvU.all {w : World} (h : EnvU w) : ∀ W, Below w.heap.size w W → EnvU W := fun W hb => by
  obtain ⟨t, v, hc⟩ := h
  exact ⟨t, v, (hb.cell (World.block_lt_of_cell? w _ hc)).trans hc⟩
def impl_FromUtf7.f (s : ByteArray) : Option (ByteArray × Bool) := if s.size ≤ 3000 then some (fromP s) else none
theorem impl_FromUtf7.calls (a0 : ByteArray) (r1 : ByteArray) (r2 : Bool) (w : World) (h : impl_FromUtf7.f a0 = some (r1, r2)) (henv : EnvU w) :
    Calls Tryd.prog 6 #[.string a0] w fun e w' => e = .returned (.tuple #[.string r1, .bool r2]) ∧ Below w.heap.size w w' := by
  unfold impl_FromUtf7.f at h
  by_cases hs : a0.size ≤ 3000
  · rw [if_pos hs] at h
    have h' := Option.some.inj h
    obtain ⟨t, v, hc⟩ := henv
    have hq := fromUtf7_any a0 hs w t v (World.block_lt_of_cell? w _ hc) hc
    rw [h'] at hq
    exact hq
  · rw [if_neg hs] at h; cases h
def spec_FromUtf7OfF.f (s : ByteArray) : Option (ByteArray × Bool) := if s.size ≤ 1000 then some (fromP s) else none
theorem spec_FromUtf7OfF.calls (a0 : ByteArray) (r1 : ByteArray) (r2 : Bool) (w : World) (h : spec_FromUtf7OfF.f a0 = some (r1, r2)) :
    Calls Tryd.prog 5 #[.string a0] w fun e w' => e = .returned (.tuple #[.string r1, .bool r2]) ∧ Below w.heap.size w w' := by
  unfold spec_FromUtf7OfF.f at h
  by_cases hs : a0.size ≤ 1000
  · rw [if_pos hs] at h
    have h' := Option.some.inj h
    obtain ⟨k, hk⟩ := ref_from a0 hs
    have hk' := hk k (Nat.le_refl _)
    exact PFromUtf7Of.spec_FromUtf7Of.calls k a0 r1 r2 w (by rw [← h']; exact hk')
  · rw [if_neg hs] at h; cases h
end Go.Proofs.YtbjhmmiijebehaaDoor.Own
