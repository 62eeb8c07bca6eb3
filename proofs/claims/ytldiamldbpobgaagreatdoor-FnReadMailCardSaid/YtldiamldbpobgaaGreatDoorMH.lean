/- Plain words: spec.put. No law of the program is proved here. Plain words: spec.Params tells the words as keys with values. No law of the program is proved here. -/
import Derived.Test.YtldiamldbpobgaaGreatDoorPParamsx1
import Derived.Test.YtldiamldbpobgaaGreatDoorMG
namespace Go.Proofs.YtldiamldbpobgaaGreatDoor.Own
open Go.RowKit Go.Lib Go.Proofs.YtldiamldbpobgaaGreatDoor.PParams Go.Proofs.YtldiamldbpobgaaGreatDoorW.PrintWords Go.Proofs.YtldiamldbpobgaaGreatDoorW.PrintLast
set_option linter.unusedVariables false
set_option linter.unusedSimpArgs false

def kvS (x : S36) : KV := (x.f0.data.toList, x.f1.data.toList)
def putS : List S36 → S36 → List S36
  | [], x => [x]
  | y :: l, x => if y.f0 = x.f0 then x :: l else y :: putS l x
theorem putS_len : ∀ (l : List S36) (x : S36), (putS l x).length ≤ l.length + 1
  | [], x => by simp [putS]
  | y :: l, x => by
    rw [putS]
    split
    · simp
    · have := putS_len l x
      simp
      omega
theorem rdT (l : List S36) (i : Nat) (y : S36) (h : l[i]? = some y) : rd_T36 l (i : Int) = y := by
  unfold rd_T36
  rw [Int.toNat_natCast, List.getD_eq_getElem?_getD, h]
  rfl
theorem putS_hit : ∀ (p : List S36) (y : S36) (r : List S36) (x : S36), (∀ z ∈ p, z.f0 ≠ x.f0) → y.f0 = x.f0 → putS (p ++ y :: r) x = (p ++ y :: r).set p.length x
  | [], y, r, x, _, h => by rw [List.nil_append, putS, if_pos h]; rfl
  | z :: p, y, r, x, hp, h => by
    rw [List.cons_append, putS, if_neg (hp z (by simp)), putS_hit p y r x (fun u hu => hp u (by simp [hu])) h]
    rfl
theorem putS_miss : ∀ (p : List S36) (x : S36), (∀ z ∈ p, z.f0 ≠ x.f0) → putS p x = p ++ [x]
  | [], x, _ => rfl
  | z :: p, x, hp => by
    rw [putS, if_neg (hp z (by simp)), putS_miss p x (fun u hu => hp u (by simp [hu]))]
    rfl
theorem put_tells (l : List S36) (x : S36) (hl : l.length ≤ 1000) : ∀ (r p : List S36), l = p ++ r → (∀ z ∈ p, z.f0 ≠ x.f0) → Ev (fun k => spec_put.l0 k l (p.length : Int) x.f0 x.f1 x.f2) (putS l x)
  | [], p, h, hp => by
    rw [List.append_nil] at h
    subst h
    refine Ev.one fun k => ?_
    rw [spec_put.l0, if_neg (by omega), if_pos (by omega), putS_miss l x hp]
  | y :: r, p, h, hp => by
    have hy : l[p.length]? = some y := by rw [h, List.getElem?_append_right (Nat.le_refl _), Nat.sub_self]; rfl
    have hpl : p.length < l.length := (List.getElem?_eq_some_iff.1 hy).1
    have hrd := rdT l p.length y hy
    by_cases he : y.f0 = x.f0
    · refine Ev.one fun k => ?_
      rw [spec_put.l0, if_pos (by omega), if_pos (by omega), hrd, if_pos (by rw [he]), Int.toNat_natCast, h, putS_hit p y r x hp he]
    · have hne : ¬ y.f0.toList = x.f0.toList := fun h0 => he (ba_ext' h0)
      have ih := put_tells l x hl r (p ++ [y]) (by rw [h]; simp) (fun z hz => by
        rcases List.mem_append.1 hz with h1 | h1
        · exact hp z h1
        · rw [List.mem_singleton.1 h1]; exact he)
      refine Ev.step (fun k => ?_) ih
      rw [spec_put.l0, if_pos (by omega), if_pos (by omega), hrd, if_neg hne, wrap_succ (by omega)]
      simp
def Distinct (l : List S36) : Prop := l.Pairwise fun a b => a.f0 ≠ b.f0
theorem putS_mem : ∀ (l : List S36) (x z : S36), z ∈ putS l x → z = x ∨ z ∈ l
  | [], x, z, h => Or.inl (List.mem_singleton.1 h)
  | y :: l, x, z, h => by
    rw [putS] at h
    split at h
    · rcases List.mem_cons.1 h with rfl | h
      · exact Or.inl rfl
      · exact Or.inr (List.mem_cons_of_mem _ h)
    · rcases List.mem_cons.1 h with rfl | h
      · exact Or.inr (by simp)
      · rcases putS_mem l x z h with h | h
        · exact Or.inl h
        · exact Or.inr (List.mem_cons_of_mem _ h)
theorem putS_dist : ∀ (l : List S36) (x : S36), Distinct l → Distinct (putS l x)
  | [], x, _ => List.pairwise_singleton _ _
  | y :: l, x, h => by
    unfold Distinct at h ⊢
    rw [List.pairwise_cons] at h
    rw [putS]
    split
    · rename_i he
      rw [List.pairwise_cons]
      exact ⟨fun z hz => by rw [← he]; exact h.1 z hz, h.2⟩
    · rename_i he
      rw [List.pairwise_cons]
      refine ⟨fun z hz => ?_, putS_dist l x h.2⟩
      rcases putS_mem l x z hz with rfl | hz
      · exact he
      · exact h.1 z hz
theorem putS_perm : ∀ (l : List S36) (x : S36), Distinct l → ((putS l x).map kvS).Perm (putA (l.map kvS) (kvS x))
  | [], x, _ => List.Perm.refl _
  | y :: l, x, h => by
    unfold Distinct at h
    rw [List.pairwise_cons] at h
    rw [putS]
    unfold putA
    rw [List.map_cons, List.filter_cons]
    by_cases he : y.f0 = x.f0
    · have hf : ((kvS y).1 != (kvS x).1) = false := by
        rw [bne_eq_false_iff_eq]
        show y.f0.data.toList = x.f0.data.toList
        rw [he]
      rw [if_pos he, hf, if_neg (by decide), List.map_cons]
      refine List.Perm.cons _ (List.Perm.of_eq ?_)
      rw [List.filter_eq_self.2]
      intro q hq
      obtain ⟨z, hz, rfl⟩ := List.mem_map.1 hq
      rw [bne_iff_ne]
      intro h0
      exact h.1 z hz (ba_ext (by rw [he]; exact h0.symm))
    · have hf : ((kvS y).1 != (kvS x).1) = true := by
        rw [bne_iff_ne]
        intro h0
        exact he (ba_ext h0)
      rw [if_neg he, hf, if_pos rfl, List.map_cons]
      have ih := putS_perm l x h.2
      unfold putA at ih
      exact (ih.cons _).trans (List.Perm.swap _ _ _)
theorem putA_perm {al bl : List KV} (h : al.Perm bl) (p : KV) : (putA al p).Perm (putA bl p) := (h.filter _).cons _
end Go.Proofs.YtldiamldbpobgaaGreatDoor.Own

namespace Go.Proofs.YtldiamldbpobgaaGreatDoor.Own
open Go.RowKit Go.Lib Go.Proofs.YtldiamldbpobgaaGreatDoor.PParams Go.Proofs.YtldiamldbpobgaaGreatDoorW.PrintWords Go.Proofs.YtldiamldbpobgaaGreatDoorW.PrintLast
set_option linter.unusedVariables false
set_option linter.unusedSimpArgs false

def seg (L : List UInt8) (f t : Nat) : List UInt8 := (L.drop f).take (t - f)
theorem ext_seg (s : ByteArray) (f t : Nat) : s.extract f t = ⟨(seg s.data.toList f t).toArray⟩ := ba_ext (by rw [ext_list]; rfl)
theorem up_ok (s : ByteArray) (hs : s.size ≤ 1000) (f t : Nat) : Own.spec_Upper.f (s.extract f t) = some (upS (s.extract f t)) := by
  unfold Own.spec_Upper.f
  rw [if_pos (by rw [ext_size]; omega)]
theorem upper_up (l : List UInt8) : Lib.toUpperA l = l.map upB := by
  unfold Lib.toUpperA
  rw [show upperB = upB from funext upperB_upB]
theorem ne61 (s : ByteArray) (j : Nat) (c : UInt8) (hc : s.data.toList[j]? = some c) (h : c ≠ 61) : ¬ bt s (j : Int) = 61 := by
  rw [bt_some s j c hc]
  intro h0
  exact h (UInt8.toNat_inj.1 (by show c.toNat = 61; omega))
theorem l2_fin (s : ByteArray) (l : List S36) (i fr : Nat) (x : S36) (R : List S36 × Bool) (hl : l.length ≤ 1000) (h : Ev (fun k => spec_Params.l0 k s (putS l x) (i : Int)) R) : Ev (fun k => spec_Params.l2 k s l (i : Int) (fr : Int) (i : Int) x.f0 x.f1 x.f2) R := by
  have hp : Ev (fun k => spec_put.f k l x.f0 x.f1 x.f2) (putS l x) := put_tells l x hl l [] rfl (fun z hz => by cases hz)
  refine Ev.step (fun k => ?_) (Ev.bind (f := fun n t => spec_Params.l0 n s t (i : Int)) hp h)
  rw [spec_Params.l2, if_neg (by omega)]
theorem l2_skip (s : ByteArray) (hs : s.size ≤ 1000) (l : List S36) (i fr : Nat) (hi : i ≤ s.size) (key val : ByteArray) (has : Bool) (R : List S36 × Bool) : ∀ (m q : Nat), q + m ≤ i → (∀ j c, q ≤ j → j < q + m → s.data.toList[j]? = some c → c ≠ 61) →
    Ev (fun k => spec_Params.l2 k s l (i : Int) (fr : Int) ((q + m : Nat) : Int) key val has) R → Ev (fun k => spec_Params.l2 k s l (i : Int) (fr : Int) (q : Int) key val has) R
  | 0, q, h, hn, hR => hR
  | m + 1, q, h, hn, hR => by
    obtain ⟨c, hc⟩ : ∃ c, s.data.toList[q]? = some c := ⟨_, List.getElem?_eq_getElem (by rw [← size_list]; omega)⟩
    have ih := l2_skip s hs l i fr hi key val has R m (q + 1) (by omega) (fun j c h1 h2 => hn j c (by omega) (by omega)) (by rw [show q + 1 + m = q + (m + 1) by omega]; exact hR)
    refine Ev.step (fun k => ?_) ih
    rw [spec_Params.l2, if_pos (by omega), if_pos (by omega), if_pos (by omega), if_neg (ne61 s q c hc (hn q c (Nat.le_refl _) (by omega) hc)), wrap_succ (by omega)]
theorem l2_dup (s : ByteArray) (l : List S36) (i fr q : Nat) (hq : q < i) (hi : i ≤ s.size) (key val : ByteArray) (hc : s.data.toList[q]? = some 61) : Ev (fun k => spec_Params.l2 k s l (i : Int) (fr : Int) (q : Int) key val true) ([], false) := by
  refine Ev.one fun k => ?_
  have hb : bt s (q : Int) = 61 := bt_some s q 61 hc
  rw [spec_Params.l2, if_pos (by omega), if_pos (by omega), if_pos (by omega), if_pos hb, if_pos rfl]
theorem l2_first (s : ByteArray) (hs : s.size ≤ 1000) (l : List S36) (i fr q : Nat) (hfr : fr ≤ q) (hq : q < i) (hi : i ≤ s.size) (key val : ByteArray) (hc : s.data.toList[q]? = some 61) (R : List S36 × Bool)
    (h : Ev (fun k => spec_Params.l2 k s l (i : Int) (fr : Int) ((q + 1 : Nat) : Int) (upS (s.extract fr q)) (s.extract (q + 1) i) true) R) : Ev (fun k => spec_Params.l2 k s l (i : Int) (fr : Int) (q : Int) key val false) R := by
  refine Ev.step (fun k => ?_) h
  have hb : bt s (q : Int) = 61 := bt_some s q 61 hc
  rw [spec_Params.l2, if_pos (by omega), if_pos (by omega), if_pos (by omega), if_pos hb, if_neg (by decide), if_pos (by omega), if_pos (by omega), if_pos (by omega), Int.toNat_natCast, Int.toNat_natCast, up_ok s hs, Option.bind_some, wrap_succ (by omega), if_pos (by omega), if_pos (by omega), if_pos (by omega), Int.toNat_natCast, Int.toNat_natCast]
theorem seg_at (L : List UInt8) (f t j : Nat) (c : UInt8) (h1 : f ≤ j) (h2 : j < t) (hc : L[j]? = some c) : c ∈ seg L f t := by
  unfold seg
  apply List.mem_of_getElem? (i := j - f)
  rw [List.getElem?_take, if_pos (by omega), List.getElem?_drop, show f + (j - f) = j by omega]
  exact hc
theorem word_tells (s : ByteArray) (hs : s.size ≤ 1000) (l : List S36) (hl : l.length ≤ 1000) (fr i : Nat) (hfr : fr ≤ i) (hi : i ≤ s.size) :
    (kvOf (seg s.data.toList fr i) = none ∧ Ev (fun k => spec_Params.j2 k s l (i : Int) (fr : Int)) ([], false)) ∨
    ∃ x, kvOf (seg s.data.toList fr i) = some (kvS x) ∧ ∀ R, Ev (fun k => spec_Params.l0 k s (putS l x) (i : Int)) R → Ev (fun k => spec_Params.j2 k s l (i : Int) (fr : Int)) R := by
  have hj : ∀ k, spec_Params.j2 (k + 1) s l (i : Int) (fr : Int) = spec_Params.l2 k s l (i : Int) (fr : Int) (fr : Int) (upS (s.extract fr i)) ⟨#[]⟩ false := fun k => by
    rw [spec_Params.j2, if_pos (by omega), if_pos (by omega), if_pos (by omega), Int.toNat_natCast, Int.toNat_natCast, up_ok s hs, Option.bind_some]
  by_cases hn : No61 (seg s.data.toList fr i)
  · refine Or.inr ⟨⟨upS (s.extract fr i), ⟨#[]⟩, false⟩, ?_, fun R hR => ?_⟩
    · rw [kv_none _ hn, upper_up]
      unfold kvS
      rw [upS_list, ext_seg]
    · refine Ev.step hj (l2_skip s hs l i fr hi _ _ _ R (i - fr) fr (by omega) (fun j c h1 h2 hc => hn c (seg_at _ _ _ j c h1 (by omega) hc)) ?_)
      rw [show fr + (i - fr) = i by omega]
      exact l2_fin s l i fr ⟨upS (s.extract fr i), ⟨#[]⟩, false⟩ R hl hR
  · obtain ⟨a, b, hab, ha⟩ := has_split _ hn
    have hlen : a.length + b.length + 1 = i - fr := by
      have := congrArg List.length hab
      unfold seg at this
      rw [List.length_take, List.length_drop, ← size_list] at this
      simp at this
      omega
    have hdr : s.data.toList.drop fr = a ++ 61 :: b ++ (s.data.toList.drop i) := by
      rw [← hab]
      unfold seg
      have := (List.take_append_drop (i - fr) (s.data.toList.drop fr)).symm
      rw [List.drop_drop, show fr + (i - fr) = i by omega] at this
      exact this
    have hat : ∀ j, s.data.toList[fr + j]? = (a ++ 61 :: b ++ (s.data.toList.drop i))[j]? := fun j => by rw [← hdr, List.getElem?_drop]
    have hq : s.data.toList[fr + a.length]? = some 61 := by
      rw [hat, List.append_assoc, List.getElem?_append_right (Nat.le_refl _), Nat.sub_self]
      rfl
    have hka : ∀ j c, fr ≤ j → j < fr + a.length → s.data.toList[j]? = some c → c ≠ 61 := fun j c h1 h2 hc => by
      rw [show j = fr + (j - fr) by omega, hat, List.append_assoc, List.getElem?_append_left (by omega)] at hc
      exact ha c (List.mem_of_getElem? hc)
    have hsa : seg s.data.toList fr (fr + a.length) = a := by
      unfold seg
      rw [hdr, show fr + a.length - fr = a.length by omega, List.append_assoc, List.take_left']
      rfl
    have hsb : seg s.data.toList (fr + a.length + 1) i = b := by
      unfold seg
      have e : a ++ 61 :: b ++ s.data.toList.drop i = (a ++ [61]) ++ (b ++ s.data.toList.drop i) := by simp
      rw [show fr + a.length + 1 = fr + (a.length + 1) by omega, ← List.drop_drop, hdr, e, List.drop_left' (by simp), show i - (fr + (a.length + 1)) = b.length by omega, List.take_left' rfl]
    have hgo : ∀ R, Ev (fun k => spec_Params.l2 k s l (i : Int) (fr : Int) ((fr + a.length + 1 : Nat) : Int) (upS (s.extract fr (fr + a.length))) (s.extract (fr + a.length + 1) i) true) R → Ev (fun k => spec_Params.j2 k s l (i : Int) (fr : Int)) R := fun R hR =>
      Ev.step hj (l2_skip s hs l i fr hi _ _ _ R a.length fr (by omega) hka (l2_first s hs l i fr (fr + a.length) (by omega) (by omega) hi _ _ hq R hR))
    have hbt : ∀ j c, fr + a.length + 1 ≤ j → j < i → s.data.toList[j]? = some c → b[j - (fr + a.length + 1)]? = some c := fun j c h1 h2 hc => by
      rw [show j = fr + (a.length + 1 + (j - (fr + a.length + 1))) by omega, hat, List.append_assoc, List.getElem?_append_right (by omega), show a.length + 1 + (j - (fr + a.length + 1)) - a.length = (j - (fr + a.length + 1)) + 1 by omega] at hc
      rw [List.cons_append, List.getElem?_cons_succ, List.getElem?_append_left (by omega)] at hc
      exact hc
    by_cases hb : No61 b
    · refine Or.inr ⟨⟨upS (s.extract fr (fr + a.length)), s.extract (fr + a.length + 1) i, true⟩, ?_, fun R hR => hgo R ?_⟩
      · rw [hab, kv_one a b ha hb, upper_up]
        unfold kvS
        rw [upS_list, ext_seg, ext_seg, hsa, hsb]
      · refine l2_skip s hs l i fr hi _ _ _ R (i - (fr + a.length + 1)) (fr + a.length + 1) (by omega) (fun j c h1 h2 hc => hb c (List.mem_of_getElem? (hbt j c h1 (by omega) hc))) ?_
        rw [show fr + a.length + 1 + (i - (fr + a.length + 1)) = i by omega]
        exact l2_fin s l i fr ⟨upS (s.extract fr (fr + a.length)), s.extract (fr + a.length + 1) i, true⟩ R hl hR
    · refine Or.inl ⟨by rw [hab]; exact kv_two a b ha hb, hgo _ ?_⟩
      obtain ⟨c, d, hcd, hc⟩ := has_split b hb
      have hcl : c.length + d.length + 1 = b.length := by rw [hcd]; simp; omega
      have hq2 : s.data.toList[fr + a.length + 1 + c.length]? = some 61 := by
        rw [show fr + a.length + 1 + c.length = fr + (a.length + 1 + c.length) by omega, hat, List.append_assoc, List.getElem?_append_right (by omega), show a.length + 1 + c.length - a.length = c.length + 1 by omega, List.cons_append, List.getElem?_cons_succ, hcd, List.append_assoc, List.getElem?_append_right (Nat.le_refl _), Nat.sub_self]
        rfl
      refine l2_skip s hs l i fr hi _ _ _ _ c.length (fr + a.length + 1) (by omega) (fun j x h1 h2 hx => ?_) (l2_dup s l i fr _ (by omega) hi _ _ hq2)
      have hx2 := hbt j x h1 (by omega) hx
      rw [hcd, List.getElem?_append_left (by omega)] at hx2
      exact hc x (List.mem_of_getElem? hx2)
def POk (r : List S36 × Bool) (x : Option (List KV)) : Prop := match x with
  | none => r = ([], false)
  | some al => r.2 = true ∧ (r.1.map kvS).Perm al ∧ r.1.length ≤ 1001
theorem l1_skip (s : ByteArray) (hs : s.size ≤ 1000) (l : List S36) (fr : Nat) (R : List S36 × Bool) : ∀ (m q : Nat), q + m ≤ s.size → (∀ j c, q ≤ j → j < q + m → s.data.toList[j]? = some c → c ≠ 32) →
    Ev (fun k => spec_Params.l1 k s l ((q + m : Nat) : Int) (fr : Int)) R → Ev (fun k => spec_Params.l1 k s l (q : Int) (fr : Int)) R
  | 0, q, h, hn, hR => hR
  | m + 1, q, h, hn, hR => by
    obtain ⟨c, hc⟩ : ∃ c, s.data.toList[q]? = some c := ⟨_, List.getElem?_eq_getElem (by rw [← size_list]; omega)⟩
    have ih := l1_skip s hs l fr R m (q + 1) (by omega) (fun j c h1 h2 => hn j c (by omega) (by omega)) (by rw [show q + 1 + m = q + (m + 1) by omega]; exact hR)
    refine Ev.step (fun k => ?_) ih
    have hb := bt_some s q c hc
    have h32 : ¬ (c.toNat : Int) = 32 := fun h0 => hn q c (Nat.le_refl _) (by omega) hc (UInt8.toNat_inj.1 (by show c.toNat = 32; omega))
    rw [spec_Params.l1, if_pos (by omega), if_pos (by omega), hb, if_neg h32, wrap_succ (by omega)]
theorem l1_end (s : ByteArray) (l : List S36) (e fr : Nat) (h : e = s.size ∨ s.data.toList[e]? = some 32) (k : Nat) : spec_Params.l1 (k + 1) s l (e : Int) (fr : Int) = spec_Params.j2 k s l (e : Int) (fr : Int) := by
  rcases h with h | h
  · rw [spec_Params.l1, if_neg (by omega)]
  · have hb : bt s (e : Int) = 32 := bt_some s e 32 h
    have he : e < s.size := by rw [size_list]; exact (List.getElem?_eq_some_iff.1 h).1
    rw [spec_Params.l1, if_pos (by omega), if_pos (by omega), if_pos hb]
theorem fieldsGo_word : ∀ (w cur r : List UInt8), (∀ c ∈ w, isSp c = false) → Lib.fieldsGo cur (w ++ r) = Lib.fieldsGo (cur ++ w) r
  | [], cur, r, _ => by simp
  | c :: w, cur, r, h => by
    rw [List.cons_append, Lib.fieldsGo_more _ _ _ (h c (by simp)), fieldsGo_word w _ r (fun x hx => h x (by simp [hx]))]
    simp
theorem par_tells (s : ByteArray) (hs : s.size ≤ 1000) (hp : ∀ c ∈ s.data.toList, prC c = true) (d : Nat) : ∀ (i : Nat) (l : List S36) (al : List KV), s.size - i ≤ d → i ≤ s.size → l.length ≤ i → Distinct l → (l.map kvS).Perm al →
    ∃ r, Ev (fun k => spec_Params.l0 k s l (i : Int)) r ∧ POk r (argsF (Lib.fieldsGo [] (s.data.toList.drop i)) al) := by
  induction d with
  | zero =>
    intro i l al hd hi hl hdis hperm
    refine ⟨(l, true), Ev.one fun k => ?_, ?_⟩
    · rw [spec_Params.l0, if_neg (by omega)]
    · rw [List.drop_of_length_le (by rw [← size_list]; omega)]
      exact ⟨rfl, hperm, by show l.length ≤ _; omega⟩
  | succ d ih =>
    intro i l al hd hi hl hdis hperm
    by_cases hlt : i < s.size
    · obtain ⟨c, hc⟩ : ∃ c, s.data.toList[i]? = some c := ⟨_, List.getElem?_eq_getElem (by rw [← size_list]; exact hlt)⟩
      have hb := bt_some s i c hc
      have hdr : s.data.toList.drop i = c :: s.data.toList.drop (i + 1) := by
        have hil := (List.getElem?_eq_some_iff.1 hc).1
        rw [List.drop_eq_getElem_cons hil]
        rw [List.getElem?_eq_getElem hil] at hc
        rw [Option.some.inj hc]
      by_cases h32 : c = 32
      · subst h32
        obtain ⟨r, hr, hok⟩ := ih (i + 1) l al (by omega) (by omega) (by omega) hdis hperm
        have hb2 : bt s (i : Int) = 32 := hb
        refine ⟨r, Ev.step (fun k => ?_) hr, ?_⟩
        · rw [spec_Params.l0, if_pos (by omega), if_pos (by omega), if_pos hb2, wrap_succ (by omega)]
        · rw [hdr, Lib.fieldsGo_sp _ _ (by decide)]
          exact hok
      · have hb32 : ¬ bt s (i : Int) = 32 := by
          rw [hb]; intro h0; exact h32 (UInt8.toNat_inj.1 (by show c.toNat = 32; omega))
        obtain ⟨wd, hwd⟩ : ∃ wd, wd = (s.data.toList.drop i).takeWhile (fun x => !is32 x) := ⟨_, rfl⟩
        obtain ⟨rr, hrr⟩ : ∃ rr, rr = (s.data.toList.drop i).dropWhile (fun x => !is32 x) := ⟨_, rfl⟩
        have hsplit : s.data.toList.drop i = wd ++ rr := by rw [hwd, hrr, List.takeWhile_append_dropWhile]
        have hwn : ∀ x ∈ wd, is32 x = false := fun x hx => by
          rw [hwd] at hx
          have := List.all_eq_true.1 (List.all_takeWhile (p := fun x => !is32 x) (l := s.data.toList.drop i)) x hx
          simpa using this
        have hw1 : 1 ≤ wd.length := by
          rw [hwd, hdr, List.takeWhile_cons]
          have : is32 c = false := by unfold is32; rw [beq_eq_false_iff_ne]; exact h32
          rw [this]
          simp
        have hlen : wd.length + rr.length = s.size - i := by
          have := congrArg List.length hsplit
          rw [List.length_append, List.length_drop, ← size_list] at this
          omega
        have hat : ∀ j, s.data.toList[i + j]? = (wd ++ rr)[j]? := fun j => by rw [← hsplit, List.getElem?_drop]
        have hseg : seg s.data.toList i (i + wd.length) = wd := by
          unfold seg
          rw [hsplit, show i + wd.length - i = wd.length by omega, List.take_left' rfl]
        have hde : s.data.toList.drop (i + wd.length) = rr := by
          rw [← List.drop_drop, hsplit, List.drop_left' rfl]
        have hend : i + wd.length = s.size ∨ s.data.toList[i + wd.length]? = some 32 := by
          cases hrr2 : rr with
          | nil => rw [hrr2] at hlen; simp at hlen; exact Or.inl (by omega)
          | cons y r2 =>
            right
            rw [hat, List.getElem?_append_right (Nat.le_refl _), Nat.sub_self, hrr2]
            have hy : is32 y = true := by
              have := List.head?_dropWhile_not (fun x => !is32 x) (s.data.toList.drop i)
              rw [← hrr, hrr2] at this
              simpa using this
            unfold is32 at hy
            rw [beq_iff_eq] at hy
            rw [hy]
            rfl
        have hfld : Lib.fieldsGo [] (s.data.toList.drop i) = wd :: Lib.fieldsGo [] rr := by
          rw [hsplit, fieldsGo_word wd [] rr (fun x hx => by
            rw [isSp_is32 (hp x (List.mem_of_mem_drop (by rw [hsplit]; exact List.mem_append_left _ hx)))]
            exact hwn x hx), List.nil_append]
          have hwne : wd ≠ [] := fun h0 => by rw [h0] at hw1; simp at hw1
          cases hrr2 : rr with
          | nil =>
            cases wd with
            | nil => exact absurd rfl hwne
            | cons a b => rfl
          | cons y r2 =>
            have hy : isSp y = true := by
              rcases hend with h0 | h0
              · rw [hrr2] at hlen; simp at hlen; omega
              · rw [hat, List.getElem?_append_right (Nat.le_refl _), Nat.sub_self, hrr2] at h0
                have : y = 32 := Option.some.inj h0
                rw [this]; decide
            rw [Lib.fieldsGo_end _ _ _ hy hwne, Lib.fieldsGo_sp _ _ hy]
        have hgo : ∀ R, Ev (fun k => spec_Params.j2 k s l ((i + wd.length : Nat) : Int) (i : Int)) R → Ev (fun k => spec_Params.l0 k s l (i : Int)) R := fun R hR => by
          refine Ev.step (f := fun k => spec_Params.l1 k s l (i : Int) (i : Int)) (fun k => ?_) (l1_skip s hs l i R wd.length i (by omega) (fun j x h1 h2 hx => ?_) (Ev.step (l1_end s l (i + wd.length) i hend) hR))
          · rw [spec_Params.l0, if_pos (by omega), if_pos (by omega), if_neg hb32]
          · rw [show j = i + (j - i) by omega, hat, List.getElem?_append_left (by omega)] at hx
            have := hwn x (List.mem_of_getElem? hx)
            unfold is32 at this
            rw [beq_eq_false_iff_ne] at this
            exact this
        have hw := word_tells s hs l (by omega) i (i + wd.length) (by omega) (by omega)
        rw [hseg] at hw
        rw [hfld]
        rcases hw with ⟨hk, hR⟩ | ⟨x, hk, hR⟩
        · refine ⟨([], false), hgo _ hR, ?_⟩
          rw [argsF, hk]
          rfl
        · obtain ⟨r, hr, hok⟩ := ih (i + wd.length) (putS l x) (putA al (kvS x)) (by omega) (by omega) (by have := putS_len l x; omega) (putS_dist l x hdis) ((putS_perm l x hdis).trans (putA_perm hperm _))
          refine ⟨r, hgo _ (hR r hr), ?_⟩
          rw [argsF, hk]
          rw [hde] at hok
          exact hok
    · refine ⟨(l, true), Ev.one fun k => ?_, ?_⟩
      · rw [spec_Params.l0, if_neg (by omega)]
      · rw [List.drop_of_length_le (by rw [← size_list]; omega)]
        exact ⟨rfl, hperm, by show l.length ≤ _; omega⟩
theorem params_tells (s : ByteArray) (hs : s.size ≤ 1000) (hp : ∀ c ∈ s.data.toList, prC c = true) : ∃ r, Ev (fun k => spec_Params.f k s) r ∧ POk r (argsF (Lib.fields s.data.toList) []) := by
  obtain ⟨r, hr, hok⟩ := par_tells s hs hp s.size 0 [] [] (by omega) (by omega) (by simp) List.Pairwise.nil (List.Perm.refl _)
  exact ⟨r, hr, hok⟩
end Go.Proofs.YtldiamldbpobgaaGreatDoor.Own
