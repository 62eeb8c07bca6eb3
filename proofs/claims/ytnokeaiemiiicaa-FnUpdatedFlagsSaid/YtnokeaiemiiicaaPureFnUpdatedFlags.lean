/- FnUpdatedFlags, the plain part: what UpdateFlags leaves is of different flags, and holds each flag that is due; the law's small functions. -/
import Derived.Test.YtnokeaiemiiicaaUpPrint
import Derived.Test.YtnokeaiemiiicaaUpdate3
namespace Go.Proofs.Ytnokeaiemiiicaa.Pure
open Go.RowKit Go.Proofs.Ytnokeaiemiiicaa.PFnUpdatedFlags Go.Proofs.Ytnokeaiemiiicaa.Own Go.Proofs.YtnokeaiemiiicaaW.PrintWords Go.Proofs.YtnokeaiemiiicaaW.PrintLast
set_option linter.unusedVariables false
set_option linter.unusedSimpArgs false

theorem eq_iff (x y : ByteArray) : (x.toList == y.toList) = true ↔ x = y := by
  rw [beq_iff_eq]; exact ⟨fun h => ba_ext' h, fun h => by rw [h]⟩
def hasU (l : List ByteArray) (s : ByteArray) : Bool := l.any (fun y => y.toList == s.toList)
theorem hasU_iff (l : List ByteArray) (s : ByteArray) : hasU l s = true ↔ s ∈ l := by
  unfold hasU
  rw [List.any_eq_true]
  constructor
  · rintro ⟨y, hy, h⟩; rw [eq_iff] at h; rwa [← h]
  · intro h; exact ⟨s, h, by simp⟩
theorem hasS_iff (l : List ByteArray) (s : ByteArray) : hasS l s = true ↔ s ∈ l := by
  unfold hasS
  rw [List.any_eq_true]
  constructor
  · rintro ⟨y, hy, h⟩; rw [eq_iff] at h; rwa [h]
  · intro h; exact ⟨s, h, by simp⟩
theorem hasT_iff (l : List ByteArray) (s : ByteArray) : hasT l s = true ↔ s ∈ l := hasU_iff l s
theorem isRec_iff (x : ByteArray) : isRec x = true ↔ x = recentF := by
  unfold isRec
  rw [show ([92, 82, 101, 99, 101, 110, 116] : List UInt8) = recentF.toList by rw [Lib.toList_data]; rfl]
  exact eq_iff x recentF
theorem anyRec_iff (l : List ByteArray) : l.any isRec = true ↔ recentF ∈ l := by
  rw [List.any_eq_true]
  constructor
  · rintro ⟨y, hy, h⟩; rw [isRec_iff] at h; rwa [← h]
  · intro h; exact ⟨recentF, h, (isRec_iff _).2 rfl⟩

theorem setFold_true (t : List ByteArray) : ∀ acc, setFold true acc t = acc ++ t.filter (fun x => !isRec x) := by
  induction t with
  | nil => intro acc; simp [setFold]
  | cons x t ih =>
    intro acc
    rw [setFold]
    cases h : isRec x with
    | true => simp [ih, h]
    | false => simp [ih, h]
theorem setFold_false (t : List ByteArray) (hn : t.Nodup) : ∀ acc, setFold false acc t = acc ++ t := by
  induction t with
  | nil => intro acc; simp [setFold]
  | cons x t ih =>
    intro acc
    rw [setFold]
    rw [List.nodup_cons] at hn
    cases h : isRec x with
    | false => simp [ih hn.2]
    | true =>
      have hx := (isRec_iff x).1 h
      rw [if_pos rfl, if_neg Bool.false_ne_true, setFold_true]
      have hf : t.filter (fun x => !isRec x) = t := by
        rw [List.filter_eq_self]
        intro y hy
        cases hr : isRec y with
        | false => rfl
        | true =>
          exfalso
          rw [isRec_iff] at hr
          exact hn.1 (by rw [hx, ← hr]; exact hy)
      rw [hf]; simp
theorem addFold_eq (cur t : List ByteArray) : ∀ acc, addFold cur acc t = acc ++ t.filter (fun x => !hasS cur x) := by
  induction t with
  | nil => intro acc; simp [addFold]
  | cons x t ih =>
    intro acc
    rw [addFold]
    cases h : hasS cur x with
    | true => simp [ih, h]
    | false => simp [ih, h]
theorem remFold_eq (fl t : List ByteArray) : ∀ acc, remFold fl acc t = acc ++ t.filter (fun x => !hasT fl x) := by
  induction t with
  | nil => intro acc; simp [remFold]
  | cons x t ih =>
    intro acc
    rw [remFold]
    cases h : hasT fl x with
    | true => simp [ih, h]
    | false => simp [ih, h]

/-- A flag is due. -/
def due (op : Nat) (cur fl : List ByteArray) (s : ByteArray) : Bool := if op = 0 then hasU fl s || (hasU cur s && isRec s) else if op = 1 then hasU cur s || hasU fl s else hasU cur s && !hasU fl s
theorem upd_good (op : Nat) (cur fl : List ByteArray) (hc : cur.Nodup) (hf : fl.Nodup) : (upd op cur fl).Nodup ∧ ∀ s, s ∈ upd op cur fl ↔ due op cur fl s = true := by
  unfold upd due
  by_cases h0 : op = 0
  · simp only [if_pos h0]
    cases hr : cur.any isRec with
    | true =>
      rw [if_pos rfl, setFold_true]
      rw [anyRec_iff] at hr
      constructor
      · rw [List.nodup_append]
        refine ⟨by simp, hf.filter _, ?_⟩
        intro a ha b hb hab
        rw [List.mem_singleton.1 ha] at hab
        have := (List.mem_filter.1 hb).2
        rw [← hab, (isRec_iff recentF).2 rfl] at this
        cases this
      · intro s
        rw [List.mem_append, List.mem_singleton, List.mem_filter, Bool.or_eq_true, Bool.and_eq_true, hasU_iff, hasU_iff, isRec_iff]
        constructor
        · rintro (rfl | ⟨h1, _⟩)
          · exact Or.inr ⟨hr, rfl⟩
          · exact Or.inl h1
        · rintro (h1 | ⟨_, h2⟩)
          · cases hs : isRec s with
            | true => exact Or.inl ((isRec_iff s).1 hs)
            | false => exact Or.inr ⟨h1, rfl⟩
          · exact Or.inl h2
    | false =>
      rw [if_neg Bool.false_ne_true, setFold_false fl hf, List.nil_append]
      refine ⟨hf, fun s => ?_⟩
      rw [Bool.or_eq_true, Bool.and_eq_true, hasU_iff, hasU_iff, isRec_iff]
      constructor
      · exact Or.inl
      · rintro (h1 | ⟨h1, h2⟩)
        · exact h1
        · exfalso
          have := (anyRec_iff cur).2 (by rw [← h2]; exact h1)
          rw [hr] at this
          cases this
  · simp only [if_neg h0]
    by_cases h1 : op = 1
    · simp only [if_pos h1]
      rw [addFold_eq]
      constructor
      · rw [List.nodup_append]
        refine ⟨hc, hf.filter _, ?_⟩
        intro a ha b hb hab
        have := (List.mem_filter.1 hb).2
        rw [← hab, (hasS_iff cur a).2 ha] at this
        cases this
      · intro s
        rw [List.mem_append, List.mem_filter, Bool.or_eq_true, hasU_iff, hasU_iff]
        constructor
        · rintro (h | ⟨h, _⟩)
          · exact Or.inl h
          · exact Or.inr h
        · rintro (h | h)
          · exact Or.inl h
          · cases hs : hasS cur s with
            | true => exact Or.inl ((hasS_iff cur s).1 hs)
            | false => exact Or.inr ⟨h, rfl⟩
    · simp only [if_neg h1]
      rw [remFold_eq, List.nil_append]
      refine ⟨hc.filter _, fun s => ?_⟩
      rw [List.mem_filter, Bool.and_eq_true, hasU_iff]
      exact Iff.rfl
theorem due_all (op : Nat) (cur fl : List ByteArray) (s : ByteArray) (h : due op cur fl s = true) : s ∈ cur ++ fl := by
  unfold due at h
  rw [List.mem_append]
  split at h
  · rw [Bool.or_eq_true, Bool.and_eq_true, hasU_iff, hasU_iff] at h
    rcases h with h | ⟨h, _⟩
    · exact Or.inr h
    · exact Or.inl h
  · split at h
    · rw [Bool.or_eq_true, hasU_iff, hasU_iff] at h; exact h
    · rw [Bool.and_eq_true, hasU_iff] at h; exact Or.inl h.1

theorem nodup_len {α : Type} : ∀ {l1 l2 : List α}, l1.Nodup → (∀ x ∈ l1, x ∈ l2) → l1.length ≤ l2.length := by
  intro l1
  induction l1 with
  | nil => intro l2 _ _; exact Nat.zero_le _
  | cons x t ih =>
    intro l2 hn hs
    rw [List.nodup_cons] at hn
    obtain ⟨a, b, rfl⟩ := List.append_of_mem (hs x (by simp))
    have := ih (l2 := a ++ b) hn.2 (fun y hy => by
      have h1 := hs y (by simp [hy])
      rw [List.mem_append, List.mem_cons] at h1
      rw [List.mem_append]
      rcases h1 with h1 | h1 | h1
      · exact Or.inl h1
      · exact absurd (h1 ▸ hy) hn.1
      · exact Or.inr h1)
    simp only [List.length_append, List.length_cons] at this ⊢
    omega

/-- How many flags of a list are due, each once. -/
def Picked (op : Nat) (cur fl all : List ByteArray) (m : Nat) : Prop := ∃ P : List ByteArray, P.Nodup ∧ (∀ s, s ∈ P ↔ s ∈ all ∧ due op cur fl s = true) ∧ P.length = m
theorem picked_nil (op : Nat) (cur fl : List ByteArray) : Picked op cur fl [] 0 := ⟨[], by simp, by simp, rfl⟩
theorem picked_new (op : Nat) (cur fl all : List ByteArray) (m : Nat) (s : ByteArray) (h : Picked op cur fl all m) (hd : due op cur fl s = true) (hn : hasU all s = false) : Picked op cur fl (all ++ [s]) (m + 1) := by
  obtain ⟨P, h1, h2, h3⟩ := h
  have hns : s ∉ all := fun e => by rw [(hasU_iff all s).2 e] at hn; cases hn
  refine ⟨s :: P, List.nodup_cons.2 ⟨fun e => hns ((h2 s).1 e).1, h1⟩, fun x => ?_, by simp [h3]⟩
  rw [List.mem_cons, h2, List.mem_append, List.mem_singleton]
  constructor
  · rintro (rfl | ⟨a, b⟩)
    · exact ⟨Or.inr rfl, hd⟩
    · exact ⟨Or.inl a, b⟩
  · rintro ⟨a | a, b⟩
    · exact Or.inr ⟨a, b⟩
    · exact Or.inl a
theorem picked_old (op : Nat) (cur fl all : List ByteArray) (m : Nat) (s : ByteArray) (h : Picked op cur fl all m) (hd : due op cur fl s = false ∨ hasU all s = true) : Picked op cur fl (all ++ [s]) m := by
  obtain ⟨P, h1, h2, h3⟩ := h
  refine ⟨P, h1, fun x => ?_, h3⟩
  rw [h2, List.mem_append, List.mem_singleton]
  constructor
  · rintro ⟨a, b⟩; exact ⟨Or.inl a, b⟩
  · rintro ⟨a | rfl, b⟩
    · exact ⟨a, b⟩
    · rcases hd with hd | hd
      · rw [hd] at b; cases b
      · exact ⟨(hasU_iff all x).1 hd, b⟩
theorem picked_end (op : Nat) (cur fl : List ByteArray) (hc : cur.Nodup) (hf : fl.Nodup) (m : Nat) (h : Picked op cur fl (cur ++ fl) m) : (upd op cur fl).length = m := by
  obtain ⟨P, h1, h2, h3⟩ := h
  obtain ⟨g1, g2⟩ := upd_good op cur fl hc hf
  have a := nodup_len h1 (l2 := upd op cur fl) (fun x hx => (g2 x).2 ((h2 x).1 hx).2)
  have b := nodup_len g1 (l2 := P) (fun x hx => (h2 x).2 ⟨due_all op cur fl x ((g2 x).1 hx), (g2 x).1 hx⟩)
  omega

/- The law's small functions. -/
theorem zz_ev (l : List ByteArray) (hl : l.length ≤ 2147483647) : ∀ (d i : Nat), i + d = l.length → ∃ b, Ev (fun k => laws_zzFits2.l0 k l (l.length : Int) (i : Int)) b := by
  intro d
  induction d with
  | zero =>
    intro i hi
    refine ⟨true, Ev.one fun k => ?_⟩
    simp only [laws_zzFits2.l0]
    rw [if_neg (by omega)]
  | succ d ih =>
    intro i hi
    by_cases c : ((rdOf ByteArray.empty l (i : Int)).size : Int) > 2147483647
    · refine ⟨false, Ev.one fun k => ?_⟩
      simp only [laws_zzFits2.l0]
      rw [if_pos (by omega), if_pos (by omega), if_pos (by omega), if_pos c]
    · obtain ⟨b, hb⟩ := ih (i + 1) (by omega)
      refine ⟨b, Ev.step (fun k => ?_) hb⟩
      simp only [laws_zzFits2.l0]
      rw [if_pos (by omega), if_pos (by omega), if_pos (by omega), if_neg c, wrap_succ (by omega)]
theorem zz_tot (l : List ByteArray) : ∃ k b, laws_zzFits2.f k l = some b := by
  by_cases c : (l.length : Int) > 2147483647
  · refine ⟨0, false, ?_⟩
    unfold laws_zzFits2.f
    rw [if_pos c]
  · obtain ⟨b, k, hk⟩ := zz_ev l (by omega) l.length 0 (by omega)
    refine ⟨k, b, ?_⟩
    unfold laws_zzFits2.f
    rw [if_neg c]
    exact hk k (Nat.le_refl _)
theorem has_ev (l : List ByteArray) (s : ByteArray) (hl : l.length ≤ 2147483647) : ∀ (d i : Nat), i + d = l.length → Ev (fun k => laws_has9.l0 k l s (l.length : Int) (i : Int)) (hasU (l.drop i) s) := by
  intro d
  induction d with
  | zero =>
    intro i hi
    rw [List.drop_of_length_le (by omega)]
    refine Ev.one fun k => ?_
    simp only [laws_has9.l0]
    rw [if_neg (by omega)]
    rfl
  | succ d ih =>
    intro i hi
    have hlt : i < l.length := by omega
    have hrd : rdOf ByteArray.empty l (i : Int) = l.getD i ByteArray.empty := rd_nat _ _ _
    rw [drop_getD l i hlt]
    by_cases c : (l.getD i ByteArray.empty).toList = s.toList
    · refine Ev.one fun k => ?_
      simp only [laws_has9.l0]
      rw [if_pos (by omega), if_pos (by omega), if_pos (by omega), hrd, if_pos c]
      unfold hasU
      rw [List.any_cons, beq_iff_eq.2 c, Bool.true_or]
    · rw [show hasU (l.getD i ByteArray.empty :: l.drop (i + 1)) s = hasU (l.drop (i + 1)) s by
        unfold hasU; rw [List.any_cons, beq_eq_false_iff_ne.2 c, Bool.false_or]]
      refine Ev.step (fun k => ?_) (ih (i + 1) (by omega))
      simp only [laws_has9.l0]
      rw [if_pos (by omega), if_pos (by omega), if_pos (by omega), hrd, if_neg c, wrap_succ (by omega)]
theorem has_f (l : List ByteArray) (s : ByteArray) (hl : l.length ≤ 2147483647) : Ev (fun k => laws_has9.f k l s) (hasU l s) := by
  have := has_ev l s hl l.length 0 (by omega)
  rw [List.drop_zero] at this
  exact this
theorem sh_ev (a : ByteArray) (ha : a.size ≤ 2147483647) : ∀ (d i : Nat), i + d = a.size → ∃ b, Ev (fun k => spec_Shown9.l0 k a (a.size : Int) (i : Int)) b := by
  intro d
  induction d with
  | zero =>
    intro i hi
    refine ⟨true, Ev.one fun k => ?_⟩
    simp only [spec_Shown9.l0]
    rw [if_neg (by omega)]
  | succ d ih =>
    intro i hi
    by_cases c1 : bt a i < 32
    · refine ⟨false, Ev.one fun k => ?_⟩
      simp only [spec_Shown9.l0]
      rw [if_pos (by omega), if_pos (by omega), if_pos (by omega), if_pos c1]
    · by_cases c2 : bt a i > 126
      · refine ⟨false, Ev.one fun k => ?_⟩
        simp only [spec_Shown9.l0]
        rw [if_pos (by omega), if_pos (by omega), if_pos (by omega), if_neg c1, if_pos c2]
      · obtain ⟨b, hb⟩ := ih (i + 1) (by omega)
        refine ⟨b, Ev.step (fun k => ?_) hb⟩
        simp only [spec_Shown9.l0]
        rw [if_pos (by omega), if_pos (by omega), if_pos (by omega), if_neg c1, if_neg c2, wrap_succ (by omega)]
theorem C_of_cells {w : World} {A : Option Addr} {l : List ByteArray} (h : Cells w A l) (hb : l.length ≤ 8796093022208) : Kd.C Kd.string w A l.length l := by
  refine Kd.C_of_reads (enc := Value.string) (d := ByteArray.empty) (h1 := fun _ => rfl) ⟨rfl, by omega, fun hp => ?_⟩
  obtain ⟨ad, hA, hc⟩ := h hp
  exact ⟨ad, hA, fun j hj => hc j hj⟩
theorem cells_of_C {w : World} {A : Option Addr} {l : List ByteArray} (h : Kd.C Kd.string w A l.length l) : Cells w A l := fun hp => by
  have hr := Kd.reads_of_C (enc := Value.string) (d := ByteArray.empty) (h1 := fun _ => rfl) h
  obtain ⟨ad, hA, hc⟩ := hr.2.2 hp
  exact ⟨ad, hA, hc⟩
theorem Cells.take {w : World} {A : Option Addr} {l : List ByteArray} (h : Cells w A l) (i : Nat) (hi : i ≤ l.length) : Cells w A (l.take i) := fun hp => by
  rw [List.length_take] at hp
  obtain ⟨ad, hA, hc⟩ := h (by omega)
  refine ⟨ad, hA, fun j hj => ?_⟩
  rw [List.length_take] at hj
  rw [hc j (by omega)]
  simp [List.getD_eq_getElem?_getD, List.getElem?_take, show j < i by omega]
theorem has_any (A : Option Addr) (l : List ByteArray) (n c : Nat) (s : ByteArray) (w : World) (hn : n = l.length) (h : Cells w A l) (hl : l.length ≤ 100000) (hc : n ≤ c) :
    Calls Try.prog 20 #[.slice A n c, .string s] w fun e w' => e = .returned (.bool (hasU l s)) ∧ Drawn0 w w' := by
  subst hn
  obtain ⟨k, hk⟩ := has_f l s (by omega)
  exact laws_has9.calls k A c l s _ w (C_of_cells h (by omega)) hc (hk k (Nat.le_refl _))
theorem sh_any (s : ByteArray) (hs : s.size ≤ 40) : ∃ b, ∀ w, Calls Try.prog 14 #[.string s] w fun e w' => e = .returned (.bool b) ∧ Drawn0 w w' := by
  obtain ⟨b, k, hk⟩ := sh_ev s (by omega) s.size 0 (by omega)
  exact ⟨b, fun w => spec_Shown9.calls k s b w (hk k (Nat.le_refl _))⟩
theorem zz_any (A : Option Addr) (l : List ByteArray) (c : Nat) (hc : l.length ≤ c) : ∃ b, ∀ w, Kd.C Kd.string w A l.length l → Calls Try.prog 10 #[.slice A l.length c] w fun e w' => e = .returned (.bool b) ∧ Drawn0 w w' := by
  obtain ⟨k, b, hk⟩ := zz_tot l
  exact ⟨b, fun w h => laws_zzFits2.calls k A c l b w h hc hk⟩
end Go.Proofs.Ytnokeaiemiiicaa.Pure
