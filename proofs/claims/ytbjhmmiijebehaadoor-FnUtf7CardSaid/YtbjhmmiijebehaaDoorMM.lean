/- Plain words: the reference's machine says what the encoder says. No law of the program is proved here. Plain words: what the encoder lays, the decoder reads back. No law of the program is proved here. Plain words: a text that is UTF-8, encoded, is read back. No law of the program is proved here. -/
import Derived.Test.YtbjhmmiijebehaaDoorML
import Derived.Test.YtbjhmmiijebehaaDoorMD
namespace Go.Proofs.YtbjhmmiijebehaaDoor.Own
open Go.RowKit Go.Lib
set_option linter.unusedVariables false
set_option linter.unusedSimpArgs false

abbrev dG (l : List UInt8) : Nat × Nat := Lib.decodeGo ⟨l.toArray⟩
theorem dG_L (l : List UInt8) (h : l ≠ []) : dG l = decodeL l := by
  have hs : 0 < (⟨l.toArray⟩ : ByteArray).size := List.length_pos_iff.2 h
  unfold dG Lib.decodeGo decodeL
  rw [if_neg (by omega)]
theorem dG_N (l : List UInt8) (h : l ≠ []) : dG l = decodeN l.length (l.getD 0 0).toNat (l.getD 1 0).toNat (l.getD 2 0).toNat (l.getD 3 0).toNat := by
  rw [dG_L l h, decodeL_N]
/-- What follows a run begins with ASCII, or is nothing. -/
def Asc (R : List UInt8) : Prop := ∀ c, R.head? = some c → c.toNat < 128
theorem Asc.get {R : List UInt8} (h : Asc R) : (R.getD 0 0).toNat < 128 := by
  cases R with
  | nil => decide
  | cons c t => exact h c rfl
theorem decN_1 (n b0 b1 b2 b3 c1 c2 c3 : Nat) (h : b1 < 128) : decodeN n b0 b1 b2 b3 = decodeN 1 b0 c1 c2 c3 := by
  unfold decodeN
  have a1 : ¬ (b1 / 64 = 2) := by omega
  have a2 : ¬ (1 < 1) := by decide
  have a3 : ¬ (2 < 1) := by decide
  have a4 : ¬ (3 < 1) := by decide
  simp only [a1, a2, a3, a4, and_false, false_and, if_false]
theorem decN_2 (n b0 b1 b2 b3 c2 c3 : Nat) (hn : 2 ≤ n) (h : b2 < 128) : decodeN n b0 b1 b2 b3 = decodeN 2 b0 b1 c2 c3 := by
  unfold decodeN
  have a1 : ¬ (b2 / 64 = 2) := by omega
  have a2 : (1 < 2) = True := by simp
  have a3 : ¬ (2 < 2) := by decide
  have a4 : ¬ (3 < 2) := by decide
  have a5 : (1 < n) = True := by simp; omega
  simp only [a1, a2, a3, a4, a5, and_false, false_and, if_false]
theorem decN_3 (n b0 b1 b2 b3 c3 : Nat) (hn : 3 ≤ n) (h : b3 < 128) : decodeN n b0 b1 b2 b3 = decodeN 3 b0 b1 b2 c3 := by
  unfold decodeN
  have a1 : ¬ (b3 / 64 = 2) := by omega
  have a2 : (1 < 3) = True := by simp
  have a3 : (2 < 3) = True := by simp
  have a4 : ¬ (3 < 3) := by decide
  have a5 : (1 < n) = True := by simp; omega
  have a6 : (2 < n) = True := by simp; omega
  simp only [a1, a2, a3, a4, a5, a6, and_false, false_and, if_false]
theorem decN_4 (n m b0 b1 b2 b3 : Nat) (hn : 4 ≤ n) (hm : 4 ≤ m) : decodeN n b0 b1 b2 b3 = decodeN m b0 b1 b2 b3 := by
  unfold decodeN
  have a2 : (1 < n) = True := by simp; omega
  have a3 : (2 < n) = True := by simp; omega
  have a4 : (3 < n) = True := by simp; omega
  have b2 : (1 < m) = True := by simp; omega
  have b3 : (2 < m) = True := by simp; omega
  have b4 : (3 < m) = True := by simp; omega
  simp only [a2, a3, a4, b2, b3, b4]
theorem dec_cut (X R : List UInt8) (hX : X ≠ []) (hR : Asc R) : dG (X ++ R) = dG X := by
  have hr := hR.get
  rw [dG_N _ (by simp [hX]), dG_N _ hX]
  match X, hX with
  | [a], _ => exact decN_1 _ _ _ _ _ _ _ _ (by simpa using hr)
  | [a, b], _ => exact decN_2 _ _ _ _ _ _ _ (by simp) (by simpa using hr)
  | [a, b, c], _ => exact decN_3 _ _ _ _ _ _ (by simp) (by simpa using hr)
  | a :: b :: c :: d :: t, _ => exact decN_4 _ _ _ _ _ _ (by simp) (by simp)
theorem rnF_app : ∀ (n : Nat) (X R : List UInt8), X.length ≤ n → Asc R → rnF (X ++ R) = rnF X ++ rnF R
  | 0, X, R, h, _ => by
    have : X = [] := List.eq_nil_of_length_eq_zero (by omega)
    subst this; rfl
  | n + 1, X, R, h, hR => by
    by_cases hX : X = []
    · subst hX; rfl
    · have hp := decGo_pos X hX
      have hc := dec_cut X R hX hR
      have e1 := rnF_step (X ++ R) (by simp [hX])
      have e2 := rnF_step X hX
      rw [show Lib.decodeGo ⟨(X ++ R).toArray⟩ = dG X from hc] at e1
      rw [e1, e2, List.drop_append_of_le_length hp.2.1, rnF_app n (X.drop (dG X).2) R (by rw [List.length_drop]; have : 1 ≤ (dG X).2 := hp.1; omega) hR]
      rfl
theorem dG_one (c : UInt8) (t : List UInt8) (h : c.toNat < 128) : dG (c :: t) = (c.toNat, 1) := by
  rw [dG_N _ (by simp)]
  unfold decodeN
  simp [h]
theorem rnF_prn (c : UInt8) (t : List UInt8) (h : prn c = true) : rnF (c :: t) = c.toNat :: rnF t := by
  have h1 : c.toNat < 128 := by unfold prn at h; simp at h; omega
  rw [rnF_step _ (by simp), show Lib.decodeGo ⟨(c :: t).toArray⟩ = (c.toNat, 1) from dG_one c t h1]
  rfl
theorem dG_hi (c : UInt8) (t : List UInt8) (h : prn c = false) : ¬ (32 ≤ (dG (c :: t)).1 ∧ (dG (c :: t)).1 ≤ 126) := by
  rw [dG_N _ (by simp)]
  have hh : ¬ (32 ≤ c.toNat ∧ c.toNat ≤ 126) := by unfold prn at h; simpa using h
  rcases decodeN_shape (c :: t).length ((c :: t).getD 0 0).toNat ((c :: t).getD 1 0).toNat ((c :: t).getD 2 0).toNat ((c :: t).getD 3 0).toNat with ⟨c, e⟩ | ⟨c1, c2, c3, cv, e⟩ | ⟨c1, c2, c3, c4, cv, cs, e⟩ | ⟨c1, c2, c3, c4, c5, cv, cw, e⟩ | e
  · rw [e]; exact hh
  · rw [e]; dsimp only; omega
  · rw [e]; dsimp only; omega
  · rw [e]; dsimp only; omega
  · rw [e]; dsimp only; omega
theorem rnF_run : ∀ (n : Nat) (X : List UInt8), X.length ≤ n → (∀ c ∈ X, prn c = false) → ∀ r ∈ rnF X, ¬ (32 ≤ r ∧ r ≤ 126) ∧ r ≤ 1114111
  | 0, X, h, _ => by
    have : X = [] := List.eq_nil_of_length_eq_zero (by omega)
    subst this
    intro r hr; simp [rnF_nil] at hr
  | n + 1, [], h, _ => by
    intro r hr; simp [rnF_nil] at hr
  | n + 1, c :: t, h, hp => by
    intro r hr
    have hq := decGo_pos (c :: t) (by simp)
    rw [rnF_step _ (by simp)] at hr
    rcases List.mem_cons.1 hr with rfl | hr
    · exact ⟨dG_hi c t (hp c (by simp)), hq.2.2⟩
    · exact rnF_run n _ (by rw [List.length_drop]; simp only [List.length_cons] at h ⊢; omega) (fun x hx => hp x (List.mem_of_mem_drop hx)) r hr
theorem encF_rn : ∀ (n : Nat) (X : List UInt8), X.length ≤ n → encF X = (rnF X).flatMap u16e
  | 0, X, h => by
    have : X = [] := List.eq_nil_of_length_eq_zero (by omega)
    subst this; rfl
  | n + 1, X, h => by
    by_cases hX : X = []
    · subst hX; rfl
    · have hq := decGo_pos X hX
      rw [encF_step X hX, rnF_step X hX, List.flatMap_cons, encF_rn n _ (by rw [List.length_drop]; omega)]

/-! ### Letters: two bytes a unit, against three bytes a time -/
def Acc (o B : List UInt8) (s : St) : Prop := s.inn = true ∧ ∃ B0 : List UInt8, B0.length % 3 = 0 ∧
  ((B = B0 ∧ s.out = o ++ enc64 B0 ∧ s.x = 0 ∧ s.m = 0) ∨
   (∃ x y : UInt8, B = B0 ++ [x, y] ∧ s.out = o ++ enc64 B0 ++ [letter (x.toNat / 4), letter (x.toNat % 4 * 16 + y.toNat / 16)] ∧ s.x = y.toNat % 16 ∧ s.m = 4) ∨
   (∃ z : UInt8, B = B0 ++ [z] ∧ s.out = o ++ enc64 B0 ++ [letter (z.toNat / 4)] ∧ s.x = z.toNat % 4 ∧ s.m = 2))
theorem enc64_app : ∀ (n : Nat) (A B : List UInt8), A.length ≤ n → A.length % 3 = 0 → enc64 (A ++ B) = enc64 A ++ enc64 B
  | 0, A, B, h, _ => by
    have : A = [] := List.eq_nil_of_length_eq_zero (by omega)
    subst this; rfl
  | n + 1, [], B, _, _ => rfl
  | n + 1, [a], B, _, h => by simp at h
  | n + 1, [a, b], B, _, h => by simp at h
  | n + 1, a :: b :: c :: t, B, h, hm => by
    simp only [List.length_cons] at h hm
    rw [List.cons_append, List.cons_append, List.cons_append, enc64, enc64, enc64_app n t B (by omega) (by omega), List.append_assoc]
theorem enc64_three (B0 : List UInt8) (a b c : UInt8) (h : B0.length % 3 = 0) : enc64 (B0 ++ [a, b, c]) = enc64 B0 ++ four (v3 a b c) := by
  rw [enc64_app _ _ _ (Nat.le_refl _) h]
  simp [enc64]
theorem drain16 (V : Nat) : drain V 16 = [letter (V / 1024 % 64), letter (V / 16 % 64)] := rfl
theorem drain20 (V : Nat) : drain V 20 = [letter (V / 16384 % 64), letter (V / 256 % 64), letter (V / 4 % 64)] := rfl
theorem drain18 (V : Nat) : drain V 18 = [letter (V / 4096 % 64), letter (V / 64 % 64), letter (V / 1 % 64)] := rfl
theorem acc_unit (o B : List UInt8) (s : St) (u : Nat) (hu : u < 65536) (h : Acc o B s) : Acc o (B ++ two u) (s.unit u) := by
  obtain ⟨hin, B0, hB0, h⟩ := h
  have t1 : (UInt8.ofNat (u / 256)).toNat = u / 256 := by rw [UInt8.toNat_ofNat']; omega
  have t2 : (UInt8.ofNat u).toNat = u % 256 := by rw [UInt8.toNat_ofNat']
  rcases h with ⟨hB, ho, hx, hm⟩ | ⟨x, y, hB, ho, hx, hm⟩ | ⟨z, hB, ho, hx, hm⟩
  · refine ⟨hin, B0, hB0, Or.inr (Or.inl ⟨UInt8.ofNat (u / 256), UInt8.ofNat u, by rw [hB]; rfl, ?_, ?_, ?_⟩)⟩
    · show s.out ++ drain (s.x * 65536 + u) (s.m + 16) = _
      rw [ho, hx, hm, drain16, t1, t2]
      congr 3
      · congr 1; omega
      · congr 1; congr 1; omega
    · show (s.x * 65536 + u) % 2 ^ ((s.m + 16) % 6) = _
      rw [hx, hm, t2]
      show (0 * 65536 + u) % 16 = _
      omega
    · show (s.m + 16) % 6 = 4
      rw [hm]
  · have hy := UInt8.toNat_lt y
    have hx8 := UInt8.toNat_lt x
    refine ⟨hin, B0 ++ [x, y, UInt8.ofNat (u / 256)], by simp; omega, Or.inr (Or.inr ⟨UInt8.ofNat u, by rw [hB]; simp [two], ?_, ?_, ?_⟩)⟩
    · show s.out ++ drain (s.x * 65536 + u) (s.m + 16) = _
      rw [ho, hx, hm, drain20, t2, enc64_three B0 _ _ _ hB0]
      unfold four v3
      rw [t1]
      simp only [List.append_assoc, List.cons_append, List.nil_append, List.append_cancel_left_eq, List.cons.injEq, and_true]
      refine ⟨?_, ?_, ?_, ?_, ?_⟩ <;> exact congrArg letter (by omega)
    · show (s.x * 65536 + u) % 2 ^ ((s.m + 16) % 6) = _
      rw [hx, hm, t2]
      show (y.toNat % 16 * 65536 + u) % 4 = _
      omega
    · show (s.m + 16) % 6 = 2
      rw [hm]
  · have hz := UInt8.toNat_lt z
    refine ⟨hin, B0 ++ [z, UInt8.ofNat (u / 256), UInt8.ofNat u], by simp; omega, Or.inl ⟨by rw [hB]; simp [two], ?_, ?_, ?_⟩⟩
    · show s.out ++ drain (s.x * 65536 + u) (s.m + 16) = _
      rw [ho, hx, hm, drain18, enc64_three B0 _ _ _ hB0]
      unfold four v3
      rw [t1, t2]
      simp only [List.append_assoc, List.cons_append, List.nil_append, List.append_cancel_left_eq, List.cons.injEq, and_true]
      refine ⟨?_, ?_, ?_, ?_⟩ <;> exact congrArg letter (by omega)
    · show (s.x * 65536 + u) % 2 ^ ((s.m + 16) % 6) = _
      rw [hx, hm]
      show (z.toNat % 4 * 65536 + u) % 1 = 0
      omega
    · show (s.m + 16) % 6 = 0
      rw [hm]
theorem strip_app (B0 T : List UInt8) (h : B0.length % 3 = 0) : strip64 (B0 ++ T) = enc64 B0 ++ (enc64 T).take ((enc64 T).length - (2 - (T.length + 2) % 3)) := by
  unfold strip64
  rw [enc64_app _ _ _ (Nat.le_refl _) h, List.length_append, List.length_append]
  have e1 := enc64_len B0
  have e2 := enc64_len T
  rw [show (B0.length + T.length + 2) % 3 = (T.length + 2) % 3 by omega]
  by_cases hT : T = []
  · subst hT; simp [enc64]
  · have hTl := List.length_pos_iff.2 hT
    rw [List.take_append, List.take_of_length_le (by omega), show (enc64 B0).length + (enc64 T).length - (2 - (T.length + 2) % 3) - (enc64 B0).length = (enc64 T).length - (2 - (T.length + 2) % 3) by omega]
theorem acc_shut (o B : List UInt8) (s : St) (h : Acc o B s) : s.shut = ⟨o ++ strip64 B ++ [45], 0, 0, false⟩ := by
  obtain ⟨hin, B0, hB0, h⟩ := h
  unfold St.shut dashL lastL
  rw [hin, if_pos rfl]
  congr 2
  rcases h with ⟨hB, ho, hx, hm⟩ | ⟨x, y, hB, ho, hx, hm⟩ | ⟨z, hB, ho, hx, hm⟩
  · have := strip_app B0 [] hB0
    rw [List.append_nil] at this
    rw [hm, hB, ho, this]
    simp [enc64]
  · have hy := UInt8.toNat_lt y
    have hx8 := UInt8.toNat_lt x
    rw [hm, hB, ho, hx, strip_app B0 [x, y] hB0]
    simp [enc64, v3]
    refine ⟨?_, ?_, ?_⟩ <;> exact congrArg letter (by omega)
  · have hz := UInt8.toNat_lt z
    rw [hm, hB, ho, hx, strip_app B0 [z] hB0]
    simp [enc64, v3]
    refine ⟨?_, ?_⟩ <;> exact congrArg letter (by omega)
theorem acc_step (o B : List UInt8) (s : St) (r : Nat) (hr : ¬ (32 ≤ r ∧ r ≤ 126)) (hr2 : r ≤ 1114111) (h : Acc o B s.open_) : Acc o (B ++ u16e r) (s.step r) := by
  unfold St.step u16e
  rw [if_neg hr]
  by_cases hb : 65535 < r
  · rw [if_pos hb, if_neg (by omega), ← List.append_assoc]
    exact acc_unit _ _ _ _ (by omega) (acc_unit _ _ _ _ (by omega) h)
  · rw [if_neg hb, if_pos (by omega)]
    exact acc_unit _ _ _ _ (by omega) h
theorem open_in (s : St) (h : s.inn = true) : s.open_ = s := by
  unfold St.open_
  rw [h, if_pos rfl, List.append_nil]
  cases s
  simp at h
  simp [h]
theorem acc_run : ∀ (rs : List Nat) (o B : List UInt8) (s : St), (∀ r ∈ rs, ¬ (32 ≤ r ∧ r ≤ 126) ∧ r ≤ 1114111) → Acc o B s → Acc o (B ++ rs.flatMap u16e) (rs.foldl St.step s)
  | [], o, B, s, _, h => by simpa using h
  | r :: rs, o, B, s, hr, h => by
    rw [List.flatMap_cons, ← List.append_assoc, List.foldl_cons]
    have h1 := hr r (by simp)
    exact acc_run rs o _ _ (fun x hx => hr x (by simp [hx])) (acc_step o B s r h1.1 h1.2 (by rw [open_in s h.1]; exact h))
theorem run_all (X out : List UInt8) (hX : X ≠ []) (hp : ∀ c ∈ X, prn c = false) : ((rnF X).foldl St.step ⟨out, 0, 0, false⟩).shut = ⟨out ++ enc7 X, 0, 0, false⟩ := by
  have hrun := rnF_run X.length X (Nat.le_refl _) hp
  have hne : rnF X ≠ [] := by rw [rnF_step X hX]; simp
  rcases hrn : rnF X with _ | ⟨r, rs⟩
  · exact absurd hrn hne
  · rw [hrn] at hrun
    have h1 := hrun r (by simp)
    have h0 : Acc (out ++ [38]) [] (St.open_ ⟨out, 0, 0, false⟩) := ⟨rfl, [], rfl, Or.inl ⟨rfl, by simp [St.open_, enc64], rfl, rfl⟩⟩
    have h2 := acc_step (out ++ [38]) [] ⟨out, 0, 0, false⟩ r h1.1 h1.2 h0
    have h3 := acc_run rs _ _ _ (fun x hx => hrun x (by simp [hx])) h2
    have h4 := acc_shut _ _ _ h3
    rw [List.foldl_cons, h4]
    have e : [] ++ u16e r ++ rs.flatMap u16e = encF X := by rw [encF_rn X.length X (Nat.le_refl _), hrn]; simp
    rw [e]
    unfold enc7
    simp
theorem shut_nop (out : List UInt8) : St.shut ⟨out, 0, 0, false⟩ = ⟨out, 0, 0, false⟩ := by
  unfold St.shut lastL dashL
  simp
theorem ref_all : ∀ (n : Nat) (l out : List UInt8), l.length ≤ n → ((rnF l).foldl St.step ⟨out, 0, 0, false⟩).shut.out = out ++ tF l
  | 0, l, out, h => by
    have : l = [] := List.eq_nil_of_length_eq_zero (by omega)
    subst this
    rw [rnF_nil, tF_nil]
    simp [shut_nop]
  | n + 1, [], out, h => by
    rw [rnF_nil, tF_nil]
    simp [shut_nop]
  | n + 1, c :: t, out, h => by
    simp only [List.length_cons] at h
    rcases hc : prn c with _ | _
    · -- a run
      rw [tF_run c t hc]
      have hsplit : c :: t = (c :: t.takeWhile fun x => !prn x) ++ (t.dropWhile fun x => !prn x) := by
        rw [List.cons_append, List.takeWhile_append_dropWhile]
      generalize hXd : (c :: t.takeWhile fun x => !prn x) = X at hsplit ⊢
      have hRl : (t.dropWhile fun x => !prn x).length ≤ t.length := (List.dropWhile_sublist _).length_le
      have hRh : ∀ y, (t.dropWhile fun x => !prn x).head? = some y → prn y = true := fun y hy => by
        have := List.head?_dropWhile_not (fun x => !prn x) t
        rw [hy] at this
        simpa using this
      generalize hRd : (t.dropWhile fun x => !prn x) = R at hsplit hRl hRh ⊢
      have hX : X ≠ [] := by rw [← hXd]; simp
      have hXp : ∀ x ∈ X, prn x = false := by
        rw [← hXd]
        intro x hx
        rcases List.mem_cons.1 hx with rfl | hx
        · exact hc
        · have := List.all_eq_true.1 (List.all_takeWhile (p := fun x => !prn x) (l := t)) x hx
          simpa using this
      have hA : Asc R := fun y hy => by have := hRh y hy; unfold prn at this; simp at this; omega
      rw [hsplit, rnF_app X.length X R (Nat.le_refl _) hA, List.foldl_append]
      have h1 := run_all X out hX hXp
      generalize (rnF X).foldl St.step ⟨out, 0, 0, false⟩ = s at h1 ⊢
      have h2 : ((rnF R).foldl St.step s).shut.out = ((rnF R).foldl St.step s.shut).shut.out := by
        cases R with
        | nil => rw [rnF_nil]; simp only [List.foldl_nil]; rw [h1, shut_nop]
        | cons y t' =>
          have hy := hRh y rfl
          rw [rnF_prn y t' hy, List.foldl_cons, List.foldl_cons]
          have hy' : 32 ≤ y.toNat ∧ y.toNat ≤ 126 := by unfold prn at hy; simpa using hy
          have e : s.step y.toNat = s.shut.step y.toNat := by unfold St.step; rw [if_pos hy', if_pos hy', h1, shut_nop]
          rw [e]
      rw [h2, h1, ref_all n R _ (by omega), List.append_assoc]
    · rw [rnF_prn c t hc, tF_prn c t hc, List.foldl_cons]
      have hy' : 32 ≤ c.toNat ∧ c.toNat ≤ 126 := by unfold prn at hc; simpa using hc
      have e : St.step ⟨out, 0, 0, false⟩ c.toNat = ⟨out ++ (if c = 38 then [38, 45] else [c]), 0, 0, false⟩ := by
        unfold St.step
        rw [if_pos hy', shut_nop]
        unfold St.say
        by_cases h38 : c = 38
        · subst h38; simp
        · have : c.toNat ≠ 38 := fun h => h38 (UInt8.toNat_inj.1 h)
          rw [if_neg this, if_neg h38]; simp
      rw [e, ref_all n t _ (by omega), List.append_assoc]
theorem utfOf_tF (l : List UInt8) : utfOf l = tF l := by
  unfold utfOf
  rw [ref_all l.length l [] (Nat.le_refl _)]
  rfl
end Go.Proofs.YtbjhmmiijebehaaDoor.Own

namespace Go.Proofs.YtbjhmmiijebehaaDoor.Own
open Go.RowKit Go.Lib
set_option linter.unusedVariables false
set_option linter.unusedSimpArgs false

theorem dm_letter (n : Nat) (h : n < 64) : (dm (letter n)).toNat = n := by
  have : ∀ n : Fin 64, (dm (letter n.val)).toNat = n.val := by decide +kernel
  exact this ⟨n, h⟩
theorem letter_ne (n : Nat) (h : n < 64) : letter n ≠ 45 ∧ letter n ≠ 13 ∧ letter n ≠ 10 ∧ letter n ≠ 61 := by
  have : ∀ n : Fin 64, letter n.val ≠ 45 ∧ letter n.val ≠ 13 ∧ letter n.val ≠ 10 ∧ letter n.val ≠ 61 := by decide +kernel
  exact this ⟨n, h⟩
def Let (c : UInt8) : Prop := ∃ n, n < 64 ∧ c = letter n
theorem four_let (v : Nat) : ∀ c ∈ four v, Let c := by
  intro c hc
  simp [four] at hc
  rcases hc with rfl | rfl | rfl | rfl <;> exact ⟨_, Nat.mod_lt _ (by decide), rfl⟩
theorem strip_three (a b c : UInt8) (t : List UInt8) : strip64 (a :: b :: c :: t) = four (v3 a b c) ++ strip64 t := by
  have := strip_app [a, b, c] t (by simp)
  rw [show [a, b, c] ++ t = a :: b :: c :: t from rfl] at this
  rw [this]
  unfold strip64
  simp [enc64]
theorem strip_one (a : UInt8) : strip64 [a] = [letter (v3 a 0 0 / 262144 % 64), letter (v3 a 0 0 / 4096 % 64)] := by
  simp [strip64, enc64]
theorem strip_two (a b : UInt8) : strip64 [a, b] = [letter (v3 a b 0 / 262144 % 64), letter (v3 a b 0 / 4096 % 64), letter (v3 a b 0 / 64 % 64)] := by
  simp [strip64, enc64]
theorem strip_let : ∀ B : List UInt8, ∀ c ∈ strip64 B, Let c
  | [] => by intro c hc; simp [strip64, enc64] at hc
  | [a] => by
    intro c hc
    rw [strip_one] at hc
    simp at hc
    rcases hc with rfl | rfl <;> exact ⟨_, Nat.mod_lt _ (by decide), rfl⟩
  | [a, b] => by
    intro c hc
    rw [strip_two] at hc
    simp at hc
    rcases hc with rfl | rfl | rfl <;> exact ⟨_, Nat.mod_lt _ (by decide), rfl⟩
  | a :: b :: d :: t => by
    intro c hc
    rw [strip_three] at hc
    rcases List.mem_append.1 hc with h | h
    · exact four_let _ c h
    · exact strip_let t c h
theorem padT_four (v : Nat) (T : List UInt8) : padT (four v ++ T) = four v ++ padT T := by
  unfold padT
  have : (four v ++ T).length % 4 = T.length % 4 := by simp [four]; omega
  rw [this, List.append_assoc]
theorem pad_strip : ∀ B : List UInt8, padT (strip64 B) = enc64 B
  | [] => by simp [strip64, enc64, padT]
  | [a] => by rw [strip_one]; simp [padT, enc64]
  | [a, b] => by rw [strip_two]; simp [padT, enc64]
  | a :: b :: d :: t => by rw [strip_three, padT_four, pad_strip t]; simp [enc64]
theorem not_good61 : ¬ good 61 := by decide +kernel
theorem good_letter (n : Nat) (h : n < 64) : good (letter n) := by unfold good; rw [dm_letter n h]; exact h
theorem of_byte (a : UInt8) (n : Nat) (h : n % 256 = a.toNat) : UInt8.ofNat n = a := by
  apply UInt8.toNat_inj.1
  rw [UInt8.toNat_ofNat']
  exact h
theorem dec_enc : ∀ B : List UInt8, dec64 (enc64 B) = some B
  | [] => rfl
  | [a] => by
    have ha := UInt8.toNat_lt a
    have g1 := good_letter _ (Nat.mod_lt (v3 a 0 0 / 262144) (by decide : 0 < 64))
    have g2 := good_letter _ (Nat.mod_lt (v3 a 0 0 / 4096) (by decide : 0 < 64))
    have d1 := dm_letter _ (Nat.mod_lt (v3 a 0 0 / 262144) (by decide : 0 < 64))
    have d2 := dm_letter _ (Nat.mod_lt (v3 a 0 0 / 4096) (by decide : 0 < 64))
    have e : qb0 ((dm (letter (v3 a 0 0 / 262144 % 64))).toNat * 262144 + (dm (letter (v3 a 0 0 / 4096 % 64))).toNat * 4096) = a := by
      rw [d1, d2]
      refine of_byte a _ ?_
      have z : (0 : UInt8).toNat = 0 := rfl
      unfold v3
      rw [z]
      omega
    have hq : qd [letter (v3 a 0 0 / 262144 % 64), letter (v3 a 0 0 / 4096 % 64), 61, 61] = some [a] := by
      rw [qd, if_neg (fun h => not_good61 h.2.2.1), if_neg (fun h => not_good61 h.2.2.1), if_pos ⟨g1, g2, rfl, rfl, rfl⟩, e]
    show dec64 [_, _, 61, 61] = _
    rw [dec64, hq]
    rfl
  | [a, b] => by
    have ha := UInt8.toNat_lt a
    have hb := UInt8.toNat_lt b
    have g1 := good_letter _ (Nat.mod_lt (v3 a b 0 / 262144) (by decide : 0 < 64))
    have g2 := good_letter _ (Nat.mod_lt (v3 a b 0 / 4096) (by decide : 0 < 64))
    have g3 := good_letter _ (Nat.mod_lt (v3 a b 0 / 64) (by decide : 0 < 64))
    have d1 := dm_letter _ (Nat.mod_lt (v3 a b 0 / 262144) (by decide : 0 < 64))
    have d2 := dm_letter _ (Nat.mod_lt (v3 a b 0 / 4096) (by decide : 0 < 64))
    have d3 := dm_letter _ (Nat.mod_lt (v3 a b 0 / 64) (by decide : 0 < 64))
    have z : (0 : UInt8).toNat = 0 := rfl
    have e0 : qb0 ((dm (letter (v3 a b 0 / 262144 % 64))).toNat * 262144 + (dm (letter (v3 a b 0 / 4096 % 64))).toNat * 4096 + (dm (letter (v3 a b 0 / 64 % 64))).toNat * 64) = a := by
      rw [d1, d2, d3]
      refine of_byte a _ ?_
      unfold v3
      rw [z]
      omega
    have e1 : qb1 ((dm (letter (v3 a b 0 / 262144 % 64))).toNat * 262144 + (dm (letter (v3 a b 0 / 4096 % 64))).toNat * 4096 + (dm (letter (v3 a b 0 / 64 % 64))).toNat * 64) = b := by
      rw [d1, d2, d3]
      refine of_byte b _ ?_
      unfold v3
      rw [z]
      omega
    have hq : qd [letter (v3 a b 0 / 262144 % 64), letter (v3 a b 0 / 4096 % 64), letter (v3 a b 0 / 64 % 64), 61] = some [a, b] := by
      rw [qd, if_neg (fun h => not_good61 h.2.2.2), if_pos ⟨g1, g2, g3, rfl, rfl⟩, e0, e1]
    show dec64 [_, _, _, 61] = _
    rw [dec64, hq]
    rfl
  | a :: b :: c :: t => by
    have ha := UInt8.toNat_lt a
    have hb := UInt8.toNat_lt b
    have hc := UInt8.toNat_lt c
    have g1 := good_letter _ (Nat.mod_lt (v3 a b c / 262144) (by decide : 0 < 64))
    have g2 := good_letter _ (Nat.mod_lt (v3 a b c / 4096) (by decide : 0 < 64))
    have g3 := good_letter _ (Nat.mod_lt (v3 a b c / 64) (by decide : 0 < 64))
    have g4 := good_letter _ (Nat.mod_lt (v3 a b c) (by decide : 0 < 64))
    have hv : q3 (letter (v3 a b c / 262144 % 64)) (letter (v3 a b c / 4096 % 64)) (letter (v3 a b c / 64 % 64)) (letter (v3 a b c % 64)) = v3 a b c := by
      unfold q3
      rw [dm_letter _ (Nat.mod_lt _ (by decide)), dm_letter _ (Nat.mod_lt _ (by decide)), dm_letter _ (Nat.mod_lt _ (by decide)), dm_letter _ (Nat.mod_lt _ (by decide))]
      have : v3 a b c < 16777216 := by unfold v3; omega
      omega
    have e0 : qb0 (v3 a b c) = a := of_byte a _ (by unfold v3; omega)
    have e1 : qb1 (v3 a b c) = b := of_byte b _ (by unfold v3; omega)
    have e2 : qb2 (v3 a b c) = c := of_byte c _ (by unfold v3; omega)
    have hq : ∀ r, qd (letter (v3 a b c / 262144 % 64) :: letter (v3 a b c / 4096 % 64) :: letter (v3 a b c / 64 % 64) :: letter (v3 a b c % 64) :: r) = some [a, b, c] := fun r => by
      rw [qd, if_pos ⟨g1, g2, g3, g4⟩, hv, e0, e1, e2]
    have ih := dec_enc t
    show dec64 (_ :: _ :: _ :: _ :: enc64 t) = _
    rw [dec64, hq, ih]
    rfl
theorem u16e_even (r : Nat) : (u16e r).length % 2 = 0 ∧ 2 ≤ (u16e r).length := by
  unfold u16e
  split <;> simp [two]
theorem encF_even : ∀ (n : Nat) (X : List UInt8), X.length ≤ n → (encF X).length % 2 = 0
  | 0, X, h => by
    have : X = [] := List.eq_nil_of_length_eq_zero (by omega)
    subst this; rfl
  | n + 1, X, h => by
    by_cases hX : X = []
    · subst hX; rfl
    · have hq := decGo_pos X hX
      have h1 := u16e_even (Lib.decodeGo ⟨X.toArray⟩).1
      have h2 := encF_even n (X.drop (Lib.decodeGo ⟨X.toArray⟩).2) (by rw [List.length_drop]; omega)
      rw [encF_step X hX, List.length_append]
      omega
theorem strip_len (B : List UInt8) (h : B ≠ []) : strip64 B ≠ [] := by
  intro h0
  have h1 := pad_strip B
  rw [h0] at h1
  have h2 := congrArg List.length h1
  rw [enc64_len] at h2
  have h3 := List.length_pos_iff.2 h
  simp [padT] at h2
  omega
theorem codeU_strip (B : List UInt8) (h : B.length % 2 = 0) : codeU (strip64 B) = u16 B := by
  unfold codeU
  have h1 : (strip64 B).getLast? ≠ some 61 := by
    intro h0
    have hm := List.mem_of_getLast? h0
    obtain ⟨n, hn, e⟩ := strip_let B 61 hm
    exact (letter_ne n hn).2.2.2 e.symm
  rw [if_neg h1, pad_strip, dec_enc]
  show (if B.length % 2 = 1 then none else u16 B) = _
  rw [if_neg (by omega)]
theorem cut_let : ∀ (T R : List UInt8), (∀ c ∈ T, Let c) → cut45 (T ++ 45 :: R) = some (T, R)
  | [], R, _ => by rw [List.nil_append, cut45, if_pos rfl]
  | c :: T, R, h => by
    obtain ⟨n, hn, e⟩ := h c (by simp)
    have hne := letter_ne n hn
    rw [← e] at hne
    rw [List.cons_append, cut45, if_neg hne.1, if_neg (by rintro (h | h); exact hne.2.1 h; exact hne.2.2.1 h), cut_let T R (fun x hx => h x (by simp [hx]))]
    rfl
end Go.Proofs.YtbjhmmiijebehaaDoor.Own

namespace Go.Proofs.YtbjhmmiijebehaaDoor.Own
open Go.RowKit Go.Lib
set_option linter.unusedVariables false
set_option linter.unusedSimpArgs false

theorem dG_fffd (t : List UInt8) : dG (239 :: 191 :: 189 :: t) = (65533, 3) := by
  rw [dG_N _ (by simp)]
  show decodeN (t.length + 3) 239 191 189 _ = _
  generalize ((239 :: 191 :: 189 :: t).getD 3 (0 : UInt8)).toNat = x
  unfold decodeN
  have h1 : (1 < t.length + 3) = True := by simp
  have h2 : (2 < t.length + 3) = True := by simp
  simp [h1, h2]
theorem take3 (X : List UInt8) (h : X.take 3 = [239, 191, 189]) : ∃ t, X = 239 :: 191 :: 189 :: t := by
  match X, h with
  | a :: b :: c :: t, h => simp at h; exact ⟨t, by rw [h.1, h.2.1, h.2.2]⟩
theorem good_step (X : List UInt8) (hX : X ≠ []) (hb : bad9 X = false) : ¬ ((dG X).1 = 65533 ∧ (dG X).2 = 1) ∧ (dG X).1 ≤ 1114111 ∧ ¬ (55296 ≤ (dG X).1 ∧ (dG X).1 < 57344) := by
  refine ⟨fun h => ?_, (decGo_pos X hX).2.2, ?_⟩
  · have h1 : (Lib.decodeGo ⟨X.toArray⟩).1 = 65533 := h.1
    unfold bad9 at hb
    rw [h1] at hb
    simp at hb
    obtain ⟨t, rfl⟩ := take3 X hb.2
    have h2 := h.2
    rw [dG_fffd] at h2
    cases h2
  · rw [dG_N X hX]
    rcases decodeN_shape X.length (X.getD 0 0).toNat (X.getD 1 0).toNat (X.getD 2 0).toNat (X.getD 3 0).toNat with ⟨c, e⟩ | ⟨c1, c2, c3, cv, e⟩ | ⟨c1, c2, c3, c4, cv, cs, e⟩ | ⟨c1, c2, c3, c4, c5, cv, cw, e⟩ | e
    · rw [e]; dsimp only; omega
    · rw [e]; dsimp only; omega
    · rw [e]; dsimp only; omega
    · rw [e]; dsimp only; omega
    · rw [e]; dsimp only; omega
theorem enc_dec (X : List UInt8) (hX : X ≠ []) (hb : bad9 X = false) : enc8 (dG X).1 = X.take (dG X).2 := by
  have h := (good_step X hX hb).1
  rw [dG_L X hX] at h ⊢
  exact encode_decode X hX h
theorem un_two (r : Nat) (h : r < 65536) : un (UInt8.ofNat (r / 256)) (UInt8.ofNat r) = r := by
  unfold un
  rw [UInt8.toNat_ofNat', UInt8.toNat_ofNat']
  omega
theorem u16_u16e (r : Nat) (rest : List UInt8) (h1 : ¬ (32 ≤ r ∧ r ≤ 126)) (h2 : r ≤ 1114111) (h3 : ¬ (55296 ≤ r ∧ r < 57344)) : u16 (u16e r ++ rest) = (u16 rest).map (enc8 r ++ ·) := by
  unfold u16e
  by_cases hr : r < 65536
  · rw [if_pos hr]
    have e := un_two r hr
    show u16 (UInt8.ofNat (r / 256) :: UInt8.ofNat r :: rest) = _
    rw [u16_cons _ _ _ (by rw [e]; exact h3), e, if_neg h1]
  · rw [if_neg hr]
    obtain ⟨a, ha⟩ : ∃ a, a = 55296 + (r - 65536) / 1024 := ⟨_, rfl⟩
    obtain ⟨b, hb⟩ : ∃ b, b = 56320 + (r - 65536) % 1024 := ⟨_, rfl⟩
    rw [← ha, ← hb]
    have ea := un_two a (by omega)
    have eb := un_two b (by omega)
    show u16 (UInt8.ofNat (a / 256) :: UInt8.ofNat a :: UInt8.ofNat (b / 256) :: UInt8.ofNat b :: rest) = _
    rw [u16_sur2 _ _ _ _ _ (by rw [ea]; omega), ea, eb, if_pos (by omega)]
    rw [show 65536 + (a - 55296) * 1024 + (b - 56320) = r by omega]
theorem u16_encF : ∀ (n : Nat) (X : List UInt8), X.length ≤ n → (∀ c ∈ X, prn c = false) → utf9 X = true → u16 (encF X) = some X
  | 0, X, h, _, _ => by
    have : X = [] := List.eq_nil_of_length_eq_zero (by omega)
    subst this; rfl
  | n + 1, [], h, _, _ => rfl
  | n + 1, c :: t, h, hp, hu => by
    have hne : c :: t ≠ [] := by simp
    have hq := decGo_pos (c :: t) hne
    rw [utf9_step _ hne] at hu
    have hu1 : bad9 (c :: t) = false := by
      rcases hb : bad9 (c :: t) with _ | _
      · rfl
      · rw [hb] at hu; cases hu
    rw [hu1] at hu
    have hu2 : utf9 ((c :: t).drop (dG (c :: t)).2) = true := by simpa using hu
    have hg := good_step _ hne hu1
    have hd := dG_hi c t (hp c (by simp))
    have he := enc_dec _ hne hu1
    rw [encF_step _ hne]
    show u16 (u16e (dG (c :: t)).1 ++ encF ((c :: t).drop (dG (c :: t)).2)) = _
    have hq1 : 1 ≤ (dG (c :: t)).2 := hq.1
    rw [u16_u16e _ _ hd hg.2.1 hg.2.2, u16_encF n _ (by rw [List.length_drop]; omega) (fun x hx => hp x (List.mem_of_mem_drop hx)) hu2, he]
    rw [Option.map_some, List.take_append_drop]
theorem bad_app (X R : List UInt8) (hX : X ≠ []) (hR : Asc R) : bad9 (X ++ R) = bad9 X := by
  unfold bad9
  rw [show Lib.decodeGo ⟨(X ++ R).toArray⟩ = Lib.decodeGo ⟨X.toArray⟩ from dec_cut X R hX hR]
  rcases hr : (Lib.decodeGo ⟨X.toArray⟩).1 == 65533 with _ | _
  · rfl
  · rw [Bool.true_and, Bool.true_and]
    have hh := hR.get
    match X, hX with
    | [a], _ =>
      have h1 : (decide (([a] : List UInt8).length < 3) || List.take 3 [a] != [239, 191, 189]) = true := by simp
      rw [h1]
      cases R with
      | nil => simp
      | cons y R =>
        have hy : y ≠ 191 := by
          intro h0; rw [h0] at hh; revert hh; show ¬ ((191 : UInt8).toNat < 128); decide
        cases R with
        | nil => simp
        | cons z R => simp [hy]
    | [a, b], _ =>
      have h1 : (decide (([a, b] : List UInt8).length < 3) || List.take 3 [a, b] != [239, 191, 189]) = true := by simp
      rw [h1]
      cases R with
      | nil => simp
      | cons y R =>
        have hy : y ≠ 189 := by
          intro h0; rw [h0] at hh; revert hh; show ¬ ((189 : UInt8).toNat < 128); decide
        simp [hy]
    | a :: b :: c :: t, _ =>
      rw [decide_eq_false (by simp), decide_eq_false (by simp)]
      simp
theorem utf9_app : ∀ (n : Nat) (X R : List UInt8), X.length ≤ n → Asc R → utf9 (X ++ R) = (utf9 X && utf9 R)
  | 0, X, R, h, _ => by
    have : X = [] := List.eq_nil_of_length_eq_zero (by omega)
    subst this; simp [utf9_nil]
  | n + 1, X, R, h, hR => by
    by_cases hX : X = []
    · subst hX; simp [utf9_nil]
    · have hp := decGo_pos X hX
      have e1 := utf9_step (X ++ R) (by simp [hX])
      have e2 := utf9_step X hX
      rw [show Lib.decodeGo ⟨(X ++ R).toArray⟩ = dG X from dec_cut X R hX hR, bad_app X R hX hR] at e1
      rw [e1, e2, List.drop_append_of_le_length hp.2.1, utf9_app n (X.drop (dG X).2) R (by rw [List.length_drop]; have : 1 ≤ (dG X).2 := hp.1; omega) hR, Bool.and_assoc]
theorem codeU_run (X : List UInt8) (hp : ∀ c ∈ X, prn c = false) (hu : utf9 X = true) : codeU (strip64 (encF X)) = some X := by
  rw [codeU_strip _ (encF_even X.length X (Nat.le_refl _))]
  exact u16_encF X.length X (Nat.le_refl _) hp hu
theorem round_all : ∀ (n : Nat) (l : List UInt8) (asc : Bool), l.length ≤ n → utf9 l = true → (asc = true ∨ ∀ c, l.head? = some c → prn c = true) → trF asc (tF l) = some l
  | 0, l, asc, h, _, _ => by
    have : l = [] := List.eq_nil_of_length_eq_zero (by omega)
    subst this
    rw [tF_nil]; rfl
  | n + 1, [], asc, h, _, _ => by rw [tF_nil]; rfl
  | n + 1, c :: t, asc, h, hu, ha => by
    simp only [List.length_cons] at h
    rcases hc : prn c with _ | _
    · have ha' : asc = true := by
        rcases ha with ha | ha
        · exact ha
        · have := ha c rfl; rw [hc] at this; cases this
      subst ha'
      rw [tF_run c t hc]
      have hsplit : c :: t = (c :: t.takeWhile fun x => !prn x) ++ (t.dropWhile fun x => !prn x) := by
        rw [List.cons_append, List.takeWhile_append_dropWhile]
      generalize hXd : (c :: t.takeWhile fun x => !prn x) = X at hsplit ⊢
      have hRl : (t.dropWhile fun x => !prn x).length ≤ t.length := (List.dropWhile_sublist _).length_le
      have hRh : ∀ y, (t.dropWhile fun x => !prn x).head? = some y → prn y = true := fun y hy => by
        have := List.head?_dropWhile_not (fun x => !prn x) t
        rw [hy] at this
        simpa using this
      generalize hRd : (t.dropWhile fun x => !prn x) = R at hsplit hRl hRh ⊢
      have hX : X ≠ [] := by rw [← hXd]; simp
      have hXp : ∀ x ∈ X, prn x = false := by
        rw [← hXd]
        intro x hx
        rcases List.mem_cons.1 hx with rfl | hx
        · exact hc
        · have := List.all_eq_true.1 (List.all_takeWhile (p := fun x => !prn x) (l := t)) x hx
          simpa using this
      have hA : Asc R := fun y hy => by have := hRh y hy; unfold prn at this; simp at this; omega
      rw [hsplit, utf9_app X.length X R (Nat.le_refl _) hA, Bool.and_eq_true] at hu
      have hne : encF X ≠ [] := by
        rw [encF_step X hX]
        have := u16e_even (Lib.decodeGo ⟨X.toArray⟩).1
        intro h0
        have h1 := congrArg List.length h0
        rw [List.length_append, List.length_nil] at h1
        omega
      have hcut : cut45 (strip64 (encF X) ++ 45 :: tF R) = some (strip64 (encF X), tF R) := cut_let _ _ (strip_let _)
      have e : enc7 X ++ tF R = 38 :: (strip64 (encF X) ++ 45 :: tF R) := by unfold enc7; simp
      rw [e, trF_shift _ _ _ X hcut (strip_len _ hne) (codeU_run X hXp hu.1) hX, round_all n R false (by omega) hu.2 (Or.inr hRh), hsplit]
      rfl
    · have hy' : 32 ≤ c.toNat ∧ c.toNat ≤ 126 := by unfold prn at hc; simpa using hc
      have hlo : c.toNat < 128 := by omega
      have hu2 : utf9 t = true := by
        rw [utf9_step _ (by simp), show Lib.decodeGo ⟨(c :: t).toArray⟩ = (c.toNat, 1) from dG_one c t hlo] at hu
        rw [Bool.and_eq_true] at hu
        exact hu.2
      have ih := round_all n t true (by omega) hu2 (Or.inl rfl)
      rw [tF_prn c t hc]
      by_cases h38 : c = 38
      · rw [if_pos h38, h38]
        show trF asc (38 :: (45 :: tF t)) = _
        rw [trF_amp asc (45 :: tF t) (tF t) (by rw [cut45, if_pos rfl]), ih]
        rfl
      · rw [if_neg h38]
        show trF asc (c :: tF t) = _
        rw [trF_plain asc c (tF t) (by omega) h38, ih]
        rfl
theorem round_tF (l : List UInt8) (h : utf9 l = true) : trF true (tF l) = some l := round_all l.length l true (Nat.le_refl _) h (Or.inl rfl)
theorem enc7_five (X : List UInt8) (h : X ≠ []) : (enc7 X).length ≤ 5 * X.length := by
  have h1 := encF_len X
  have h2 := enc64_len (encF X)
  have h3 := List.length_pos_iff.2 h
  unfold enc7 strip64
  simp only [List.cons_append, List.length_cons, List.length_append, List.length_take, List.length_nil]
  omega
theorem tE_five : ∀ (n : Nat) (l : List UInt8), (tE n l).length ≤ 5 * l.length
  | 0, l => by simp [tE]
  | n + 1, [] => by simp [tE]
  | n + 1, c :: t => by
    rw [tE]
    split
    · have := tE_five n t
      rw [List.length_append, List.length_cons]
      split <;> simp <;> omega
    · have h1 := enc7_five (c :: t.takeWhile fun x => !prn x) (by simp)
      have h2 := tE_five n (t.dropWhile fun x => !prn x)
      have h3 := congrArg List.length (List.takeWhile_append_dropWhile (p := fun x => !prn x) (l := t))
      rw [List.length_append] at h3
      simp only [List.length_cons] at h1
      rw [List.length_append, List.length_cons]
      omega
theorem tF_five (l : List UInt8) : (tF l).length ≤ 5 * l.length := tE_five _ l
end Go.Proofs.YtbjhmmiijebehaaDoor.Own
