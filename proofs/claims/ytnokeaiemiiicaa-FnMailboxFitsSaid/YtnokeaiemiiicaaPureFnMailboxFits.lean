/- FnMailboxFits: for every name, reference and pattern of printable ASCII of at most 40 bytes MailboxFits answers as the plain reckoning Fits9 does. -/
import Derived.Test.YtnokeaiemiiicaaPFnMailboxFitsx1
import Derived.OpenShut
namespace Go.Proofs.Ytnokeaiemiiicaa.Pure
open Go.RowKit Go.Proofs.Ytnokeaiemiiicaa.PFnMailboxFits Go.Proofs.Ytnokeaiemiiicaa.Own Go.Proofs.YtnokeaiemiiicaaW.PrintWords Go.Proofs.YtnokeaiemiiicaaW.PrintLast
set_option linter.unusedVariables false
set_option linter.unusedSimpArgs false

def mf_good (c : UInt8) : Bool := decide (32 ≤ c.toNat) && decide (c.toNat ≤ 126)
theorem mf_shown (a : ByteArray) (ha : a.size ≤ 2147483647) : ∀ (d i : Nat), i + d = a.size → Ev (fun k => spec_Shown9.l0 k a (a.size : Int) (i : Int)) ((a.data.toList.drop i).all mf_good) := by
  intro d
  induction d with
  | zero =>
    intro i hi
    rw [List.drop_of_length_le (by rw [← size_list]; omega)]
    refine Ev.one fun k => ?_
    simp only [spec_Shown9.l0]
    rw [if_neg (by omega)]
    rfl
  | succ d ih =>
    intro i hi
    have hlt : i < a.data.toList.length := by rw [← size_list]; omega
    obtain ⟨c, hc⟩ : ∃ c, a.data.toList[i]? = some c := ⟨_, List.getElem?_eq_getElem hlt⟩
    have hb := bt_some a i c hc
    rw [drop_cons hc, List.all_cons]
    by_cases c1 : bt a i < 32
    · refine Ev.one fun k => ?_
      simp only [spec_Shown9.l0]
      rw [if_pos (by omega), if_pos (by omega), if_pos (by omega), if_pos c1, show mf_good c = false by simp [mf_good]; omega]
      rfl
    · by_cases c2 : bt a i > 126
      · refine Ev.one fun k => ?_
        simp only [spec_Shown9.l0]
        rw [if_pos (by omega), if_pos (by omega), if_pos (by omega), if_neg c1, if_pos c2, show mf_good c = false by simp [mf_good]; omega]
        rfl
      · rw [show mf_good c = true by simp [mf_good]; omega, Bool.true_and]
        refine Ev.step (fun k => ?_) (ih (i + 1) (by omega))
        simp only [spec_Shown9.l0]
        rw [if_pos (by omega), if_pos (by omega), if_pos (by omega), if_neg c1, if_neg c2, wrap_succ (by omega)]
theorem mf_ascii (s : ByteArray) (h : s.data.toList.all mf_good = true) : asciiB s = true := by
  unfold asciiB
  rw [List.all_eq_true] at h ⊢
  intro c hc
  have := h c hc
  simp [mf_good] at this
  simp
  omega
theorem mf_one (x : Int) (h0 : 0 ≤ x) (h1 : x ≤ 126) : (strOfNums ([x] : List Int)).size = 1 ∧ asciiB (strOfNums ([x] : List Int)) = true := by
  refine ⟨by rw [strOfNums_size]; rfl, ?_⟩
  unfold asciiB
  rw [strOfNums_data]
  simp
  omega
theorem mf_a : Own.impl_MailboxFits.f (⟨#[97]⟩ : ByteArray) (⟨#[47]⟩ : ByteArray) (⟨#[]⟩ : ByteArray) (⟨#[97]⟩ : ByteArray) = some true := by decide +kernel

theorem mf_true (n r p : ByteArray) (x : Int) : Ev (fun k => laws_FnMailboxFits.j2 k n r p x true) true := by
  refine Ev.one fun k => ?_
  simp only [laws_FnMailboxFits.j2]
  rw [if_pos trivial]
theorem mf_false (n r p : ByteArray) (x : Int) (hn : n.size ≤ 40) (hr : r.size ≤ 40) (hp : p.size ≤ 40) (x0 : 0 ≤ x) (x1 : x ≤ 126) (an : asciiB n = true) (ap : asciiB p = true) : Ev (fun k => laws_FnMailboxFits.j2 k n r p x false) true := by
  obtain ⟨h1, h2⟩ := mf_one x x0 x1
  have e1 : Own.impl_MailboxFits.f n (strOfNums ([x] : List Int)) r p = some (fits ((strOfNums ([x] : List Int)).data.toList.headD 0) n r p) := by
    unfold Own.impl_MailboxFits.f; rw [if_pos ⟨⟨h1, h2⟩, by omega, by omega, by omega, an, ap⟩]
  have e2 : Own.spec_Fits9.f n (strOfNums ([x] : List Int)) r p = some (fits ((strOfNums ([x] : List Int)).data.toList.headD 0) n r p) := by
    unfold Own.spec_Fits9.f; rw [if_pos ⟨h1, by omega, by omega, by omega⟩]
  refine Ev.one fun k => ?_
  simp only [laws_FnMailboxFits.j2]
  rw [if_neg (by decide)]
  simp only [Option.bind_some, e1, e2, mf_a, beq_self_eq_true, if_true]

theorem mf_end (n r p : ByteArray) (x : Int) (x0 : 0 ≤ x) (v : Int) : Ev (fun k => laws_FnMailboxFits.l0 k n r p x v (p.size : Int) (p.size : Int)) true := by
  by_cases c1 : x ≤ 32
  · refine Ev.step (fun k => ?_) (mf_true n r p x)
    simp only [laws_FnMailboxFits.l0]
    rw [if_neg (by omega), if_pos c1]
  by_cases c2 : x > 126
  · refine Ev.step (fun k => ?_) (mf_true n r p x)
    simp only [laws_FnMailboxFits.l0]
    rw [if_neg (by omega), if_neg c1, if_pos c2]
  by_cases c3 : x = 42
  · refine Ev.step (fun k => ?_) (mf_true n r p x)
    simp only [laws_FnMailboxFits.l0]
    rw [if_neg (by omega), if_neg c1, if_neg c2, if_pos c3]
  by_cases c4 : x = 37
  · refine Ev.step (fun k => ?_) (mf_true n r p x)
    simp only [laws_FnMailboxFits.l0]
    rw [if_neg (by omega), if_neg c1, if_neg c2, if_neg c3, if_pos c4]
  by_cases c5 : v > 6
  · refine Ev.step (fun k => ?_) (mf_true n r p x)
    simp only [laws_FnMailboxFits.l0]
    rw [if_neg (by omega), if_neg c1, if_neg c2, if_neg c3, if_neg c4, if_pos c5]
  by_cases c6 : (n.size : Int) > 40
  · refine Ev.step (fun k => ?_) (mf_true n r p x)
    simp only [laws_FnMailboxFits.l0]
    rw [if_neg (by omega), if_neg c1, if_neg c2, if_neg c3, if_neg c4, if_neg c5, if_pos c6]
  by_cases c7 : (r.size : Int) > 40
  · refine Ev.step (fun k => ?_) (mf_true n r p x)
    simp only [laws_FnMailboxFits.l0]
    rw [if_neg (by omega), if_neg c1, if_neg c2, if_neg c3, if_neg c4, if_neg c5, if_neg c6, if_pos c7]
  by_cases c8 : (p.size : Int) > 40
  · refine Ev.step (fun k => ?_) (mf_true n r p x)
    simp only [laws_FnMailboxFits.l0]
    rw [if_neg (by omega), if_neg c1, if_neg c2, if_neg c3, if_neg c4, if_neg c5, if_neg c6, if_neg c7, if_pos c8]
  have hs : (n ++ r ++ p).size ≤ 120 := by rw [ByteArray.size_append, ByteArray.size_append]; omega
  have hs2 : (n ++ r).size = n.size + r.size := ByteArray.size_append ..
  have hsh := mf_shown (n ++ r ++ p) (by omega) (n ++ r ++ p).size 0 (by omega)
  rw [List.drop_zero] at hsh
  refine Ev.step (f := fun k => (spec_Shown9.f k (n ++ r ++ p)).bind fun t101 => (laws_FnMailboxFits.j2 k n r p x (!t101))) (fun k => ?_) (Ev.bind (a := (n ++ r ++ p).data.toList.all mf_good) ?_ ?_)
  · simp only [laws_FnMailboxFits.l0]
    rw [if_neg (by omega), if_neg c1, if_neg c2, if_neg c3, if_neg c4, if_neg c5, if_neg c6, if_neg c7, if_neg c8, if_pos (by omega), if_pos (by omega)]
  · exact hsh
  · cases hg : (n ++ r ++ p).data.toList.all mf_good with
    | false => exact mf_true n r p x
    | true =>
      rw [app_list, app_list, List.all_append, List.all_append, Bool.and_eq_true, Bool.and_eq_true] at hg
      exact mf_false n r p x (by omega) (by omega) (by omega) (by omega) (by omega) (mf_ascii n hg.1.1) (mf_ascii p hg.2)

theorem mf_loop (n r p : ByteArray) (hp : p.size ≤ 2147483647) (x : Int) (x0 : 0 ≤ x) : ∀ (d i : Nat), i + d = p.size → ∀ v : Nat, v ≤ i → Ev (fun k => laws_FnMailboxFits.l0 k n r p x (v : Int) (p.size : Int) (i : Int)) true := by
  intro d
  induction d with
  | zero =>
    intro i hi v hv
    obtain rfl : i = p.size := by omega
    exact mf_end n r p x x0 v
  | succ d ih =>
    intro i hi v hv
    have e1 : wrap64 ((i : Int) + 1) = ((i + 1 : Nat) : Int) := wrap_succ (by omega)
    have e2 : wrap64 ((v : Int) + 1) = ((v + 1 : Nat) : Int) := wrap_succ (by omega)
    by_cases c1 : bt p i = 42
    · refine Ev.step (fun k => ?_) (ih (i + 1) (by omega) (v + 1) (by omega))
      simp only [laws_FnMailboxFits.l0]
      rw [if_pos (by omega), if_pos (by omega), if_pos (by omega), if_pos c1, e1, e2]
    · by_cases c2 : bt p i = 37
      · refine Ev.step (fun k => ?_) (ih (i + 1) (by omega) (v + 1) (by omega))
        simp only [laws_FnMailboxFits.l0]
        rw [if_pos (by omega), if_pos (by omega), if_pos (by omega), if_neg c1, if_pos c2, e1, e2]
      · refine Ev.step (fun k => ?_) (ih (i + 1) (by omega) v (by omega))
        simp only [laws_FnMailboxFits.l0]
        rw [if_pos (by omega), if_pos (by omega), if_pos (by omega), if_neg c1, if_neg c2, e1]

theorem mf_j0t (n r p : ByteArray) (x : Int) : Ev (fun k => laws_FnMailboxFits.j0 k n r p x true) true := by
  refine Ev.one fun k => ?_
  simp only [laws_FnMailboxFits.j0]
  rw [if_pos trivial]

theorem FnMailboxFits : laws_FnMailboxFits.Pure := by
  intro n r p x _ _ _ hx
  have x0 : 0 ≤ x := (bounds_u8 hx).1
  have : Ev (fun k => laws_FnMailboxFits.f k n r p x) true := by
    by_cases c1 : (n.size : Int) > 2147483647
    · refine Ev.congr (fun k => ?_) (mf_j0t n r p x)
      simp only [laws_FnMailboxFits.f]
      rw [if_pos c1]
    by_cases c2 : (r.size : Int) > 2147483647
    · refine Ev.congr (fun k => ?_) (mf_j0t n r p x)
      simp only [laws_FnMailboxFits.f]
      rw [if_neg c1, if_pos c2]
    by_cases c3 : (p.size : Int) > 2147483647
    · refine Ev.congr (fun k => ?_) (mf_j0t n r p x)
      simp only [laws_FnMailboxFits.f]
      rw [if_neg c1, if_neg c2, decide_eq_true c3]
    · refine Ev.congr (f := fun k => laws_FnMailboxFits.j0 k n r p x false) (fun k => ?_) (Ev.step (fun k => ?_) (mf_loop n r p (by omega) x x0 p.size 0 (by omega) 0 (by omega)))
      · simp only [laws_FnMailboxFits.f]
        rw [if_neg c1, if_neg c2, decide_eq_false c3]
      · simp only [laws_FnMailboxFits.j0]
        rw [if_neg (by decide)]
        rfl
  obtain ⟨k, hk⟩ := this
  exact ⟨k, hk k (Nat.le_refl _)⟩
end Go.Proofs.Ytnokeaiemiiicaa.Pure
