/- spec.wild9: for every text and pattern of at most 100 bytes it answers what wild says. -/
import Derived.Test.YtnokeaiemiiicaaWild9b
import Derived.Test.YtnokeaiemiiicaaWild
namespace Go.Proofs.Ytnokeaiemiiicaa.Own
open Go.RowKit Go.Proofs.Ytnokeaiemiiicaa.Wild9P Go.Proofs.YtnokeaiemiiicaaW.PrintWords Go.Proofs.YtnokeaiemiiicaaW.PrintLast
set_option linter.unusedVariables false
set_option linter.unusedSimpArgs false

def stopW (c d x : UInt8) : Bool := c == 37 && x == d
theorem wild_starW (d c : UInt8) (hc : c = 42 ∨ c = 37) (q s : List UInt8) : wild d (c :: q) s = star (wild d q) (stopW c d) s := by
  rcases hc with rfl | rfl
  · simp [wild, stopW]; rfl
  · simp [wild, stopW]; rfl
theorem ext1 (s : ByteArray) (k : Nat) : (s.extract (k : Int).toNat s.size).data.toList = s.data.toList.drop k := by rw [ext_end]; simp
theorem w9_loop (d c : UInt8) (p : ByteArray) (q : List UInt8) (hp : p.data.toList = c :: q)
    (ih : ∀ s : ByteArray, s.size ≤ 100 → Ev (fun k => spec_wild9.f k s (p.extract 1 p.size) ⟨#[d]⟩) (wild d q s.data.toList)) (s : ByteArray) (hs : s.size ≤ 100) :
    ∀ (n i : Nat), i + n = s.size → Ev (fun k => spec_wild9.l0 k s p ⟨#[d]⟩ (i : Int)) (star (wild d q) (stopW c d) (s.data.toList.drop i)) := by
  have hps : p.size = q.length + 1 := by rw [size_list, hp]; rfl
  have hbt : bt p 0 = (c.toNat : Int) := bt_some p 0 c (by rw [hp]; rfl)
  intro n
  induction n with
  | zero =>
    intro i hi
    have hrest := ih (s.extract (i : Int).toNat s.size) (by rw [ext_size]; omega)
    rw [ext1] at hrest
    have hd : s.data.toList.drop i = [] := List.drop_of_length_le (by rw [← size_list]; omega)
    rw [hd] at hrest ⊢
    refine Ev.step (f := fun k => (spec_wild9.f k (s.extract (i : Int).toNat s.size) (p.extract 1 p.size) ⟨#[d]⟩).bind fun t => if t = true then some true else some false) (fun k => ?_) (Ev.bind hrest ?_)
    · simp only [spec_wild9.l0]
      rw [if_pos (by omega), if_pos (by omega), if_pos (by omega)]
      congr 1
      funext t
      rw [if_pos (show (i : Int) = (s.size : Int) by omega)]
    · rw [star]
      cases wild d q [] with
      | true => exact Ev.now true
      | false => exact Ev.now false
  | succ n ihn =>
    intro i hi
    have hrest := ih (s.extract (i : Int).toNat s.size) (by rw [ext_size]; omega)
    rw [ext1] at hrest
    have hlt : i < s.data.toList.length := by rw [← size_list]; omega
    obtain ⟨x, hx⟩ : ∃ x, s.data.toList[i]? = some x := ⟨_, List.getElem?_eq_getElem hlt⟩
    have hd := drop_cons hx
    have hnext := ihn (i + 1) (by omega)
    have hw : wrap64 ((i : Int) + 1) = ((i + 1 : Nat) : Int) := wrap_succ (by omega)
    have hone : (s.extract (i : Int).toNat (((i + 1 : Nat) : Int)).toNat).toList = [x] := by
      rw [Lib.toList_data, ext_list]
      simp only [Int.toNat_natCast, Nat.add_sub_cancel_left]
      rw [hd]; rfl
    refine Ev.step (f := fun k => (spec_wild9.f k (s.extract (i : Int).toNat s.size) (p.extract 1 p.size) ⟨#[d]⟩).bind fun t => if t = true then some true else (if stopW c d x = true then some false else spec_wild9.l0 k s p ⟨#[d]⟩ ((i + 1 : Nat) : Int))) (fun k => ?_) (Ev.bind hrest ?_)
    · simp only [spec_wild9.l0]
      rw [if_pos (by omega), if_pos (by omega), if_pos (by omega)]
      congr 1
      funext t
      cases t with
      | true => rw [if_pos rfl, if_pos rfl]
      | false =>
      rw [if_neg Bool.false_ne_true, if_neg Bool.false_ne_true, if_neg (show ¬ (i : Int) = (s.size : Int) by omega), if_pos (by omega), hbt, hw]
      by_cases hc : c = 37
      · rw [if_pos (by rw [hc]; rfl), if_pos (by omega), if_pos (by omega), hone]
        by_cases hxd : x = d
        · rw [if_pos (by rw [hxd, Lib.toList_data]), if_pos (by simp [stopW, hc, hxd])]
        · rw [if_neg (by rw [Lib.toList_data]; intro e; exact hxd (List.cons.inj e).1), if_neg (by simp [stopW, hc, hxd])]
      · rw [if_neg (show ¬ (c.toNat : Int) = 37 by intro e; exact hc (u8_eq_lit (n := 37) (by omega) e)), if_neg (show ¬ stopW c d x = true by simp [stopW, hc])]
    · rw [hd] at *
      cases hv : wild d q (x :: s.data.toList.drop (i + 1)) with
      | true => rw [star, hv]; exact Ev.now true
      | false =>
        cases hst : stopW c d x with
        | true => rw [star, hv, hst]; exact Ev.now false
        | false => rw [star, hv, hst]; simpa using hnext
theorem w9_pure (d : UInt8) : ∀ (n : Nat) (p : ByteArray), p.size = n → n ≤ 100 → ∀ s : ByteArray, s.size ≤ 100 → Ev (fun k => spec_wild9.f k s p ⟨#[d]⟩) (wild d p.data.toList s.data.toList) := by
  intro n
  induction n with
  | zero =>
    intro p hp _ s hs
    have hnil : p.data.toList = [] := List.length_eq_zero_iff.1 (by rw [← size_list]; exact hp)
    refine Ev.one fun k => ?_
    simp only [spec_wild9.f]
    rw [if_pos (by rw [Lib.toList_data]; exact hnil), hnil, wild, Lib.toList_data]
    cases s.data.toList <;> rfl
  | succ n ih =>
    intro p hp hn s hs
    obtain ⟨c, q, hcq⟩ : ∃ c q, p.data.toList = c :: q := by
      cases h : p.data.toList with
      | nil => rw [size_list, h] at hp; cases hp
      | cons c q => exact ⟨c, q, rfl⟩
    have hbt : bt p 0 = (c.toNat : Int) := bt_some p 0 c (by rw [hcq]; rfl)
    have hne : ¬ p.toList = [] := by rw [Lib.toList_data, hcq]; exact List.cons_ne_nil _ _
    have hr : (p.extract 1 p.size).data.toList = q := by rw [ext_end, hcq]; rfl
    have ihr : ∀ t : ByteArray, t.size ≤ 100 → Ev (fun k => spec_wild9.f k t (p.extract 1 p.size) ⟨#[d]⟩) (wild d q t.data.toList) := fun t ht => by
      have := ih (p.extract 1 p.size) (by rw [ext_size]; omega) (by omega) t ht
      rwa [hr] at this
    by_cases h42 : c = 42
    · refine Ev.step (f := fun k => spec_wild9.j0 k s p ⟨#[d]⟩ false) (fun k => ?_) (Ev.step (f := fun k => spec_wild9.l0 k s p ⟨#[d]⟩ ((0 : Nat) : Int)) (fun k => ?_) ?_)
      · simp only [spec_wild9.f]
        rw [if_neg hne, if_pos (by omega), if_pos (by rw [hbt, h42]; rfl)]
      · simp only [spec_wild9.j0]
        rw [if_neg (by decide)]
        rfl
      · have := w9_loop d c p q hcq ihr s hs s.size 0 (by omega)
        rw [hcq, wild_starW d c (Or.inl h42)]
        exact this
    · by_cases h37 : c = 37
      · refine Ev.step (f := fun k => spec_wild9.j0 k s p ⟨#[d]⟩ false) (fun k => ?_) (Ev.step (f := fun k => spec_wild9.l0 k s p ⟨#[d]⟩ ((0 : Nat) : Int)) (fun k => ?_) ?_)
        · simp only [spec_wild9.f]
          rw [if_neg hne, if_pos (by omega), hbt, h37]
          rfl
        · simp only [spec_wild9.j0]
          rw [if_neg (by decide)]
          rfl
        · have := w9_loop d c p q hcq ihr s hs s.size 0 (by omega)
          rw [hcq, wild_starW d c (Or.inr h37)]
          exact this
      · have n42 : ¬ (c.toNat : Int) = 42 := fun e => h42 (u8_eq_lit (n := 42) (by omega) e)
        have n37 : ((c.toNat : Int) != 37) = true := by simp only [bne_iff_ne]; exact fun e => h37 (u8_eq_lit (n := 37) (by omega) e)
        refine Ev.step (f := fun k => spec_wild9.j0 k s p ⟨#[d]⟩ true) (fun k => ?_) ?_
        · simp only [spec_wild9.f]
          rw [if_neg hne, if_pos (by omega), hbt, if_neg n42, n37]
        · rw [hcq, wild, if_neg h42, if_neg h37]
          cases hsl : s.data.toList with
          | nil =>
            refine Ev.one fun k => ?_
            simp only [spec_wild9.j0]
            rw [if_pos trivial, if_pos (by rw [Lib.toList_data]; exact hsl)]
            rfl
          | cons x t =>
            have hsz : s.size = t.length + 1 := by rw [size_list, hsl]; rfl
            have hbs : bt s 0 = (x.toNat : Int) := bt_some s 0 x (by rw [hsl]; rfl)
            have hsn : ¬ s.toList = [] := by rw [Lib.toList_data, hsl]; exact List.cons_ne_nil _ _
            have hst : (s.extract 1 s.size).data.toList = t := by rw [ext_end, hsl]; rfl
            by_cases hxc : x = c
            · have := ihr (s.extract 1 s.size) (by rw [ext_size]; omega)
              rw [hst] at this
              refine Ev.step (f := fun k => (spec_wild9.f k (s.extract 1 s.size) (p.extract 1 p.size) ⟨#[d]⟩).bind fun t => some t) (fun k => ?_) (Ev.bind this ?_)
              · simp only [spec_wild9.j0]
                rw [if_pos trivial, if_neg hsn, if_pos (by omega), if_pos (by omega), if_pos (by rw [hbs, hbt, hxc]), if_pos (by omega), if_pos (by omega)]
              · rw [lit, hxc, beq_self_eq_true, Bool.true_and]
                exact Ev.now _
            · refine Ev.one fun k => ?_
              simp only [spec_wild9.j0]
              rw [if_pos trivial, if_neg hsn, if_pos (by omega), if_pos (by omega), if_neg (by rw [hbs, hbt]; exact fun e => hxc (u8_eq e))]
              rw [lit, show (x == c) = false from beq_eq_false_iff_ne.2 hxc]
              rfl

theorem wild9_any (d : UInt8) (p s : ByteArray) (w : World) (hp : p.size ≤ 100) (hs : s.size ≤ 100) :
    Calls Try.prog 35 #[.string s, .string p, .string ⟨#[d]⟩] w fun e w' => e = .returned (.bool (wild d p.data.toList s.data.toList)) ∧ Below w.heap.size w w' := by
  obtain ⟨k, hk⟩ := (w9_pure d p.size p rfl hp s hs)
  exact spec_wild9.calls k s p ⟨#[d]⟩ _ w (hk k (Nat.le_refl _))
end Go.Proofs.Ytnokeaiemiiicaa.Own
