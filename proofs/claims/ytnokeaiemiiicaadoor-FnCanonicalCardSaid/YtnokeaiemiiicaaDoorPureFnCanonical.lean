/- FnCanonical holds at every text, plainly: on printable ASCII the two ways to a flag's form agree, and so do the two ways to a mailbox's name. No condition beyond the text's size. -/
import Derived.Test.YtnokeaiemiiicaaDoorPFnCanonicalx1
import Derived.Test.YtnokeaiemiiicaaDoorPlain
namespace Go.Proofs.YtnokeaiemiiicaaDoor.Pure
open Go.RowKit Go.Proofs.YtnokeaiemiiicaaDoor.PFnCanonical Go.Proofs.YtnokeaiemiiicaaDoorW.PrintWords Go.Proofs.YtnokeaiemiiicaaDoorW.PrintLast Go.Proofs.YtnokeaiemiiicaaDoor.Own
set_option linter.unusedVariables false
set_option linter.unusedSimpArgs false

theorem shown_tells (a : ByteArray) (ha : a.size ≤ 2147483647) : ∀ (d i : Nat), i + d = a.size → ∃ b, spec_Shown9.l0 (d + 1) a (a.size : Int) (i : Int) = some b ∧ (b = true → ∀ (j : Nat) (c : UInt8), i ≤ j → a.data.toList[j]? = some c → c.toNat < 128)
  | 0, i, hd => ⟨true, by simp only [spec_Shown9.l0]; rw [if_neg (by omega)], fun _ j c hj hc => by
      rw [List.getElem?_eq_none (by rw [← size_list]; omega)] at hc; cases hc⟩
  | d + 1, i, hd => by
    have hi : i < a.data.toList.length := by rw [← size_list]; omega
    obtain ⟨c, hc⟩ : ∃ c, a.data.toList[i]? = some c := ⟨_, List.getElem?_eq_getElem hi⟩
    have hb := bt_some a i c hc
    simp only [spec_Shown9.l0]
    rw [if_pos (by omega), if_pos (by omega), if_pos (by omega), hb]
    by_cases h1 : (c.toNat : Int) < 32
    · exact ⟨false, by rw [if_pos h1], fun h => by cases h⟩
    · rw [if_neg h1]
      by_cases h2 : (c.toNat : Int) > 126
      · exact ⟨false, by rw [if_pos h2], fun h => by cases h⟩
      · rw [if_neg h2, wrap_succ (by omega)]
        obtain ⟨b, hb1, hb2⟩ := shown_tells a ha d (i + 1) (by omega)
        refine ⟨b, hb1, fun hbt j c' hj hc' => ?_⟩
        by_cases e : j = i
        · subst e
          rw [hc] at hc'
          cases hc'
          omega
        · exact hb2 hbt j c' (by omega) hc'
theorem ascB_of {a : ByteArray} (ha : a.size ≤ 60) (h : ∀ (j : Nat) (c : UInt8), a.data.toList[j]? = some c → c.toNat < 128) : ascB a = true := by
  unfold ascB
  rw [Bool.and_eq_true]
  refine ⟨decide_eq_true (by omega), List.all_eq_true.2 fun b hb => decide_eq_true ?_⟩
  obtain ⟨j, hj⟩ := List.mem_iff_getElem?.1 hb
  exact h j b hj
theorem toList_inj {a b : ByteArray} : a.toList = b.toList ↔ a = b := ⟨ba_ext', fun h => by rw [h]⟩
theorem j1_tells (k : Nat) (s : ByteArray) (hs : ascB s = true) (box : ByteArray) (hbox : boxL s = box) : laws_FnCanonical.j1 (k + 1) s box = some true := by
  have h5 : ascB ⟨#[92, 83, 69, 69, 78]⟩ = true := by decide +kernel
  simp only [laws_FnCanonical.j1]
  unfold impl_FlagOf.f spec_Flag9.f impl_MailboxOf.f
  rw [if_pos hs, if_pos hs, if_pos hs, if_pos h5]
  simp only [Option.bind_some]
  rw [if_pos (by rw [canon_same]), if_pos (by rw [hbox]), canon_seen]
  decide +kernel
theorem FnCanonical : laws_FnCanonical.Pure := by
  intro s hs
  by_cases h0 : (s.size : Int) > 2147483647
  · exact ⟨1, by unfold laws_FnCanonical.f; rw [if_pos h0]⟩
  by_cases h1 : (s.size : Int) > 60
  · refine ⟨1, ?_⟩
    unfold laws_FnCanonical.f
    rw [if_neg h0, if_pos h1]
    simp only [laws_FnCanonical.j0, if_true]
  obtain ⟨b, hb1, hb2⟩ := shown_tells s (by omega) s.size 0 (by omega)
  have hk : ∀ k, spec_Shown9.f (s.size + 1 + k) s = some b := fun k => at_rounds (spec_Shown9.mono s) (by omega) (show spec_Shown9.f (s.size + 1) s = some b from hb1)
  cases b with
  | false =>
    refine ⟨s.size + 1 + 1, ?_⟩
    unfold laws_FnCanonical.f
    rw [if_neg h0, if_neg h1, hk]
    simp only [Option.bind_some, Bool.not_false, laws_FnCanonical.j0, if_true]
  | true =>
    have ha := ascB_of (by omega) (fun j c hc => hb2 rfl j c (by omega) hc)
    refine ⟨s.size + 1 + 1, ?_⟩
    unfold laws_FnCanonical.f
    rw [if_neg h0, if_neg h1, hk]
    simp only [Option.bind_some, Bool.not_true, laws_FnCanonical.j0]
    rw [if_neg (by decide)]
    unfold spec_Upper9.f
    rw [if_pos (by omega)]
    simp only [Option.bind_some]
    by_cases hu : (upS s).toList = ([73, 78, 66, 79, 88] : List UInt8)
    · rw [if_pos hu]
      refine j1_tells _ s ha _ ?_
      rw [boxL_up, if_pos (ba_ext' (hu.trans (by decide +kernel)))]
      rfl
    · rw [if_neg hu]
      refine j1_tells _ s ha _ ?_
      rw [boxL_up, if_neg (fun e => hu (by rw [e]; decide +kernel))]
end Go.Proofs.YtnokeaiemiiicaaDoor.Pure
