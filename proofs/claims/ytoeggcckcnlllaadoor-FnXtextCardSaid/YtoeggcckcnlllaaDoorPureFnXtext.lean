/- FnXtext holds at every text, plainly: where the reference is sure, all bytes are in 16..127, the code writes the same, and reading that gives the text again. No condition beyond the text's size. -/
import Derived.Test.YtoeggcckcnlllaaDoorPFnXtextx1
import Derived.Test.YtoeggcckcnlllaaDoorPlain
namespace Go.Proofs.YtoeggcckcnlllaaDoor.Pure
open Go.RowKit Go.Proofs.YtoeggcckcnlllaaDoor.PFnXtext Go.Proofs.YtoeggcckcnlllaaDoorW.PrintWords Go.Proofs.YtoeggcckcnlllaaDoorW.PrintLast Go.Proofs.YtoeggcckcnlllaaDoor.Own
set_option linter.unusedVariables false
set_option linter.unusedSimpArgs false

theorem plainX_tells (c : UInt8) : spec_plainX.f (c.toNat : Int) = some (plX c) := by
  unfold spec_plainX.f plX
  by_cases h1 : 33 ≤ c.toNat
  · rw [if_pos (by omega)]
    by_cases h2 : c.toNat ≤ 126
    · rw [if_pos (by omega)]
      by_cases h3 : c.toNat = 43
      · rw [if_pos (by omega)]
        congr 1; symm; rw [decide_eq_false_iff_not]; omega
      · rw [if_neg (by omega)]
        congr 1
        by_cases h4 : c.toNat = 61
        · rw [h4]; rfl
        · rw [decide_eq_true (by omega), bne_iff_ne]; omega
    · rw [if_neg (by omega)]
      congr 1; symm; rw [decide_eq_false_iff_not]; omega
  · rw [if_neg (by omega)]
    congr 1; symm; rw [decide_eq_false_iff_not]; omega
theorem hex_at : ∀ n : Fin 16, bt (⟨#[48, 49, 50, 51, 52, 53, 54, 55, 56, 57, 65, 66, 67, 68, 69, 70]⟩ : ByteArray) (n.val : Int) = ((hexU n.val).toNat : Int) := by decide +kernel
theorem and_15 : ∀ c : Fin 256, Go.bits .and .u8 (c.val : Int) 15 = ((c.val % 16 : Nat) : Int) := by decide +kernel
theorem two_str (x y : UInt8) : strOfNums [(x.toNat : Int), (y.toNat : Int)] = ⟨#[x, y]⟩ := by
  unfold strOfNums
  simp
/-- What the reference tells from a place on. -/
def Told (out : ByteArray) (l : List UInt8) (r : ByteArray × Bool) : Prop := r.2 = true → SureL l ∧ r.1.data.toList = out.data.toList ++ xtL l
def Goes (s : ByteArray) (i : Nat) (out : ByteArray) : Prop := ∃ k r, spec_Xtext.l0 k s out (i : Int) = some r ∧ Told out (s.data.toList.drop i) r
theorem drop_at {s : ByteArray} {i : Nat} {c : UInt8} (hc : s.data.toList[i]? = some c) : s.data.toList.drop i = c :: s.data.toList.drop (i + 1) := by
  obtain ⟨h1, h2⟩ := List.getElem?_eq_some_iff.1 hc
  rw [List.drop_eq_getElem_cons h1, h2]
theorem told_more {out m : ByteArray} {c : UInt8} {l : List UInt8} {r : ByteArray × Bool} (hm : m.data.toList = xt1 c) (hc : 16 ≤ c.toNat ∧ c.toNat < 128) (hr : Told (out ++ m) l r) : Told out (c :: l) r := by
  intro hsure
  obtain ⟨g1, g2⟩ := hr hsure
  refine ⟨fun x hx => ?_, ?_⟩
  · rcases List.mem_cons.1 hx with rfl | hx
    · exact hc
    · exact g1 x hx
  · rw [g2, app_list, hm, List.append_assoc]
    simp [xtL]
theorem goes_one (s : ByteArray) (hs : s.size ≤ 2147483647) (i : Nat) (out : ByteArray) (hi : i < s.size) (ho : out.size ≤ 3 * i) (c : UInt8) (hc : s.data.toList[i]? = some c)
    (ih : ∀ m : ByteArray, m.data.toList = xt1 c → Goes s (i + 1) (out ++ m)) : Goes s i out := by
  have w1 : wrap64 ((i : Int) + 1) = ((i + 1 : Nat) : Int) := by unfold wrap64; omega
  have hdr := drop_at hc
  have hb : bt s (i : Int) = (c.toNat : Int) := bt_some s i c hc
  have hpl := plainX_tells c
  by_cases hp : plX c = true
  · have hp' : 33 ≤ c.toNat ∧ c.toNat ≤ 126 ∧ c.toNat ≠ 43 ∧ c.toNat ≠ 61 := of_decide_eq_true hp
    have hex : (s.extract i (i + 1)).data.toList = [c] := by
      rw [ext_list, hdr]; simp
    have hexs : (s.extract i (i + 1)).size = 1 := by rw [size_list, hex]; rfl
    have hx1 : xt1 c = [c] := by unfold xt1; rw [if_pos hp]
    obtain ⟨k, r, hk, hr⟩ := ih (s.extract i (i + 1)) (by rw [hex, hx1])
    refine ⟨k + 1, r, ?_, ?_⟩
    · simp only [spec_Xtext.l0]
      rw [if_pos (by omega), if_pos (by omega), hb, hpl, hp]
      rw [Option.bind_some, if_pos rfl, w1, if_pos (by omega), if_pos (by omega), Int.toNat_natCast, Int.toNat_natCast, hexs, if_pos (by omega)]
      exact hk
    · rw [hdr]
      exact told_more (by rw [hex, hx1]) (by omega) hr
  · by_cases h16 : 16 ≤ c.toNat ∧ c.toNat < 128
    · have hx1 : xt1 c = [43, hexU (c.toNat / 16), hexU (c.toNat % 16)] := by unfold xt1; rw [if_neg hp]
      obtain ⟨m, hm⟩ : ∃ m : ByteArray, m = (⟨#[43]⟩ : ByteArray) ++ ⟨#[hexU (c.toNat / 16), hexU (c.toNat % 16)]⟩ := ⟨_, rfl⟩
      have hml : m.data.toList = xt1 c := by rw [hm, app_list, hx1]; rfl
      have hsz : m.size = 3 := by rw [size_list, hml, hx1]; rfl
      obtain ⟨k, r, hk, hr⟩ := ih m hml
      have d16 : (c.toNat : Int) / 16 = ((c.toNat / 16 : Nat) : Int) := by omega
      have a15 : Go.bits .and .u8 (c.toNat : Int) 15 = ((c.toNat % 16 : Nat) : Int) := and_15 ⟨c.toNat, by omega⟩
      have t1 := hex_at ⟨c.toNat / 16, by omega⟩
      have t2 := hex_at ⟨c.toNat % 16, by omega⟩
      simp only at t1 t2
      refine ⟨k + 1, r, ?_, ?_⟩
      · simp only [spec_Xtext.l0]
        rw [if_pos (by omega), if_pos (by omega), hb, hpl]
        rw [Option.bind_some, if_neg hp, d16, a15, t1, t2, if_neg (by omega), if_neg (by omega), if_pos (by omega), if_pos (by omega), if_pos (by omega), if_pos (by omega), Option.bind_some, two_str]
        rw [if_pos (by show 1 + 2 ≤ _; omega), ← hm, hsz, w1, if_pos (by omega)]
        exact hk
      · rw [hdr]
        exact told_more hml h16 hr
    · refine ⟨1, (⟨#[]⟩, false), ?_, fun h => by cases h⟩
      simp only [spec_Xtext.l0]
      rw [if_pos (by omega), if_pos (by omega), hb, hpl]
      rw [Option.bind_some, if_neg hp]
      by_cases h : c.toNat < 16
      · rw [if_pos (by omega)]
      · rw [if_neg (by omega), if_pos (by omega)]
theorem xt_run (s : ByteArray) (hs : s.size ≤ 2147483647) : ∀ (d i : Nat) (out : ByteArray), s.size - i ≤ d → out.size ≤ 3 * i → Goes s i out := by
  have hend : ∀ (i : Nat) (out : ByteArray), s.size ≤ i → Goes s i out := fun i out h => by
    refine ⟨1, (out, true), ?_, fun _ => ⟨?_, ?_⟩⟩
    · simp only [spec_Xtext.l0]
      rw [if_neg (by omega)]
    · rw [List.drop_eq_nil_of_le (by rw [← size_list]; omega)]
      intro x hx; cases hx
    · rw [List.drop_eq_nil_of_le (by rw [← size_list]; omega)]
      simp [xtL]
  intro d
  induction d with
  | zero => exact fun i out hd ho => hend i out (by omega)
  | succ d ih =>
    intro i out hd ho
    by_cases hlt : i < s.size
    · obtain ⟨c, hc⟩ : ∃ c, s.data.toList[i]? = some c := ⟨_, List.getElem?_eq_getElem (by rw [← size_list]; exact hlt)⟩
      refine goes_one s hs i out hlt ho c hc (fun m hm => ih (i + 1) _ (by omega) ?_)
      have := (xt1_len c).2
      rw [size_list, app_list, List.length_append, ← size_list, hm]
      omega
    · exact hend i out (by omega)
theorem FnXtext : laws_FnXtext.Pure := by
  intro s hs
  by_cases h0 : (s.size : Int) > 2147483647
  · exact ⟨1, by unfold laws_FnXtext.f; rw [if_pos h0]⟩
  obtain ⟨k, r, hk, hr⟩ := xt_run s (by omega) s.size 0 ⟨#[]⟩ (by omega) (by decide)
  refine ⟨k + 1, ?_⟩
  have hk' : spec_Xtext.f (k + 1) s = some r := spec_Xtext.mono s k r hk
  unfold laws_FnXtext.f
  rw [if_neg h0, hk']
  simp only [Option.bind_some]
  by_cases hsure : r.2 = true
  · rw [if_pos hsure]
    by_cases h3 : (s.size : Int) > 300
    · simp only [laws_FnXtext.j0]
      rw [decide_eq_true h3, if_pos rfl]
    · simp only [laws_FnXtext.j0]
      rw [decide_eq_false h3, if_neg (by decide)]
      obtain ⟨g1, g2⟩ := hr hsure
      rw [List.drop_zero] at g1 g2
      have hr1 : r.1 = ⟨(xtL s.data.toList).toArray⟩ := ba_ext (by rw [g2]; simp)
      have hlen : (xtL s.data.toList).length ≤ 900 := by
        have := xtL_len s.data.toList
        rw [← size_list] at this
        omega
      have hdx := dx_xt s.data.toList (xtL s.data.toList).length g1 (Nat.le_refl _)
      have hr1s : r.1.size ≤ 1000000 := by rw [size_list, hr1]; simp; omega
      have hbad : dxBad r.1 = false := by unfold dxBad; rw [hr1]; simp [hdx]
      have hdec : decB r.1 = s := by
        rw [decB_no hbad]
        apply ba_ext
        unfold dxB
        rw [hr1]
        simp [hdx]
      unfold impl_UnxtextE.f impl_Unxtext.f impl_Xtext.f
      rw [if_pos hr1s, if_pos ⟨by omega, g1⟩]
      simp only [Option.bind_some]
      rw [if_pos (by rw [hr1]), hbad, hdec]
      simp
  · rw [if_neg hsure]
    simp [laws_FnXtext.j0]
end Go.Proofs.YtoeggcckcnlllaaDoor.Pure
