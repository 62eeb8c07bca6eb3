/- FnFlagsItem: for every store item of printable ASCII of at most 40 bytes, FlagsOp and FlagsItem answer as the law says: FLAGS, +FLAGS, -FLAGS, each with .SILENT or not; others are refused. -/
import Derived.Test.YtnokeaiemiiicaaPFnFlagsItemx1
import Derived.Lib.Strings
namespace Go.Proofs.Ytnokeaiemiiicaa.Pure
set_option linter.unusedVariables false
set_option linter.unusedSimpArgs false
open Go.RowKit Go.Proofs.Ytnokeaiemiiicaa.PFnFlagsItem Go.Proofs.YtnokeaiemiiicaaW.PrintWords Go.Proofs.YtnokeaiemiiicaaW.PrintLast

theorem fi_wrap {i : Int} (h0 : 0 ≤ i) (h : i < 9223372036854775807) : wrap64 (i + 1) = i + 1 := by unfold wrap64; omega
theorem fi_wrap7 {n : Nat} (h : n ≤ 40) : wrap64 ((n : Int) - 7) = (n : Int) - 7 := by unfold wrap64; omega

theorem fi_shown (a : ByteArray) (ha : a.size ≤ 2147483647) : ∀ (d i : Nat), i + d = a.size → ∃ b, Ev (fun k => spec_Shown9.l0 k a (a.size : Int) (i : Int)) b := by
  intro d
  induction d with
  | zero =>
    intro i hi
    refine ⟨true, Ev.step (f := fun _ => some true) (fun k => ?_) (Ev.now true)⟩
    simp only [spec_Shown9.l0]
    rw [if_neg (by omega)]
  | succ d ih =>
    intro i hi
    have h1 : (i : Int) < (a.size : Int) := by omega
    have h0 : (0 : Int) ≤ (i : Int) := by omega
    by_cases c1 : bt a i < 32
    · refine ⟨false, Ev.step (f := fun _ => some false) (fun k => ?_) (Ev.now false)⟩
      simp only [spec_Shown9.l0]
      rw [if_pos h1, if_pos h0, if_pos h1, if_pos c1]
    · by_cases c2 : bt a i > 126
      · refine ⟨false, Ev.step (f := fun _ => some false) (fun k => ?_) (Ev.now false)⟩
        simp only [spec_Shown9.l0]
        rw [if_pos h1, if_pos h0, if_pos h1, if_neg c1, if_pos c2]
      · obtain ⟨b, hb⟩ := ih (i + 1) (by omega)
        refine ⟨b, Ev.step (fun k => ?_) hb⟩
        simp only [spec_Shown9.l0]
        rw [if_pos h1, if_pos h0, if_pos h1, if_neg c1, if_neg c2, fi_wrap (by omega) (by omega)]
        rfl

theorem fi_flags : Own.impl_FlagsOp.f (⟨#[70, 76, 65, 71, 83]⟩ : ByteArray) = some ((⟨#[70, 76, 65, 71, 83]⟩ : ByteArray), false, true) := by decide +kernel

theorem fi_op (s : ByteArray) (hs : s.size ≤ 40) : Own.impl_FlagsOp.f s = some (Own.opOf s, Own.isSilent s, Own.isOp (Own.opOf s)) := by
  unfold Own.impl_FlagsOp.f; rw [if_pos (by omega)]

/-- The end: what is wanted is no operation. -/
theorem fi_no (s x3 : ByteArray) (hs : s.size ≤ 40) (x4 : Bool) (hn : Own.isOp (Own.opOf s) = false) : Ev (fun k => laws_FnFlagsItem.j3 k s x3 x4 (Own.opOf s) (Own.isSilent s) (Own.isOp (Own.opOf s)) true) true := by
  refine Ev.step (f := fun _ => some true) (fun k => ?_) (Ev.now true)
  simp only [laws_FnFlagsItem.j3, fi_flags, Option.bind_some, if_true, hn]
  unfold Own.spec_Upper9.f
  rw [if_pos (by omega)]
  simp only [Option.bind_some]
  split <;> rfl

theorem fi_yes (s x3 : ByteArray) (hs : s.size ≤ 40) (x4 : Bool) (h1 : Own.opOf s = x3) (h2 : Own.isSilent s = x4) (h3 : Own.isOp x3 = true) (h4 : (impl_FlagsItem.f x3 x4) = some s) :
    Ev (fun k => laws_FnFlagsItem.j3 k s x3 x4 (Own.opOf s) (Own.isSilent s) (Own.isOp (Own.opOf s)) false) true := by
  refine Ev.step (f := fun _ => some true) (fun k => ?_) (Ev.now true)
  simp only [laws_FnFlagsItem.j3, h1, h2, h3, h4, Option.bind_some, if_true, Bool.false_eq_true, if_false, beq_self_eq_true]

theorem fi_rest (s x3 : ByteArray) (hs : s.size ≤ 40) (x4 : Bool) (hy : Own.isOp x3 = true → Own.opOf s = x3 ∧ Own.isSilent s = x4 ∧ (impl_FlagsItem.f x3 x4) = some s) (hn : Own.isOp x3 = false → Own.isOp (Own.opOf s) = false) :
    Ev (fun k => laws_FnFlagsItem.j2 k s x3 x4) true := by
  refine Ev.step (f := fun k => if x3.toList = ([70, 76, 65, 71, 83] : List UInt8) then (laws_FnFlagsItem.j3 k s x3 x4 (Own.opOf s) (Own.isSilent s) (Own.isOp (Own.opOf s)) false) else (if x3.toList = ([43, 70, 76, 65, 71, 83] : List UInt8) then (laws_FnFlagsItem.j3 k s x3 x4 (Own.opOf s) (Own.isSilent s) (Own.isOp (Own.opOf s)) false) else (laws_FnFlagsItem.j3 k s x3 x4 (Own.opOf s) (Own.isSilent s) (Own.isOp (Own.opOf s)) (x3.toList != ([45, 70, 76, 65, 71, 83] : List UInt8))))) (fun k => ?_) ?_
  · simp only [laws_FnFlagsItem.j2, fi_op s hs, Option.bind_some]
  · by_cases c1 : x3.toList = ([70, 76, 65, 71, 83] : List UInt8)
    · simp only [if_pos c1]
      have ho : Own.isOp x3 = true := by simp [Own.isOp, c1]
      obtain ⟨a, b, c⟩ := hy ho
      exact fi_yes s x3 hs x4 a b ho c
    · simp only [if_neg c1]
      by_cases c2 : x3.toList = ([43, 70, 76, 65, 71, 83] : List UInt8)
      · simp only [if_pos c2]
        have ho : Own.isOp x3 = true := by simp [Own.isOp, c2]
        obtain ⟨a, b, c⟩ := hy ho
        exact fi_yes s x3 hs x4 a b ho c
      · simp only [if_neg c2]
        by_cases c3 : x3.toList = ([45, 70, 76, 65, 71, 83] : List UInt8)
        · have ho : Own.isOp x3 = true := by simp [Own.isOp, c3]
          obtain ⟨a, b, c⟩ := hy ho
          simp only [show (x3.toList != ([45, 70, 76, 65, 71, 83] : List UInt8)) = false by simp [c3]]
          exact fi_yes s x3 hs x4 a b ho c
        · have ho : Own.isOp x3 = false := by
            unfold Own.isOp
            rw [beq_eq_false_iff_ne.mpr c1, beq_eq_false_iff_ne.mpr c2, beq_eq_false_iff_ne.mpr c3]; rfl
          simp only [show (x3.toList != ([45, 70, 76, 65, 71, 83] : List UInt8)) = true from bne_iff_ne.mpr c3]
          exact fi_no s x3 hs x4 (hn ho)

theorem fi_back (s : ByteArray) (hs : s.size ≤ 40) (h7 : 7 ≤ s.size) (h : (s.extract (s.size - 7) s.size).toList = [46, 83, 73, 76, 69, 78, 84]) : impl_FlagsItem.f (s.extract 0 (s.size - 7)) true = some s := by
  unfold impl_FlagsItem.f goimap_FormatFlagsOp.f
  rw [if_pos rfl, if_pos (by simp; omega)]
  simp only [Option.bind_some]
  congr 1
  have e : (⟨#[46, 83, 73, 76, 69, 78, 84]⟩ : ByteArray) = s.extract (s.size - 7) s.size := by
    apply ByteArray.ext
    apply Array.ext'
    rw [← Lib.toList_data (s.extract _ _), h]
  rw [e]
  apply ByteArray.ext
  apply Array.ext'
  have e1 : (s.extract 0 (s.size - 7) ++ s.extract (s.size - 7) s.size).data.toList = (s.extract 0 (s.size - 7)).data.toList ++ (s.extract (s.size - 7) s.size).data.toList := by rw [ByteArray.data_append, Array.toList_append]
  rw [e1, Lib.extract_data, Lib.extract_data, List.drop_zero, Nat.sub_zero, List.take_of_length_le (l := s.data.toList.drop (s.size - 7)) (by simp), List.take_append_drop]

theorem FnFlagsItem : laws_FnFlagsItem.Pure := by
  intro s _
  by_cases hb : (s.size : Int) > 2147483647
  · exact ⟨0, by unfold laws_FnFlagsItem.f; rw [if_pos hb]⟩
  by_cases h40 : (s.size : Int) > 40
  · refine ⟨1, ?_⟩
    unfold laws_FnFlagsItem.f
    rw [if_neg hb, if_pos h40]
    simp only [laws_FnFlagsItem.j0, if_true]
  have hs : s.size ≤ 40 := by omega
  have main : Ev (fun k => laws_FnFlagsItem.j0 k s false) true := by
    have same : Own.isSilent s = false → Ev (fun k => laws_FnFlagsItem.j2 k s s false) true := fun hi => by
      have ho : Own.opOf s = s := by rw [Own.opOf, hi]; rfl
      refine fi_rest s s hs false (fun _ => ⟨ho, hi, rfl⟩) (fun h => by rw [ho]; exact h)
    by_cases h7 : (s.size : Int) - 7 > 0
    · have hn : ((s.size : Int) - 7).toNat = s.size - 7 := by omega
      refine Ev.step (f := fun k => laws_FnFlagsItem.j1 k s s false ((s.size : Int) - 7) ((s.extract (s.size - 7) s.size).toList == ([46, 83, 73, 76, 69, 78, 84] : List UInt8))) (fun k => ?_) ?_
      · simp only [laws_FnFlagsItem.j0, Bool.false_eq_true, if_false, fi_wrap7 hs]
        rw [if_pos h7, if_pos (by omega), if_pos (by omega), hn]
      · by_cases hc : (s.extract (s.size - 7) s.size).toList = ([46, 83, 73, 76, 69, 78, 84] : List UInt8)
        · refine Ev.step (f := fun k => laws_FnFlagsItem.j2 k s (s.extract 0 (s.size - 7)) true) (fun k => ?_) ?_
          · simp only [laws_FnFlagsItem.j1, hc, beq_self_eq_true, if_true]
            rw [if_pos (by omega), if_pos (by omega), hn]
          · have hi : Own.isSilent s = true := by simp [Own.isSilent, hc]; omega
            have ho : Own.opOf s = s.extract 0 (s.size - 7) := by rw [Own.opOf, hi]; rfl
            exact fi_rest s _ hs true (fun _ => ⟨ho, hi, fi_back s hs (by omega) hc⟩) (fun h => by rw [ho]; exact h)
        · refine Ev.step (f := fun k => laws_FnFlagsItem.j2 k s s false) (fun k => ?_) (same (by simp [Own.isSilent, hc]))
          simp only [laws_FnFlagsItem.j1, beq_eq_false_iff_ne.mpr hc, Bool.false_eq_true, if_false]
    · refine Ev.step (f := fun k => laws_FnFlagsItem.j1 k s s false ((s.size : Int) - 7) false) (fun k => ?_) ?_
      · simp only [laws_FnFlagsItem.j0, Bool.false_eq_true, if_false, fi_wrap7 hs]
        rw [if_neg h7]
      · refine Ev.step (f := fun k => laws_FnFlagsItem.j2 k s s false) (fun k => by simp only [laws_FnFlagsItem.j1, Bool.false_eq_true, if_false]) ?_
        cases hi : Own.isSilent s with
        | false => exact same hi
        | true =>
          have h7' : s.size = 7 := by simp [Own.isSilent] at hi; omega
          have ho : Own.opOf s = s.extract 0 0 := by rw [Own.opOf, hi, if_pos rfl, h7']
          have hnil : s.extract 0 0 = ByteArray.empty := by
            apply ByteArray.ext; simp
          have hl : s.toList.length = 7 := by rw [Lib.toList_data, ← h7', Lib.size_eq]
          have hno : Own.isOp s = false := by
            unfold Own.isOp
            rw [beq_eq_false_iff_ne.mpr (fun h => by rw [h] at hl; simp at hl), beq_eq_false_iff_ne.mpr (fun h => by rw [h] at hl; simp at hl), beq_eq_false_iff_ne.mpr (fun h => by rw [h] at hl; simp at hl)]; rfl
          exact fi_rest s s hs false (fun h => by rw [hno] at h; cases h) (fun _ => by rw [ho, hnil]; decide +kernel)
  obtain ⟨b, hsh⟩ := fi_shown s (by omega) s.size 0 (by omega)
  have tot : Ev (fun k => (spec_Shown9.f k s).bind fun t102 => (laws_FnFlagsItem.j0 k s (!t102))) true := by
    refine Ev.bind (a := b) hsh ?_
    cases b with
    | true => exact main
    | false => exact Ev.step (f := fun _ => some true) (fun k => by simp [laws_FnFlagsItem.j0]) (Ev.now true)
  obtain ⟨k, hk⟩ := tot.rounds
  exact ⟨k, by unfold laws_FnFlagsItem.f; rw [if_neg hb, if_neg h40]; exact hk⟩
end Go.Proofs.Ytnokeaiemiiicaa.Pure
