/- FnExpandedItem: for every item of capital letters and points the macros ALL, FAST, FULL are told as their items, any other item as itself. No condition beside the statement's own. -/
import Derived.Test.YtnokeaiemiiicaaPFnExpandedItemx1
namespace Go.Proofs.Ytnokeaiemiiicaa.Pure
open Go.RowKit Go.Proofs.Ytnokeaiemiiicaa.PFnExpandedItem Go.Proofs.YtnokeaiemiiicaaW.PrintWords Go.Proofs.YtnokeaiemiiicaaW.PrintLast

theorem ei_wrap {i : Int} (h0 : 0 ≤ i) (h : i < 9223372036854775807) : wrap64 (i + 1) = i + 1 := by unfold wrap64; omega

theorem ei_take (t : List ByteArray) (i : Nat) (h : i < t.length) : t.take i ++ [rdOf ByteArray.empty t (i : Int)] = t.take (i + 1) := by
  rw [List.take_succ_eq_append_getElem h]
  simp [rdOf, List.getD_eq_getElem?_getD, List.getElem?_eq_getElem h]

theorem ei_copy (t : List ByteArray) (ht : t.length ≤ 100) : ∀ (d i : Nat), i + d = t.length → Ev (fun k => impl_ExpandedItem.l0 k (t.take i) t (t.length : Int) (i : Int)) t := by
  intro d
  induction d with
  | zero =>
    intro i hi
    refine Ev.step (f := fun _ => some t) (fun k => ?_) (Ev.now t)
    simp only [impl_ExpandedItem.l0]
    rw [if_neg (by omega), List.take_of_length_le (by omega)]
  | succ d ih =>
    intro i hi
    refine Ev.step (f := fun k => impl_ExpandedItem.l0 k (t.take (i + 1)) t (t.length : Int) ((i + 1 : Nat) : Int)) (fun k => ?_) (ih (i + 1) (by omega))
    simp only [impl_ExpandedItem.l0]
    rw [if_pos (by omega), if_pos (by omega), if_pos (by omega), if_pos (by simp; omega), ei_take t i (by omega), ei_wrap (by omega) (by omega)]
    rfl

theorem ei_same (t : List ByteArray) (ht : t.length ≤ 100) : ∀ (d i : Nat), i + d = t.length → Ev (fun k => laws_FnExpandedItem.l1 k t t (t.length : Int) (i : Int)) true := by
  intro d
  induction d with
  | zero =>
    intro i hi
    refine Ev.step (f := fun _ => some true) (fun k => ?_) (Ev.now true)
    simp only [laws_FnExpandedItem.l1]
    rw [if_neg (by omega)]
  | succ d ih =>
    intro i hi
    refine Ev.step (f := fun k => laws_FnExpandedItem.l1 k t t (t.length : Int) ((i + 1 : Nat) : Int)) (fun k => ?_) (ih (i + 1) (by omega))
    simp only [laws_FnExpandedItem.l1]
    rw [if_pos (by omega), if_pos (by omega), if_pos (by omega), if_pos (by omega), if_pos trivial, ei_wrap (by omega) (by omega)]
    rfl

theorem ei_want (a : ByteArray) (t : List ByteArray) (ht : t.length ≤ 100) (h : goimap_FetchItem_Expand.f a = some t) : Ev (fun k => laws_FnExpandedItem.j1 k a t) true := by
  refine Ev.step (f := fun k => (impl_ExpandedItem.f k a).bind fun t132 => (if (t132.length : Int) = (t.length : Int) then (laws_FnExpandedItem.l1 k t t132 (t132.length : Int) 0) else (some false))) (fun k => by simp only [laws_FnExpandedItem.j1]) ?_
  refine Ev.bind (a := t) ?_ ?_
  · refine Ev.congr (fun k => ?_) (ei_copy t ht t.length 0 (by omega))
    simp only [impl_ExpandedItem.f, h, Option.bind_some, List.take_zero]
    rfl
  · refine Ev.congr (fun k => ?_) (ei_same t ht t.length 0 (by omega))
    simp only [if_true]
    rfl

theorem ei_end (a : ByteArray) : Ev (fun k => (if a.toList = ([65, 76, 76] : List UInt8) then (laws_FnExpandedItem.j1 k a (([(⟨#[70, 76, 65, 71, 83]⟩ : ByteArray), (⟨#[73, 78, 84, 69, 82, 78, 65, 76, 68, 65, 84, 69]⟩ : ByteArray), (⟨#[82, 70, 67, 56, 50, 50, 46, 83, 73, 90, 69]⟩ : ByteArray), (⟨#[69, 78, 86, 69, 76, 79, 80, 69]⟩ : ByteArray)] : List ByteArray))) else (if a.toList = ([70, 65, 83, 84] : List UInt8) then (laws_FnExpandedItem.j1 k a (([(⟨#[70, 76, 65, 71, 83]⟩ : ByteArray), (⟨#[73, 78, 84, 69, 82, 78, 65, 76, 68, 65, 84, 69]⟩ : ByteArray), (⟨#[82, 70, 67, 56, 50, 50, 46, 83, 73, 90, 69]⟩ : ByteArray)] : List ByteArray))) else (if a.toList = ([70, 85, 76, 76] : List UInt8) then (laws_FnExpandedItem.j1 k a (([(⟨#[70, 76, 65, 71, 83]⟩ : ByteArray), (⟨#[73, 78, 84, 69, 82, 78, 65, 76, 68, 65, 84, 69]⟩ : ByteArray), (⟨#[82, 70, 67, 56, 50, 50, 46, 83, 73, 90, 69]⟩ : ByteArray), (⟨#[69, 78, 86, 69, 76, 79, 80, 69]⟩ : ByteArray), (⟨#[66, 79, 68, 89]⟩ : ByteArray)] : List ByteArray))) else (laws_FnExpandedItem.j1 k a (([a] : List ByteArray))))))) true := by
  by_cases h1 : a.toList = ([65, 76, 76] : List UInt8)
  · simp only [if_pos h1]
    exact ei_want a _ (by simp) (by unfold goimap_FetchItem_Expand.f; rw [if_pos h1])
  simp only [if_neg h1]
  by_cases h2 : a.toList = ([70, 65, 83, 84] : List UInt8)
  · simp only [if_pos h2]
    exact ei_want a _ (by simp) (by unfold goimap_FetchItem_Expand.f; rw [if_neg h1, if_pos h2])
  simp only [if_neg h2]
  by_cases h3 : a.toList = ([70, 85, 76, 76] : List UInt8)
  · simp only [if_pos h3]
    exact ei_want a _ (by simp) (by unfold goimap_FetchItem_Expand.f; rw [if_neg h1, if_neg h2, if_pos h3])
  simp only [if_neg h3]
  exact ei_want a _ (by simp) (by unfold goimap_FetchItem_Expand.f; rw [if_neg h1, if_neg h2, if_neg h3])

theorem ei_signs (a : ByteArray) (ha : a.size ≤ 2147483647) : ∀ (d i : Nat), i + d = a.size → Ev (fun k => laws_FnExpandedItem.l0 k a (a.size : Int) (i : Int)) true := by
  intro d
  induction d with
  | zero =>
    intro i hi
    refine Ev.step (fun k => ?_) (ei_end a)
    simp only [laws_FnExpandedItem.l0]
    rw [if_neg (by omega)]
  | succ d ih =>
    intro i hi
    have h1 : (i : Int) < (a.size : Int) := by omega
    have h0 : (0 : Int) ≤ (i : Int) := by omega
    have next : Ev (fun k => laws_FnExpandedItem.l0 k a (a.size : Int) (wrap64 ((i : Int) + 1))) true := by
      rw [ei_wrap (by omega) (by omega)]; exact ih (i + 1) (by omega)
    by_cases c1 : bt a i < 65
    · by_cases c2 : bt a i = 46
      · refine Ev.step (fun k => ?_) next
        simp only [laws_FnExpandedItem.l0]
        rw [if_pos h1, if_pos h0, if_pos h1, if_pos c1, if_pos c2]
      · refine Ev.step (f := fun _ => some true) (fun k => ?_) (Ev.now true)
        simp only [laws_FnExpandedItem.l0]
        rw [if_pos h1, if_pos h0, if_pos h1, if_pos c1, if_neg c2]
    · by_cases c3 : bt a i > 90
      · by_cases c2 : bt a i = 46
        · refine Ev.step (fun k => ?_) next
          simp only [laws_FnExpandedItem.l0]
          rw [if_pos h1, if_pos h0, if_pos h1, if_neg c1, if_pos c3, if_pos c2]
        · refine Ev.step (f := fun _ => some true) (fun k => ?_) (Ev.now true)
          simp only [laws_FnExpandedItem.l0]
          rw [if_pos h1, if_pos h0, if_pos h1, if_neg c1, if_pos c3, if_neg c2]
      · refine Ev.step (fun k => ?_) next
        simp only [laws_FnExpandedItem.l0]
        rw [if_pos h1, if_pos h0, if_pos h1, if_neg c1, if_neg c3]

theorem FnExpandedItem : laws_FnExpandedItem.Pure := by
  intro a _
  by_cases h : (a.size : Int) > 2147483647
  · exact ⟨0, by unfold laws_FnExpandedItem.f; rw [if_pos h]⟩
  · obtain ⟨k, hk⟩ := (ei_signs a (by omega) a.size 0 (by omega)).rounds
    exact ⟨k, by unfold laws_FnExpandedItem.f; rw [if_neg h]; exact hk⟩

end Go.Proofs.Ytnokeaiemiiicaa.Pure
