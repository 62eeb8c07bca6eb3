/- Texts that are turned byte by byte: what stands in the row behind k bytes; capital and small letters of ASCII. Plain lists, no program. -/
import Derived.Test.YtldiamldbpobgaaGreatDoorBytes
namespace Go.Proofs.YtldiamldbpobgaaGreatDoor.Own
open Go.RowKit
set_option linter.unusedVariables false
set_option linter.unusedSimpArgs false

def upB (c : UInt8) : UInt8 := if 97 ≤ c ∧ c ≤ 122 then c - 32 else c
def upS (s : ByteArray) : ByteArray := ⟨(s.data.toList.map upB).toArray⟩
def lowB (c : UInt8) : UInt8 := if 65 ≤ c ∧ c ≤ 90 then c + 32 else c
def lowS (s : ByteArray) : ByteArray := ⟨(s.data.toList.map lowB).toArray⟩
def mapAt (g : UInt8 → UInt8) (l : List UInt8) (k : Nat) : List UInt8 := (l.take k).map g ++ l.drop k

theorem lt_of_get {α : Type} {l : List α} {k : Nat} {c : α} (h : l[k]? = some c) : k < l.length := by
  rcases Nat.lt_or_ge k l.length with h' | h'
  · exact h'
  · rw [List.getElem?_eq_none h'] at h; cases h
theorem mapAt_length (g : UInt8 → UInt8) (l : List UInt8) (k : Nat) : (mapAt g l k).length = l.length := by simp [mapAt]; omega
theorem mapAt_zero (g : UInt8 → UInt8) (l : List UInt8) : mapAt g l 0 = l := by simp [mapAt]
theorem mapAt_all (g : UInt8 → UInt8) (l : List UInt8) (k : Nat) (h : l.length ≤ k) : mapAt g l k = l.map g := by simp [mapAt, List.take_of_length_le h, List.drop_of_length_le h]
theorem mapAt_get (g : UInt8 → UInt8) (l : List UInt8) (k : Nat) (c : UInt8) (h : l[k]? = some c) : (mapAt g l k)[k]? = some c := by
  have hk := lt_of_get h
  rw [mapAt, List.getElem?_append_right (by simp; omega)]
  simp [Nat.min_eq_left (Nat.le_of_lt hk), h]
theorem mapAt_set (g : UInt8 → UInt8) (l : List UInt8) (k : Nat) (c : UInt8) (h : l[k]? = some c) : (mapAt g l k).set k (g c) = mapAt g l (k + 1) := by
  have hk := lt_of_get h
  rw [List.getElem?_eq_getElem hk] at h
  cases h
  have e1 : ((l.take k).map g).length = k := by simp; omega
  have e2 : l.drop k = l[k] :: l.drop (k + 1) := List.drop_eq_getElem_cons hk
  rw [mapAt, mapAt, List.set_append_right _ _ (by omega), e1, Nat.sub_self, e2, List.set_cons_zero, List.take_succ_eq_append_getElem hk, List.map_append, List.append_assoc]
  rfl
theorem mapAt_keep (g : UInt8 → UInt8) (l : List UInt8) (k : Nat) (c : UInt8) (h : l[k]? = some c) (hc : g c = c) : mapAt g l k = mapAt g l (k + 1) := by
  rw [← mapAt_set g l k c h, hc]
  apply List.ext_getElem?
  intro i
  by_cases hi : k = i
  · subst hi
    rw [List.getElem?_set_self (lt_of_get (mapAt_get g l k c h)), mapAt_get g l k c h]
  · rw [List.getElem?_set_ne hi]
theorem upB_yes (c : UInt8) (h1 : 97 ≤ c.toNat) (h2 : c.toNat ≤ 122) : ((upB c).toNat : Int) = (c.toNat : Int) - 32 := by
  have a1 : (97 : UInt8) ≤ c := by rw [UInt8.le_iff_toNat_le]; exact h1
  have a2 : c ≤ (122 : UInt8) := by rw [UInt8.le_iff_toNat_le]; exact h2
  rw [upB, if_pos ⟨a1, a2⟩]
  have : (c - 32).toNat = c.toNat - 32 := by
    rw [UInt8.toNat_sub_of_le _ _ (by rw [UInt8.le_iff_toNat_le]; show 32 ≤ c.toNat; omega)]; rfl
  omega
theorem upB_no (c : UInt8) (h : c.toNat < 97 ∨ 122 < c.toNat) : upB c = c := by
  rw [upB, if_neg]
  rintro ⟨a1, a2⟩
  rw [UInt8.le_iff_toNat_le] at a1 a2
  have e1 : (97 : UInt8).toNat = 97 := rfl
  have e2 : (122 : UInt8).toNat = 122 := rfl
  omega
theorem lowB_yes (c : UInt8) (h1 : 65 ≤ c.toNat) (h2 : c.toNat ≤ 90) : ((lowB c).toNat : Int) = (c.toNat : Int) + 32 := by
  have a1 : (65 : UInt8) ≤ c := by rw [UInt8.le_iff_toNat_le]; exact h1
  have a2 : c ≤ (90 : UInt8) := by rw [UInt8.le_iff_toNat_le]; exact h2
  rw [lowB, if_pos ⟨a1, a2⟩]
  have : (c + 32).toNat = c.toNat + 32 := by
    rw [UInt8.toNat_add]; show (c.toNat + 32) % 256 = _; omega
  omega
theorem lowB_no (c : UInt8) (h : c.toNat < 65 ∨ 90 < c.toNat) : lowB c = c := by
  rw [lowB, if_neg]
  rintro ⟨a1, a2⟩
  rw [UInt8.le_iff_toNat_le] at a1 a2
  have e1 : (65 : UInt8).toNat = 65 := rfl
  have e2 : (90 : UInt8).toNat = 90 := rfl
  omega
end Go.Proofs.YtldiamldbpobgaaGreatDoor.Own
