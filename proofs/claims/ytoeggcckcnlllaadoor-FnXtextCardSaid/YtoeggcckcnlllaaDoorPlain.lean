/- Plain lemmas on texts as lists of bytes and on the print's words; no program. -/
import Derived.Test.YtoeggcckcnlllaaDoorWWords
import Derived.Lib.Strings
namespace Go.Proofs.YtoeggcckcnlllaaDoor.Own
open Go.RowKit Go.Proofs.YtoeggcckcnlllaaDoorW.PrintWords
set_option linter.unusedVariables false
set_option linter.unusedSimpArgs false

theorem wrap_add {i n : Int} (h0 : -9223372036854775808 ≤ i + n) (h : i + n < 9223372036854775808) : wrap64 (i + n) = i + n := by unfold wrap64; omega
theorem wrap_sub {i n : Int} (h0 : -9223372036854775808 ≤ i - n) (h : i - n < 9223372036854775808) : wrap64 (i - n) = i - n := by unfold wrap64; omega
theorem wrap_succ {i : Nat} (h : i < 9223372036854775807) : wrap64 ((i : Int) + 1) = ((i + 1 : Nat) : Int) := by unfold wrap64; omega
theorem ba_ext {a b : ByteArray} (h : a.data.toList = b.data.toList) : a = b := ByteArray.ext (Array.ext' h)
theorem ba_ext' {a b : ByteArray} (h : a.toList = b.toList) : a = b := ba_ext (by rw [← Lib.toList_data, ← Lib.toList_data, h])
theorem size_list (s : ByteArray) : s.size = s.data.toList.length := Lib.size_eq s
theorem size_mk (l : List UInt8) : (⟨l.toArray⟩ : ByteArray).size = l.length := by rw [size_list]
theorem bt_nat (s : ByteArray) (i : Nat) (h : i < s.size) : bt s (i : Int) = ((s.data.toList[i]'(by rw [size_list] at h; exact h)).toNat : Int) := by
  unfold bt
  rw [dif_pos (by simpa using h)]
  simp
  rfl
theorem bt_some (s : ByteArray) (i : Nat) (c : UInt8) (h : s.data.toList[i]? = some c) : bt s (i : Int) = (c.toNat : Int) := by
  have hi : i < s.size := by
    rw [size_list]
    rcases Nat.lt_or_ge i s.data.toList.length with h' | h'
    · exact h'
    · rw [List.getElem?_eq_none h'] at h; cases h
  rw [bt_nat s i hi]
  rw [List.getElem?_eq_getElem (by rw [size_list] at hi; exact hi)] at h
  cases h; rfl
theorem u8_lt (c : UInt8) : (c.toNat : Int) < 256 := by have := c.toNat_lt; omega
theorem u8_eq {c d : UInt8} (h : (c.toNat : Int) = (d.toNat : Int)) : c = d := UInt8.toNat_inj.1 (by omega)
theorem u8_eq_lit {c : UInt8} {n : Nat} (hn : n < 256) (h : (c.toNat : Int) = n) : c = UInt8.ofNat n := by
  apply UInt8.toNat_inj.1
  rw [UInt8.toNat_ofNat']
  omega
theorem rd_nat {α : Type} (d : α) (l : List α) (i : Nat) : rdOf d l (i : Int) = l.getD i d := by simp [rdOf]
theorem rd_some {α : Type} (d : α) (l : List α) (i : Nat) (x : α) (h : l[i]? = some x) : rdOf d l (i : Int) = x := by simp [rdOf, List.getD_eq_getElem?_getD, h]
theorem ext_list (s : ByteArray) (a b : Nat) : (s.extract a b).data.toList = (s.data.toList.drop a).take (b - a) := Lib.extract_data s a b
theorem app_list (a b : ByteArray) : (a ++ b).data.toList = a.data.toList ++ b.data.toList := by rw [ByteArray.data_append, Array.toList_append]
theorem ext_end (s : ByteArray) (a : Nat) : (s.extract a s.size).data.toList = s.data.toList.drop a := by
  rw [ext_list, List.take_of_length_le (by rw [List.length_drop, size_list]; omega)]
theorem ext_size (s : ByteArray) (a b : Nat) : (s.extract a b).size = min (b - a) (s.size - a) := by
  rw [size_list, ext_list, List.length_take, List.length_drop, size_list]
/-- One more element of what a loop copies. -/
theorem take_snoc {α : Type} (d : α) (t : List α) (i : Nat) (h : i < t.length) : t.take i ++ [rdOf d t (i : Int)] = t.take (i + 1) := by
  rw [List.take_succ_eq_append_getElem h, rd_some d t i t[i] (List.getElem?_eq_getElem h)]
theorem Ev.one {α : Type} {g : Nat → Option α} {r : α} (h : ∀ k, g (k + 1) = some r) : Ev g r := Ev.step (f := fun _ => some r) h (Ev.now r)
theorem Ev.always {α : Type} {g : Nat → Option α} {r : α} (h : ∀ k, g k = some r) : Ev g r := ⟨0, fun k _ => h k⟩
theorem Ev.bindc {α β : Type} {g : Nat → Option α} {f : Nat → α → Option β} {a : α} {r : β} (h : Ev g a) (k : Ev (fun n => f n a) r) : Ev (fun n => (g n).bind (f n)) r := Ev.bind h k
end Go.Proofs.YtoeggcckcnlllaaDoor.Own
