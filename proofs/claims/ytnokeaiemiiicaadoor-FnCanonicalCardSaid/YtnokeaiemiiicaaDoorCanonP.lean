/- Flags in their form: what the code's search by equal folding and the reference's by small letters tell, on ASCII. -/
import Derived.Lib.Fold
import Derived.Lib.Case
import Derived.Test.YtnokeaiemiiicaaDoorTurn
namespace Go.Proofs.YtnokeaiemiiicaaDoor.Own
open Go.RowKit Go.Lib
set_option linter.unusedVariables false
set_option linter.unusedSimpArgs false

def Asc (l : List UInt8) : Prop := ∀ (j : Nat) (b : UInt8), l[j]? = some b → b.toNat < 128
def bs (l : List UInt8) : ByteArray := ⟨l.toArray⟩
def seenB : ByteArray := ⟨#[92, 83, 101, 101, 110]⟩
def answB : ByteArray := ⟨#[92, 65, 110, 115, 119, 101, 114, 101, 100]⟩
def flagB : ByteArray := ⟨#[92, 70, 108, 97, 103, 103, 101, 100]⟩
def deleB : ByteArray := ⟨#[92, 68, 101, 108, 101, 116, 101, 100]⟩
def drafB : ByteArray := ⟨#[92, 68, 114, 97, 102, 116]⟩
def receB : ByteArray := ⟨#[92, 82, 101, 99, 101, 110, 116]⟩
def flagsL : List ByteArray := [seenB, answB, flagB, deleB, drafB, receB]
def knownL : List ByteArray := [answB, deleB, drafB, flagB, receB, seenB]
def canonL : List ByteArray → ByteArray → ByteArray
  | [], s => ⟨(toLowerA s.data.toList).toArray⟩
  | f :: l, s => if equalFold f.data.toList s.data.toList = true then f else canonL l s
def flag9L : List ByteArray → ByteArray → ByteArray
  | [], s => lowS s
  | f :: l, s => if lowS f = lowS s then f else flag9L l s
theorem lowerB_lowB (c : UInt8) : lowerB c = lowB c := by
  unfold lowerB lowB isUpperB
  by_cases h : 65 ≤ c ∧ c ≤ 90
  · rw [if_pos (by simpa using h), if_pos h]
  · rw [if_neg (by simpa using h), if_neg h]
theorem toLowerA_lowS (s : ByteArray) : (⟨(toLowerA s.data.toList).toArray⟩ : ByteArray) = lowS s := by
  unfold toLowerA lowS
  rw [show lowerB = lowB from funext lowerB_lowB]
theorem lowB_nat (c : UInt8) : (lowB c).toNat = if 65 ≤ c.toNat ∧ c.toNat ≤ 90 then c.toNat + 32 else c.toNat := by
  unfold lowB
  by_cases h : 65 ≤ c ∧ c ≤ 90
  · have h' : 65 ≤ c.toNat ∧ c.toNat ≤ 90 := by simpa [UInt8.le_iff_toNat_le] using h
    rw [if_pos h, if_pos h', UInt8.toNat_add]
    show (c.toNat + 32) % 256 = _
    omega
  · have h' : ¬ (65 ≤ c.toNat ∧ c.toNat ≤ 90) := by simpa [UInt8.le_iff_toNat_le] using h
    rw [if_neg h, if_neg h']
theorem fold_lowB (x y : UInt8) : foldEq x y = true ↔ lowB x = lowB y := by
  unfold foldEq
  rw [decide_eq_true_eq, ← UInt8.toNat_inj, lowB_nat, lowB_nat]
  split <;> split <;> omega
theorem fold_low : ∀ (a b : List UInt8), equalFold a b = true ↔ a.map lowB = b.map lowB
  | [], [] => by simp [equalFold]
  | [], y :: b => by simp [equalFold]
  | x :: a, [] => by simp [equalFold]
  | x :: a, y :: b => by
    simp only [equalFold, Bool.and_eq_true, List.map_cons, List.cons.injEq, fold_lowB, fold_low a b]
theorem lowS_eq (a b : ByteArray) : lowS a = lowS b ↔ equalFold a.data.toList b.data.toList = true := by
  rw [fold_low]
  unfold lowS
  constructor
  · intro h
    have := congrArg (fun x : ByteArray => x.data.toList) h
    simpa using this
  · intro h
    rw [h]
theorem canonL_cons (f : ByteArray) (l : List ByteArray) (s : ByteArray) : canonL (f :: l) s = if lowS f = lowS s then f else canonL l s := by
  show (if equalFold f.data.toList s.data.toList = true then f else canonL l s) = _
  by_cases h : equalFold f.data.toList s.data.toList = true
  · rw [if_pos h, if_pos ((lowS_eq _ _).2 h)]
  · rw [if_neg h, if_neg (fun e => h ((lowS_eq _ _).1 e))]
theorem flag9L_cons (f : ByteArray) (l : List ByteArray) (s : ByteArray) : flag9L (f :: l) s = if lowS f = lowS s then f else flag9L l s := rfl
theorem canon_same (s : ByteArray) : canonL flagsL s = flag9L knownL s := by
  have d1 : lowS seenB ≠ lowS answB := by decide +kernel
  have d2 : lowS seenB ≠ lowS flagB := by decide +kernel
  have d3 : lowS seenB ≠ lowS deleB := by decide +kernel
  have d4 : lowS seenB ≠ lowS drafB := by decide +kernel
  have d5 : lowS seenB ≠ lowS receB := by decide +kernel
  have d6 : lowS answB ≠ lowS flagB := by decide +kernel
  have d7 : lowS answB ≠ lowS deleB := by decide +kernel
  have d8 : lowS answB ≠ lowS drafB := by decide +kernel
  have d9 : lowS answB ≠ lowS receB := by decide +kernel
  have da : lowS flagB ≠ lowS deleB := by decide +kernel
  have db : lowS flagB ≠ lowS drafB := by decide +kernel
  have dc : lowS flagB ≠ lowS receB := by decide +kernel
  have dd : lowS deleB ≠ lowS drafB := by decide +kernel
  have de : lowS deleB ≠ lowS receB := by decide +kernel
  have df : lowS drafB ≠ lowS receB := by decide +kernel
  unfold flagsL knownL
  simp only [canonL_cons, flag9L_cons]
  have hend : canonL [] s = flag9L [] s := toLowerA_lowS s
  rw [hend]
  generalize flag9L [] s = z
  generalize lowS s = t
  by_cases h1 : lowS seenB = t
  · subst h1
    rw [if_pos rfl, if_neg d1.symm, if_neg d3.symm, if_neg d4.symm, if_neg d2.symm, if_neg d5.symm, if_pos rfl]
  rw [if_neg h1, if_neg h1]
  by_cases h2 : lowS answB = t
  · subst h2
    rw [if_pos rfl, if_pos rfl]
  rw [if_neg h2, if_neg h2]
  by_cases h3 : lowS flagB = t
  · subst h3
    rw [if_pos rfl, if_neg da.symm, if_neg db.symm, if_pos rfl]
  rw [if_neg h3, if_neg h3]
theorem canon_seen : canonL flagsL ⟨#[92, 83, 69, 69, 78]⟩ = seenB := by
  unfold flagsL
  rw [canonL_cons, if_pos (by decide +kernel)]
theorem upB_nat (c : UInt8) : (upB c).toNat = if 97 ≤ c.toNat ∧ c.toNat ≤ 122 then c.toNat - 32 else c.toNat := by
  unfold upB
  by_cases h : 97 ≤ c ∧ c ≤ 122
  · have h' : 97 ≤ c.toNat ∧ c.toNat ≤ 122 := by simpa [UInt8.le_iff_toNat_le] using h
    rw [if_pos h, if_pos h', UInt8.toNat_sub_of_le _ _ (by rw [UInt8.le_iff_toNat_le]; show 32 ≤ c.toNat; omega)]
    rfl
  · have h' : ¬ (97 ≤ c.toNat ∧ c.toNat ≤ 122) := by simpa [UInt8.le_iff_toNat_le] using h
    rw [if_neg h, if_neg h']
theorem fold_upB (x y : UInt8) : foldEq x y = true ↔ upB x = upB y := by
  unfold foldEq
  rw [decide_eq_true_eq, ← UInt8.toNat_inj, upB_nat, upB_nat]
  split <;> split <;> omega
theorem fold_up : ∀ (a b : List UInt8), equalFold a b = true ↔ a.map upB = b.map upB
  | [], [] => by simp [equalFold]
  | [], y :: b => by simp [equalFold]
  | x :: a, [] => by simp [equalFold]
  | x :: a, y :: b => by
    simp only [equalFold, Bool.and_eq_true, List.map_cons, List.cons.injEq, fold_upB, fold_up a b]
def inboxB : ByteArray := ⟨#[73, 78, 66, 79, 88]⟩
def boxL (s : ByteArray) : ByteArray := if equalFold s.data.toList inboxB.data.toList = true then inboxB else s
theorem boxL_up (s : ByteArray) : boxL s = if upS s = inboxB then inboxB else s := by
  unfold boxL
  have key : equalFold s.data.toList inboxB.data.toList = true ↔ upS s = inboxB := by
    rw [fold_up, show inboxB.data.toList.map upB = inboxB.data.toList by decide +kernel]
    constructor
    · intro h
      unfold upS
      rw [h]
    · intro h
      have := congrArg (fun x : ByteArray => x.data.toList) h
      simpa [upS] using this
  by_cases h : upS s = inboxB
  · rw [if_pos (key.2 h), if_pos h]
  · rw [if_neg (fun e => h (key.1 e)), if_neg h]
end Go.Proofs.YtnokeaiemiiicaaDoor.Own
