/- xtext, plainly: what the code's search and replacing tell, over lists of bytes. -/
import Derived.Test.YtoeggcckcnlllaaDoorPzzHexcharx1
import Derived.Test.YtoeggcckcnlllaaDoorPzzContainsx1
import Derived.Test.YtoeggcckcnlllaaDoorPlain
import Derived.Test.YtoeggcckcnlllaaDoorPu16
namespace Go.Proofs.YtoeggcckcnlllaaDoor.Own
open Go.RowKit Go.Proofs.YtoeggcckcnlllaaDoorW.PrintWords Go.Proofs.YtoeggcckcnlllaaDoorW.PrintLast
open Go.Proofs.YtoeggcckcnlllaaDoor.PzzHexchar (gosmtp_zzHexDigit.f gosmtp_zzHexchar.f gosmtp_zzHexchar.l0)
open Go.Proofs.YtoeggcckcnlllaaDoor.PzzContains (gosmtp_zzIndex.f gosmtp_zzIndex.l0 gosmtp_zzContains.f)
set_option linter.unusedVariables false
set_option linter.unusedSimpArgs false

def hexB (c : UInt8) : Bool := decide ((48 ≤ c.toNat ∧ c.toNat ≤ 57) ∨ (65 ≤ c.toNat ∧ c.toNat ≤ 70))
theorem hexB_iff {c : UInt8} : hexB c = true ↔ hexG c := by unfold hexB hexG; rw [decide_eq_true_eq]
/-- How many of the next two bytes are great hexadecimal digits. -/
def hexCnt : List UInt8 → Nat
  | [] => 0
  | c :: t => if hexB c = true then (match t with | [] => 1 | d :: _ => if hexB d = true then 2 else 1) else 0
theorem digit_tells (c : UInt8) : gosmtp_zzHexDigit.f (c.toNat : Int) = some (hexB c) := by
  unfold gosmtp_zzHexDigit.f hexB
  by_cases h1 : 48 ≤ c.toNat
  · rw [if_pos (by omega)]
    by_cases h2 : c.toNat ≤ 57
    · rw [if_pos (by omega)]
      congr 1; symm; rw [decide_eq_true_eq]; omega
    · rw [if_neg (by omega)]
      by_cases h3 : 65 ≤ c.toNat
      · rw [if_pos (by omega)]
        congr 1; rw [Bool.eq_iff_iff, decide_eq_true_eq, decide_eq_true_eq]; omega
      · rw [if_neg (by omega)]
        congr 1; symm; rw [decide_eq_false_iff_not]; omega
  · rw [if_neg (by omega)]
    by_cases h3 : 65 ≤ c.toNat
    · omega
    · rw [if_neg (by omega)]
      congr 1; symm; rw [decide_eq_false_iff_not]; omega
theorem wrap_two (i j : Nat) (h : i + j < 9223372036854775808) : wrap64 ((i : Int) + (j : Int)) = ((i + j : Nat) : Int) := by unfold wrap64; omega
theorem hexchar_l0 (s : ByteArray) (hs : s.size ≤ 1000000) (i : Nat) (hi : i < s.size) : gosmtp_zzHexchar.l0 3 s (i : Int) 1 = some ((1 + hexCnt (s.data.toList.drop (i + 1)) : Nat) : Int) := by
  have hsz := size_list s
  have w1 : wrap64 ((i : Int) + 1) = ((i + 1 : Nat) : Int) := by unfold wrap64; omega
  have w2 : wrap64 ((i : Int) + 2) = ((i + 2 : Nat) : Int) := by unfold wrap64; omega
  have s1 : wrap64 ((1 : Int) + 1) = 2 := by unfold wrap64; omega
  have s2 : wrap64 ((2 : Int) + 1) = 3 := by unfold wrap64; omega
  simp only [gosmtp_zzHexchar.l0]
  rw [if_pos (by decide), w1]
  by_cases h1 : i + 1 < s.size
  · obtain ⟨c, hc⟩ : ∃ c, s.data.toList[i + 1]? = some c := ⟨_, List.getElem?_eq_getElem (by omega)⟩
    have d1 : s.data.toList.drop (i + 1) = c :: s.data.toList.drop (i + 2) := by
      rw [List.drop_eq_getElem_cons (by omega)]
      rw [List.getElem?_eq_getElem (by omega)] at hc
      rw [Option.some.inj hc]
    rw [if_pos (by omega), if_pos (by omega), bt_some s _ c hc, digit_tells]
    simp only [Option.bind_some]
    rw [d1]
    by_cases hx : hexB c = true
    · rw [if_pos hx, s1, if_pos (by decide), w2]
      by_cases h2 : i + 2 < s.size
      · obtain ⟨d, hd⟩ : ∃ d, s.data.toList[i + 2]? = some d := ⟨_, List.getElem?_eq_getElem (by omega)⟩
        have d2 : s.data.toList.drop (i + 2) = d :: s.data.toList.drop (i + 3) := by
          rw [List.drop_eq_getElem_cons (by omega)]
          rw [List.getElem?_eq_getElem (by omega)] at hd
          rw [Option.some.inj hd]
        rw [if_pos (by omega), if_pos (by omega), bt_some s _ d hd, digit_tells]
        simp only [Option.bind_some]
        rw [d2]
        by_cases hy : hexB d = true
        · rw [if_pos hy, s2, if_neg (by decide)]
          simp [hexCnt, hx, hy]
        · rw [if_neg hy]
          simp [hexCnt, hx, hy]
      · rw [if_neg (by omega)]
        have d2 : s.data.toList.drop (i + 2) = [] := List.drop_eq_nil_of_le (by omega)
        rw [d2]
        simp [hexCnt, hx]
    · rw [if_neg hx]
      simp [hexCnt, hx]
  · rw [if_neg (by omega)]
    have d1 : s.data.toList.drop (i + 1) = [] := List.drop_eq_nil_of_le (by omega)
    rw [d1]
    simp [hexCnt]
def hexAt (s : ByteArray) (i : Nat) : Nat := if s.data.toList[i]? = some 43 then 1 + hexCnt (s.data.toList.drop (i + 1)) else 0
theorem hexchar_tells (s : ByteArray) (hs : s.size ≤ 1000000) (i : Nat) (hi : i < s.size) : gosmtp_zzHexchar.f 3 s (i : Int) = some ((hexAt s i : Nat) : Int) := by
  have hsz := size_list s
  obtain ⟨c, hc⟩ : ∃ c, s.data.toList[i]? = some c := ⟨_, List.getElem?_eq_getElem (by omega)⟩
  unfold gosmtp_zzHexchar.f hexAt
  rw [if_pos (by omega), if_pos (by omega), bt_some s i c hc, hc]
  by_cases h : c = 43
  · subst h
    rw [if_pos rfl, if_pos (by rfl)]
    exact hexchar_l0 s hs i hi
  · rw [if_neg (by intro e; exact h (UInt8.toNat_inj.1 (by show c.toNat = 43; omega))), if_neg (by intro e; exact h (Option.some.inj e))]
    rfl
theorem hexchar_any (s : ByteArray) (hs : s.size ≤ 1000000) (i : Nat) (hi : i < s.size) (w : World) :
    Calls Tryd.prog 17 #[.string s, .int .i64 i] w fun e w' => e = .returned (.int .i64 (hexAt s i : Nat)) ∧ Drawn0 w w' :=
  PzzHexchar.gosmtp_zzHexchar.calls 3 s i (hexAt s i : Nat) w (hexchar_tells s hs i hi)
def plusB : ByteArray := ⟨#[43]⟩
theorem index_run (s : ByteArray) (hs : s.size ≤ 1000000) : ∀ (d i : Nat), i + d = s.size → ∃ r : Int, gosmtp_zzIndex.l0 (d + 1) s plusB (i : Int) = some r ∧ (r ≥ 0 ↔ 43 ∈ s.data.toList.drop i)
  | 0, i, hd => by
    refine ⟨-1, ?_, ?_⟩
    · simp only [gosmtp_zzIndex.l0]
      rw [show ((plusB.size : Nat) : Int) = 1 from rfl, show wrap64 ((i : Int) + 1) = ((i + 1 : Nat) : Int) by unfold wrap64; omega, if_neg (by omega)]
    · rw [List.drop_eq_nil_of_le (by rw [← size_list]; omega)]
      simp
  | d + 1, i, hd => by
    have hsz := size_list s
    obtain ⟨c, hc⟩ : ∃ c, s.data.toList[i]? = some c := ⟨_, List.getElem?_eq_getElem (by omega)⟩
    have d1 : s.data.toList.drop i = c :: s.data.toList.drop (i + 1) := by
      rw [List.drop_eq_getElem_cons (by omega)]
      rw [List.getElem?_eq_getElem (by omega)] at hc
      rw [Option.some.inj hc]
    have hex : (s.extract i (i + 1)).toList = [c] := by
      rw [Lib.toList_data, ext_list, d1]
      simp
    have hl : gosmtp_zzIndex.l0 (d + 1 + 1) s plusB (i : Int) = if [c] = plusB.toList then some (i : Int) else gosmtp_zzIndex.l0 (d + 1) s plusB ((i + 1 : Nat) : Int) := by
      simp only [gosmtp_zzIndex.l0]
      rw [show ((plusB.size : Nat) : Int) = 1 from rfl, show wrap64 ((i : Int) + 1) = ((i + 1 : Nat) : Int) by unfold wrap64; omega, if_pos (by omega), if_pos (by omega), if_pos (by omega), Int.toNat_natCast, Int.toNat_natCast, hex]
    have hp : plusB.toList = [43] := by rw [Lib.toList_data]; rfl
    rw [hp] at hl
    by_cases h : c = 43
    · subst h
      exact ⟨(i : Int), by rw [hl, if_pos rfl], by rw [d1]; simp⟩
    · obtain ⟨r, hr1, hr2⟩ := index_run s hs d (i + 1) (by omega)
      refine ⟨r, by rw [hl, if_neg (by simpa using h)]; exact hr1, ?_⟩
      rw [d1, hr2]
      simp [Ne.symm h]
def hasPlus (s : ByteArray) : Bool := decide (43 ∈ s.data.toList)
theorem contains_any (s : ByteArray) (hs : s.size ≤ 1000000) (w : World) :
    Calls Tryd.prog 15 #[.string s, .string plusB] w fun e w' => e = .returned (.bool (hasPlus s)) ∧ Drawn0 w w' := by
  obtain ⟨r, hr1, hr2⟩ := index_run s hs s.size 0 (by omega)
  refine PzzContains.gosmtp_zzContains.calls (s.size + 1) s plusB (hasPlus s) w ?_
  unfold gosmtp_zzContains.f gosmtp_zzIndex.f
  rw [show gosmtp_zzIndex.l0 (s.size + 1) s plusB 0 = some r from hr1]
  simp only [Option.bind_some]
  congr 1
  unfold hasPlus
  rw [Bool.eq_iff_iff, decide_eq_true_eq, decide_eq_true_eq, hr2, List.drop_zero]

/-- What the replacing makes of a text: the bytes, and whether something was found that is none. -/
def dx : Nat → List UInt8 → List UInt8 × Bool
  | 0, _ => ([], false)
  | _ + 1, [] => ([], false)
  | n + 1, c :: t =>
    if c = 43 then
      if hexCnt t = 2 then
        if hv (t.getD 0 0) * 16 + hv (t.getD 1 0) < 128 then (UInt8.ofNat (hv (t.getD 0 0) * 16 + hv (t.getD 1 0)) :: (dx n (t.drop 2)).1, (dx n (t.drop 2)).2)
        else ((dx n (t.drop 2)).1, true)
      else ((dx n (t.drop (hexCnt t))).1, true)
    else (c :: (dx n t).1, (dx n t).2)
theorem hexCnt_le (l : List UInt8) : hexCnt l ≤ l.length ∧ hexCnt l ≤ 2 := by
  match l with
  | [] => simp [hexCnt]
  | [c] => simp only [hexCnt]; split <;> simp
  | c :: d :: t => simp only [hexCnt]; split <;> (try split) <;> simp
theorem hexCnt_two {l : List UInt8} (h : hexCnt l = 2) : ∃ x y t, l = x :: y :: t ∧ hexG x ∧ hexG y := by
  match l, h with
  | [c], h => unfold hexCnt at h; simp only at h; split at h <;> cases h
  | c :: d :: t, h =>
    unfold hexCnt at h
    simp only at h
    by_cases h1 : hexB c = true
    · rw [if_pos h1] at h
      by_cases h2 : hexB d = true
      · exact ⟨c, d, t, rfl, hexB_iff.1 h1, hexB_iff.1 h2⟩
      · rw [if_neg h2] at h; cases h
    · rw [if_neg h1] at h; cases h
theorem dx_plain : ∀ (n : Nat) (l : List UInt8), l.length ≤ n → 43 ∉ l → dx n l = (l, false)
  | 0, l, h, _ => by
    obtain rfl : l = [] := List.length_eq_zero_iff.1 (by omega)
    rfl
  | n + 1, [], _, _ => rfl
  | n + 1, c :: t, h, hn => by
    simp only [List.mem_cons, not_or] at hn
    unfold dx
    rw [if_neg (fun e => hn.1 e.symm), dx_plain n t (by simp at h; omega) hn.2]
end Go.Proofs.YtoeggcckcnlllaaDoor.Own
