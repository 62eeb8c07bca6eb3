/- Plain words: spec.Printable16 and spec.Behind, of printable ASCII, say what the code says. No law of the program is proved here. Plain words: a word's key and value. No law of the program is proved here. -/
import Derived.Test.YtldiamldbpobgaaGreatDoorPPrintable16x1
import Derived.Test.YtldiamldbpobgaaGreatDoorPBehindx1
import Derived.Test.YtldiamldbpobgaaGreatDoorMC
import Derived.Test.YtldiamldbpobgaaGreatDoorMF
namespace Go.Proofs.YtldiamldbpobgaaGreatDoor.Own
open Go.RowKit Go.Proofs.YtldiamldbpobgaaGreatDoor.PPrintable16 Go.Proofs.YtldiamldbpobgaaGreatDoor.PBehind Go.Proofs.YtldiamldbpobgaaGreatDoorW.PrintWords Go.Proofs.YtldiamldbpobgaaGreatDoorW.PrintLast Go.Lib
set_option linter.unusedVariables false
set_option linter.unusedSimpArgs false

def prC (c : UInt8) : Bool := decide (32 ≤ c.toNat ∧ c.toNat < 127)
theorem print_tells (a : ByteArray) (ha : a.size ≤ 2147483647) : ∀ (d i : Nat), i + d = a.size → ∃ b, spec_Printable16.l0 (d + 1) a (i : Int) = some b ∧ (b = true → ∀ (j : Nat) (c : UInt8), i ≤ j → a.data.toList[j]? = some c → prC c = true)
  | 0, i, hd => ⟨true, by simp only [spec_Printable16.l0]; rw [if_neg (by omega)], fun _ j c hj hc => by
      rw [List.getElem?_eq_none (by rw [← size_list]; omega)] at hc; cases hc⟩
  | d + 1, i, hd => by
    have hi : i < a.data.toList.length := by rw [← size_list]; omega
    obtain ⟨c, hc⟩ : ∃ c, a.data.toList[i]? = some c := ⟨_, List.getElem?_eq_getElem hi⟩
    have hb := bt_some a i c hc
    simp only [spec_Printable16.l0]
    rw [if_pos (by omega), if_pos (by omega), hb]
    by_cases h1 : (c.toNat : Int) < 32
    · exact ⟨false, by rw [if_pos h1], fun h => by cases h⟩
    · rw [if_neg h1]
      by_cases h2 : (c.toNat : Int) > 126
      · exact ⟨false, by rw [if_pos h2], fun h => by cases h⟩
      · rw [if_neg h2, wrap_succ (by omega)]
        obtain ⟨b, hb1, hb2⟩ := print_tells a ha d (i + 1) (by omega)
        refine ⟨b, hb1, fun hbt j c' hj hc' => ?_⟩
        by_cases e : j = i
        · subst e
          rw [hc] at hc'
          cases hc'
          exact decide_eq_true ⟨by omega, by omega⟩
        · exact hb2 hbt j c' (by omega) hc'
def is32 (c : UInt8) : Bool := c == 32
def tailS (l : List UInt8) : List UInt8 := (l.reverse.dropWhile is32).reverse
theorem tailS_nil : tailS [] = [] := rfl
theorem tailS_snoc (l : List UInt8) (c : UInt8) : tailS (l ++ [c]) = if is32 c = true then tailS l else l ++ [c] := by
  unfold tailS
  rw [List.reverse_append, List.reverse_singleton, List.singleton_append, List.dropWhile_cons]
  by_cases h : is32 c = true
  · rw [if_pos h, if_pos h]
  · rw [if_neg h, if_neg h, List.reverse_cons, List.reverse_reverse]
theorem mk_list (l : List UInt8) : (⟨l.toArray⟩ : ByteArray).data.toList = l := rfl
theorem l1_tells : ∀ (n : Nat) (s : ByteArray), s.size = n → n ≤ 1000000 → ∃ k, spec_trimBlanks.l1 k s = some ⟨(tailS s.data.toList).toArray⟩
  | 0, s, hn, _ => by
    refine ⟨1, ?_⟩
    simp only [spec_trimBlanks.l1]
    rw [if_neg (by omega)]
    have : s.data.toList = [] := List.length_eq_zero_iff.1 (by rw [← size_list]; exact hn)
    congr 1
    apply ba_ext
    rw [this]; rfl
  | n + 1, s, hn, hle => by
    have hlen : s.data.toList.length = n + 1 := by rw [← size_list]; exact hn
    obtain ⟨c, hc⟩ : ∃ c, s.data.toList[n]? = some c := ⟨_, List.getElem?_eq_getElem (by omega)⟩
    have hb := bt_some s n c hc
    have hsp : s.data.toList = s.data.toList.take n ++ [c] := by
      have h1 : s.data.toList.take (n + 1) = s.data.toList := List.take_of_length_le (by omega)
      have h2 := List.take_succ_eq_append_getElem (l := s.data.toList) (i := n) (by omega)
      rw [h1] at h2
      rw [List.getElem?_eq_getElem (by omega)] at hc
      rw [Option.some.inj hc] at h2
      exact h2
    have hw : wrap64 ((s.size : Int) - 1) = (n : Int) := by rw [hn]; unfold wrap64; omega
    have hext : (s.extract 0 n).data.toList = s.data.toList.take n := by rw [ext_list]; simp
    obtain ⟨k, hk⟩ := l1_tells n (s.extract 0 n) (by rw [ext_size]; omega) (by omega)
    refine ⟨k + 1, ?_⟩
    simp only [spec_trimBlanks.l1]
    rw [if_pos (by omega), hw, if_pos (by omega), if_pos (by omega), hb]
    by_cases h32 : (c.toNat : Int) = 32
    · rw [if_pos h32, if_pos (by omega), Int.toNat_natCast, hk, hext, hsp, tailS_snoc, if_pos (by unfold is32; rw [beq_iff_eq]; exact UInt8.toNat_inj.1 (by show c.toNat = 32; omega))]
      rw [← hsp]
    · rw [if_neg h32]
      congr 1
      apply ba_ext
      rw [mk_list, hsp, tailS_snoc, if_neg (by unfold is32; rw [beq_iff_eq]; intro e; apply h32; rw [e]; rfl)]
theorem l0_tells : ∀ (n : Nat) (s : ByteArray), s.size = n → n ≤ 1000000 → ∃ k, spec_trimBlanks.l0 k s = some ⟨(tailS (s.data.toList.dropWhile is32)).toArray⟩
  | 0, s, hn, hle => by
    obtain ⟨k, hk⟩ := l1_tells 0 s hn hle
    refine ⟨k + 1 + 1, ?_⟩
    simp only [spec_trimBlanks.l0, spec_trimBlanks.j1]
    rw [if_neg (by omega), hk]
    have : s.data.toList = [] := List.length_eq_zero_iff.1 (by rw [← size_list]; exact hn)
    rw [this]; rfl
  | n + 1, s, hn, hle => by
    have hlen : s.data.toList.length = n + 1 := by rw [← size_list]; exact hn
    obtain ⟨c, t, hct⟩ : ∃ c t, s.data.toList = c :: t := by
      cases h : s.data.toList with
      | nil => rw [h] at hlen; simp at hlen
      | cons c t => exact ⟨c, t, rfl⟩
    have hb : bt s 0 = (c.toNat : Int) := bt_some s 0 c (by rw [hct]; rfl)
    by_cases h32 : (c.toNat : Int) = 32
    · have hi : is32 c = true := by unfold is32; rw [beq_iff_eq]; exact UInt8.toNat_inj.1 (by show c.toNat = 32; omega)
      obtain ⟨k, hk⟩ := l0_tells n (s.extract 1 s.size) (by rw [ext_size]; omega) (by omega)
      refine ⟨k + 1, ?_⟩
      simp only [spec_trimBlanks.l0]
      rw [if_pos (by omega), if_pos (by omega), hb, if_pos h32, if_pos (by omega), hk, ext_end, hct, List.dropWhile_cons, if_pos hi]
      rfl
    · have hi : ¬ is32 c = true := by unfold is32; rw [beq_iff_eq]; intro e; apply h32; rw [e]; rfl
      obtain ⟨k, hk⟩ := l1_tells (n + 1) s hn hle
      refine ⟨k + 1 + 1, ?_⟩
      simp only [spec_trimBlanks.l0, spec_trimBlanks.j1]
      rw [if_pos (by omega), if_pos (by omega), hb, if_neg h32, hk, hct, List.dropWhile_cons, if_neg hi]
theorem isSp_is32 {c : UInt8} (h : prC c = true) : isSp c = is32 c := by
  have h := of_decide_eq_true h
  unfold isSp is32
  have key : ∀ n : UInt8, n.toNat < 32 → (c == n) = false := fun n hn => by
    rw [beq_eq_false_iff_ne]; intro e; subst e; omega
  rw [key 9 (by decide), key 10 (by decide), key 11 (by decide), key 12 (by decide), key 13 (by decide)]
  rfl
theorem drop_same : ∀ (l : List UInt8), (∀ c ∈ l, prC c = true) → l.dropWhile isSp = l.dropWhile is32
  | [], _ => rfl
  | c :: l, h => by
    rw [List.dropWhile_cons, List.dropWhile_cons, isSp_is32 (h c (by simp)), drop_same l (fun x hx => h x (by simp [hx]))]
theorem trim_same (l : List UInt8) (h : ∀ c ∈ l, prC c = true) : Lib.trimSpace l = tailS (l.dropWhile is32) := by
  unfold Lib.trimSpace tailS
  rw [drop_same l h, drop_same _ (fun c hc => h c ((List.dropWhile_sublist _).subset (List.mem_reverse.1 hc)))]
theorem upperB_upB (c : UInt8) : upperB c = upB c := by
  unfold upperB upB isLowerB
  by_cases h : 97 ≤ c ∧ c ≤ 122
  · rw [if_pos (by simpa using h), if_pos h]
  · rw [if_neg (by simpa using h), if_neg h]
theorem upS_list (s : ByteArray) : (upS s).data.toList = s.data.toList.map upB := rfl
theorem upS_size (s : ByteArray) : (upS s).size = s.size := by rw [size_list, upS_list, List.length_map, ← size_list]
theorem tl (s : ByteArray) : s.toList = s.data.toList := Lib.toList_data s

theorem fold_low (p : UInt8) (hp : ∀ n : Fin 256, foldEq (UInt8.ofNat n.val) p = (upB (UInt8.ofNat n.val) == p)) (x : UInt8) : foldEq x p = (upB x == p) := by
  have := hp ⟨x.toNat, x.toNat_lt⟩
  simpa using this
theorem fold_list : ∀ (x pre : List UInt8), (∀ p ∈ pre, ∀ y, foldEq y p = (upB y == p)) → x.length = pre.length → (Lib.equalFold x pre = true ↔ x.map upB = pre)
  | [], [], _, _ => by simp [Lib.equalFold]
  | [], p :: pre, _, h => by simp at h
  | y :: x, [], _, h => by simp at h
  | y :: x, p :: pre, hp, h => by
    have ih := fold_list x pre (fun q hq => hp q (by simp [hq])) (by simpa using h)
    rw [Lib.equalFold, Bool.and_eq_true, ih, hp p (by simp) y, beq_iff_eq, List.map_cons, List.cons.injEq]
theorem toL_fold : ∀ p ∈ toL, ∀ y, foldEq y p = (upB y == p) := by
  intro p hp y
  refine fold_low p ?_ y
  simp [toL] at hp
  rcases hp with rfl | rfl | rfl <;> decide +kernel
theorem fromL_fold : ∀ p ∈ fromL, ∀ y, foldEq y p = (upB y == p) := by
  intro p hp y
  refine fold_low p ?_ y
  simp [fromL] at hp
  rcases hp with rfl | rfl | rfl | rfl | rfl <;> decide +kernel
/-- What the reference says of what is behind a word. -/
def behR (l pre : List UInt8) : ByteArray × Bool := match cutF l pre with | none => (⟨#[]⟩, false) | some a => (⟨(Lib.trimSpace a).toArray⟩, true)
theorem behind_tells (l pre : List UInt8) (hl : l.length ≤ 300) (hp : ∀ c ∈ l, prC c = true) (hpl : pre.length ≤ 10) (hpre : ∀ p ∈ pre, ∀ y, foldEq y p = (upB y == p)) : ∃ k, spec_Behind.f k ⟨l.toArray⟩ ⟨pre.toArray⟩ = some (behR l pre) := by
  obtain ⟨S, hS⟩ : ∃ S : ByteArray, S = ⟨l.toArray⟩ := ⟨_, rfl⟩
  obtain ⟨Q, hQ⟩ : ∃ S : ByteArray, S = ⟨pre.toArray⟩ := ⟨_, rfl⟩
  have hs : S.size = l.length := by rw [hS]; rfl
  have hq : Q.size = pre.length := by rw [hQ]; rfl
  have hSl : S.data.toList = l := by rw [hS]
  have hQl : Q.data.toList = pre := by rw [hQ]
  rw [← hS, ← hQ]
  unfold behR cutF
  unfold spec_Behind.f
  by_cases h1 : l.length < pre.length
  · refine ⟨0, ?_⟩
    rw [if_pos (by omega), if_pos h1]
  · have hup : Own.spec_Upper.f (S.extract 0 ((Q.size : Int) : Int).toNat) = some (upS (S.extract 0 Q.size)) := by
      unfold Own.spec_Upper.f
      rw [Int.toNat_natCast, if_pos (by rw [ext_size]; omega)]
    have hul : (upS (S.extract 0 Q.size)).toList = (l.take pre.length).map upB := by
      rw [tl, upS_list, ext_list, hSl, hq]
      simp
    have hiff := fold_list (l.take pre.length) pre hpre (by rw [List.length_take]; omega)
    by_cases h2 : Lib.equalFold (l.take pre.length) pre = true
    · obtain ⟨k, hk⟩ := l0_tells (S.extract Q.size S.size).size (S.extract Q.size S.size) rfl (by rw [ext_size]; omega)
      refine ⟨k, ?_⟩
      have hd : (S.extract Q.size S.size).data.toList = l.drop pre.length := by rw [ext_end, hSl, hq]
      rw [if_neg (by omega), if_pos (by omega), if_pos (by omega), hup, Option.bind_some, hul, hiff.1 h2, tl, hQl, if_pos rfl, Int.toNat_natCast]
      unfold spec_trimBlanks.f
      rw [hk, Option.bind_some, hd, ← trim_same _ (fun c hc => hp c (List.mem_of_mem_drop hc)), if_neg h1, if_pos h2]
    · refine ⟨0, ?_⟩
      rw [if_neg (by omega), if_pos (by omega), if_pos (by omega), hup, Option.bind_some, hul, tl, hQl, if_neg (fun h => h2 (hiff.2 h)), if_neg h1, if_neg h2]
end Go.Proofs.YtldiamldbpobgaaGreatDoor.Own

namespace Go.Proofs.YtldiamldbpobgaaGreatDoor.Own
open Go.RowKit Go.Lib
set_option linter.unusedVariables false
set_option linter.unusedSimpArgs false

def No61 (l : List UInt8) : Prop := ∀ c ∈ l, c ≠ 61
theorem cmFrom_first (s : ByteArray) : ∀ (m i d : Nat), (∀ j, i ≤ j → j < i + m → s.get! j ≠ 61) → i + m < s.size → s.get! (i + m) = 61 → m < d → cmFrom s d i = ((i + m : Nat) : Int)
  | 0, i, 0, h, hl, he, hd => by omega
  | 0, i, d + 1, h, hl, he, hd => by
    have he' : s.get! i = 61 := he
    rw [cmFrom, if_pos (by omega), if_pos he']
    rfl
  | m + 1, i, 0, h, hl, he, hd => by omega
  | m + 1, i, d + 1, h, hl, he, hd => by
    rw [cmFrom, if_pos (by omega), if_neg (h i (Nat.le_refl _) (by omega)), cmFrom_first s m (i + 1) d (fun j h1 h2 => h j (by omega) (by omega)) (by omega) (by rw [show i + 1 + m = i + (m + 1) by omega]; exact he) (by omega)]
    congr 1
    omega
theorem cmFrom_none (s : ByteArray) : ∀ (d i : Nat), (∀ j, i ≤ j → j < s.size → s.get! j ≠ 61) → cmFrom s d i = -1
  | 0, i, h => rfl
  | d + 1, i, h => by
    rw [cmFrom]
    by_cases hi : i < s.size
    · rw [if_pos hi, if_neg (h i (Nat.le_refl _) hi), cmFrom_none s d (i + 1) (fun j h1 h2 => h j (by omega) h2)]
    · rw [if_neg hi]
theorem get_mk (l : List UInt8) (j : Nat) (c : UInt8) (h : l[j]? = some c) : (⟨l.toArray⟩ : ByteArray).get! j = c := by
  have hj := (List.getElem?_eq_some_iff.1 h).1
  have := get_list (⟨l.toArray⟩ : ByteArray) j hj
  have h2 : l[j]? = some ((⟨l.toArray⟩ : ByteArray).get! j) := this
  rw [h] at h2
  exact (Option.some.inj h2).symm
theorem cm_none (l : List UInt8) (h : No61 l) : cm ⟨l.toArray⟩ = -1 := by
  refine cmFrom_none _ _ 0 (fun j _ hj => ?_)
  have hj2 : j < l.length := hj
  rw [get_mk l j l[j] (List.getElem?_eq_getElem hj2)]
  exact h _ (List.getElem_mem hj2)
theorem cm_first (a b : List UInt8) (h : No61 a) : cm ⟨(a ++ 61 :: b).toArray⟩ = (a.length : Int) := by
  have hz : (⟨(a ++ 61 :: b).toArray⟩ : ByteArray).size = a.length + b.length + 1 := by show (a ++ 61 :: b).length = _; simp; omega
  have := cmFrom_first ⟨(a ++ 61 :: b).toArray⟩ a.length 0 ((⟨(a ++ 61 :: b).toArray⟩ : ByteArray).size + 1 + 1) (fun j _ hj => by
    have hj2 : j < a.length := by omega
    rw [get_mk _ j a[j] (by rw [List.getElem?_append_left hj2]; exact List.getElem?_eq_getElem hj2)]
    exact h _ (List.getElem_mem hj2)) (by omega) (get_mk _ _ 61 (by rw [Nat.zero_add, List.getElem?_append_right (Nat.le_refl _), Nat.sub_self]; rfl)) (by omega)
  rw [Nat.zero_add] at this
  exact this
theorem splitN_none (n : Nat) (l : List UInt8) (h : No61 l) : splitN n ⟨l.toArray⟩ = [⟨l.toArray⟩] := by
  cases n with
  | zero => rfl
  | succ n => rw [splitN, cm_none l h, if_pos (by decide)]
theorem splitN_first (n : Nat) (a b : List UInt8) (h : No61 a) : splitN (n + 1) ⟨(a ++ 61 :: b).toArray⟩ = ⟨a.toArray⟩ :: splitN n ⟨b.toArray⟩ := by
  have hz : (⟨(a ++ 61 :: b).toArray⟩ : ByteArray).size = (a ++ 61 :: b).length := rfl
  rw [splitN, cm_first a b h, if_neg (by omega), Int.toNat_natCast, hz, ext_drop, ext_take _ _ (by simp)]
  congr 2
  · simp
  · congr 1
    rw [List.drop_append]
    simp
theorem kv_none (wd : List UInt8) (h : No61 wd) : kvOf wd = some (Lib.toUpperA wd, []) := by
  unfold kvOf parts
  rw [splitN_none _ wd h]
theorem kv_one (a b : List UInt8) (ha : No61 a) (hb : No61 b) : kvOf (a ++ 61 :: b) = some (Lib.toUpperA a, b) := by
  have hz : (⟨(a ++ 61 :: b).toArray⟩ : ByteArray).size = (a.length + b.length) + 1 := by show (a ++ 61 :: b).length = _; simp; omega
  unfold kvOf parts
  rw [hz, splitN_first _ a b ha, splitN_none _ b hb]
theorem has_split : ∀ (b : List UInt8), ¬ No61 b → ∃ c d, b = c ++ 61 :: d ∧ No61 c
  | [], h => absurd (fun c hc => by cases hc) h
  | x :: b, h => by
    by_cases hx : x = 61
    · exact ⟨[], b, by rw [hx]; rfl, fun c hc => by cases hc⟩
    · obtain ⟨c, d, h1, h2⟩ := has_split b (fun hn => h (fun y hy => by
        rcases List.mem_cons.1 hy with rfl | hy
        · exact hx
        · exact hn y hy))
      exact ⟨x :: c, d, by rw [h1]; rfl, fun y hy => by
        rcases List.mem_cons.1 hy with rfl | hy
        · exact hx
        · exact h2 y hy⟩
theorem kv_two (a b : List UInt8) (ha : No61 a) (hb : ¬ No61 b) : kvOf (a ++ 61 :: b) = none := by
  obtain ⟨c, d, rfl, hc⟩ := has_split b hb
  have hz : (⟨(a ++ 61 :: (c ++ 61 :: d)).toArray⟩ : ByteArray).size = ((a.length + c.length + d.length) + 1) + 1 := by show (a ++ 61 :: (c ++ 61 :: d)).length = _; simp; omega
  unfold kvOf parts
  rw [hz, splitN_first _ a _ ha, splitN_first _ c d hc]
  have hne := splitN_ne (a.length + c.length + d.length) (⟨d.toArray⟩ : ByteArray)
  cases hsp : splitN (a.length + c.length + d.length) (⟨d.toArray⟩ : ByteArray) with
  | nil => exact absurd hsp hne
  | cons x r => rfl
end Go.Proofs.YtldiamldbpobgaaGreatDoor.Own
