/- FnReadCommand holds at every line, plainly: on printable ASCII the code's word and rest are the reference's. No condition beyond the line's size. -/
import Derived.Test.YtnokeaiemiiicaaDoorPFnReadCommandx2
import Derived.Test.YtnokeaiemiiicaaDoorPlain
namespace Go.Proofs.YtnokeaiemiiicaaDoor.Pure
open Go.RowKit Go.Proofs.YtnokeaiemiiicaaDoor.PFnReadCommand Go.Proofs.YtnokeaiemiiicaaDoorW.PrintWords Go.Proofs.YtnokeaiemiiicaaDoorW.PrintLast Go.Proofs.YtnokeaiemiiicaaDoor.Own Go.Lib
set_option linter.unusedVariables false
set_option linter.unusedSimpArgs false

def prC (c : UInt8) : Bool := decide (32 ≤ c.toNat ∧ c.toNat < 127)
theorem print_tells (a : ByteArray) (ha : a.size ≤ 2147483647) : ∀ (d i : Nat), i + d = a.size → ∃ b, spec_Printable16.l0 (d + 1) a (i : Int) = some b ∧ (b = true → ∀ (j : Nat) (c : UInt8), i ≤ j → a.data.toList[j]? = some c → prC c = true)
  | 0, i, hd => ⟨true, by simp only [spec_Printable16.l0]; rw [if_neg (by omega)], fun _ j c hj hc => by
      rw [List.getElem?_eq_none (by rw [← size_list]; omega)] at hc; cases hc⟩
  | d + 1, i, hd => by
    have hi : i < a.data.toList.length := by rw [← size_list]; omega
    obtain ⟨c, hc⟩ : ∃ c, a.data.toList[i]? = some c := ⟨_, List.getElem?_eq_getElem hi⟩
    have hb := bt_some a i c hc
    simp only [spec_Printable16.l0]
    rw [if_pos (by omega), if_pos (by omega), hb]
    by_cases h1 : (c.toNat : Int) < 32
    · exact ⟨false, by rw [if_pos h1], fun h => by cases h⟩
    · rw [if_neg h1]
      by_cases h2 : (c.toNat : Int) > 126
      · exact ⟨false, by rw [if_pos h2], fun h => by cases h⟩
      · rw [if_neg h2, wrap_succ (by omega)]
        obtain ⟨b, hb1, hb2⟩ := print_tells a ha d (i + 1) (by omega)
        refine ⟨b, hb1, fun hbt j c' hj hc' => ?_⟩
        by_cases e : j = i
        · subst e
          rw [hc] at hc'
          cases hc'
          exact decide_eq_true ⟨by omega, by omega⟩
        · exact hb2 hbt j c' (by omega) hc'
def is32 (c : UInt8) : Bool := c == 32
def tailS (l : List UInt8) : List UInt8 := (l.reverse.dropWhile is32).reverse
theorem tailS_nil : tailS [] = [] := rfl
theorem tailS_snoc (l : List UInt8) (c : UInt8) : tailS (l ++ [c]) = if is32 c = true then tailS l else l ++ [c] := by
  unfold tailS
  rw [List.reverse_append, List.reverse_singleton, List.singleton_append, List.dropWhile_cons]
  by_cases h : is32 c = true
  · rw [if_pos h, if_pos h]
  · rw [if_neg h, if_neg h, List.reverse_cons, List.reverse_reverse]
theorem mk_list (l : List UInt8) : (⟨l.toArray⟩ : ByteArray).data.toList = l := rfl
theorem l1_tells : ∀ (n : Nat) (s : ByteArray), s.size = n → n ≤ 1000000 → ∃ k, spec_trimBlanks.l1 k s = some ⟨(tailS s.data.toList).toArray⟩
  | 0, s, hn, _ => by
    refine ⟨1, ?_⟩
    simp only [spec_trimBlanks.l1]
    rw [if_neg (by omega)]
    have : s.data.toList = [] := List.length_eq_zero_iff.1 (by rw [← size_list]; exact hn)
    congr 1
    apply ba_ext
    rw [this]; rfl
  | n + 1, s, hn, hle => by
    have hlen : s.data.toList.length = n + 1 := by rw [← size_list]; exact hn
    obtain ⟨c, hc⟩ : ∃ c, s.data.toList[n]? = some c := ⟨_, List.getElem?_eq_getElem (by omega)⟩
    have hb := bt_some s n c hc
    have hsp : s.data.toList = s.data.toList.take n ++ [c] := by
      have h1 : s.data.toList.take (n + 1) = s.data.toList := List.take_of_length_le (by omega)
      have h2 := List.take_succ_eq_append_getElem (l := s.data.toList) (i := n) (by omega)
      rw [h1] at h2
      rw [List.getElem?_eq_getElem (by omega)] at hc
      rw [Option.some.inj hc] at h2
      exact h2
    have hw : wrap64 ((s.size : Int) - 1) = (n : Int) := by rw [hn]; unfold wrap64; omega
    have hext : (s.extract 0 n).data.toList = s.data.toList.take n := by rw [ext_list]; simp
    obtain ⟨k, hk⟩ := l1_tells n (s.extract 0 n) (by rw [ext_size]; omega) (by omega)
    refine ⟨k + 1, ?_⟩
    simp only [spec_trimBlanks.l1]
    rw [if_pos (by omega), hw, if_pos (by omega), if_pos (by omega), hb]
    by_cases h32 : (c.toNat : Int) = 32
    · rw [if_pos h32, if_pos (by omega), Int.toNat_natCast, hk, hext, hsp, tailS_snoc, if_pos (by unfold is32; rw [beq_iff_eq]; exact UInt8.toNat_inj.1 (by show c.toNat = 32; omega))]
      rw [← hsp]
    · rw [if_neg h32]
      congr 1
      apply ba_ext
      rw [mk_list, hsp, tailS_snoc, if_neg (by unfold is32; rw [beq_iff_eq]; intro e; apply h32; rw [e]; rfl)]
theorem l0_tells : ∀ (n : Nat) (s : ByteArray), s.size = n → n ≤ 1000000 → ∃ k, spec_trimBlanks.l0 k s = some ⟨(tailS (s.data.toList.dropWhile is32)).toArray⟩
  | 0, s, hn, hle => by
    obtain ⟨k, hk⟩ := l1_tells 0 s hn hle
    refine ⟨k + 1 + 1, ?_⟩
    simp only [spec_trimBlanks.l0, spec_trimBlanks.j1]
    rw [if_neg (by omega), hk]
    have : s.data.toList = [] := List.length_eq_zero_iff.1 (by rw [← size_list]; exact hn)
    rw [this]; rfl
  | n + 1, s, hn, hle => by
    have hlen : s.data.toList.length = n + 1 := by rw [← size_list]; exact hn
    obtain ⟨c, t, hct⟩ : ∃ c t, s.data.toList = c :: t := by
      cases h : s.data.toList with
      | nil => rw [h] at hlen; simp at hlen
      | cons c t => exact ⟨c, t, rfl⟩
    have hb : bt s 0 = (c.toNat : Int) := bt_some s 0 c (by rw [hct]; rfl)
    by_cases h32 : (c.toNat : Int) = 32
    · have hi : is32 c = true := by unfold is32; rw [beq_iff_eq]; exact UInt8.toNat_inj.1 (by show c.toNat = 32; omega)
      obtain ⟨k, hk⟩ := l0_tells n (s.extract 1 s.size) (by rw [ext_size]; omega) (by omega)
      refine ⟨k + 1, ?_⟩
      simp only [spec_trimBlanks.l0]
      rw [if_pos (by omega), if_pos (by omega), hb, if_pos h32, if_pos (by omega), hk, ext_end, hct, List.dropWhile_cons, if_pos hi]
      rfl
    · have hi : ¬ is32 c = true := by unfold is32; rw [beq_iff_eq]; intro e; apply h32; rw [e]; rfl
      obtain ⟨k, hk⟩ := l1_tells (n + 1) s hn hle
      refine ⟨k + 1 + 1, ?_⟩
      simp only [spec_trimBlanks.l0, spec_trimBlanks.j1]
      rw [if_pos (by omega), if_pos (by omega), hb, if_neg h32, hk, hct, List.dropWhile_cons, if_neg hi]
theorem isSp_is32 {c : UInt8} (h : prC c = true) : isSp c = is32 c := by
  have h := of_decide_eq_true h
  unfold isSp is32
  have key : ∀ n : UInt8, n.toNat < 32 → (c == n) = false := fun n hn => by
    rw [beq_eq_false_iff_ne]; intro e; subst e; omega
  rw [key 9 (by decide), key 10 (by decide), key 11 (by decide), key 12 (by decide), key 13 (by decide)]
  rfl
theorem drop_same : ∀ (l : List UInt8), (∀ c ∈ l, prC c = true) → l.dropWhile isSp = l.dropWhile is32
  | [], _ => rfl
  | c :: l, h => by
    rw [List.dropWhile_cons, List.dropWhile_cons, isSp_is32 (h c (by simp)), drop_same l (fun x hx => h x (by simp [hx]))]
theorem trim_same (l : List UInt8) (h : ∀ c ∈ l, prC c = true) : Lib.trimSpace l = tailS (l.dropWhile is32) := by
  unfold Lib.trimSpace tailS
  rw [drop_same l h, drop_same _ (fun c hc => h c ((List.dropWhile_sublist _).subset (List.mem_reverse.1 hc)))]
theorem upperB_upB (c : UInt8) : upperB c = upB c := by
  unfold upperB upB isLowerB
  by_cases h : 97 ≤ c ∧ c ≤ 122
  · rw [if_pos (by simpa using h), if_pos h]
  · rw [if_neg (by simpa using h), if_neg h]
theorem up_upS (s : ByteArray) : Own.up s = upS s := by
  unfold Own.up toUpperA upS
  rw [show upperB = upB from funext upperB_upB]
theorem upS_list (s : ByteArray) : (upS s).data.toList = s.data.toList.map upB := rfl
theorem upS_size (s : ByteArray) : (upS s).size = s.size := by rw [size_list, upS_list, List.length_map, ← size_list]
theorem tl (s : ByteArray) : s.toList = s.data.toList := Lib.toList_data s
theorem start_iff (s : ByteArray) : isStart s = true ↔ 8 ≤ s.size ∧ (upS (s.extract 0 8)).toList = ([83, 84, 65, 82, 84, 84, 76, 83] : List UInt8) := by
  unfold isStart Lib.hasPrefix
  rw [List.isPrefixOf_iff_prefix, up_upS, upS_list, tl, upS_list, ext_list]
  simp only [List.drop_zero, Nat.sub_zero]
  rw [show startB.data.toList = ([83, 84, 65, 82, 84, 84, 76, 83] : List UInt8) from rfl, List.prefix_iff_eq_take]
  simp only [List.length_cons, List.length_nil]
  rw [← List.map_take]
  constructor
  · intro h
    refine ⟨?_, h.symm⟩
    have := congrArg List.length h
    simp only [List.length_map, List.length_take, List.length_cons, List.length_nil] at this
    rw [size_list]; omega
  · intro h
    exact h.2.symm
/-- What the reference tells of a line. -/
def refL (s : ByteArray) : ByteArray × ByteArray × Int × Bool :=
  if isStart s = true then (startB, ⟨#[]⟩, 0, true)
  else if s.size = 0 then (⟨#[]⟩, ⟨#[]⟩, 500, false)
  else match cmdL s with
    | some (a, b) => (a, b, 0, true)
    | none => (⟨#[]⟩, ⟨#[]⟩, 501, false)
theorem empty_iff (s : ByteArray) : s.toList = ([] : List UInt8) ↔ s.size = 0 := by
  rw [tl, size_list]; exact List.length_eq_zero_iff.symm
theorem cmd_tells (s : ByteArray) (hs : s.size ≤ 300) (hp : ∀ c ∈ s.data.toList, prC c = true) : ∃ k, spec_SmtpCommand.f k s = some (refL s) := by
  -- the second part
  have hj1n : ∀ k, spec_SmtpCommand.j1 (k + 1) s true = some (⟨#[]⟩, ⟨#[]⟩, 501, false) := fun k => by simp only [spec_SmtpCommand.j1, if_true]
  have hup : ∀ t : ByteArray, t.size ≤ 300 → spec_Upper.f t = some (upS t) := fun t ht => by unfold spec_Upper.f; rw [if_pos (by omega)]
  have hj0 : isStart s = false → ∃ k, spec_SmtpCommand.j0 k s false = some (refL s) := fun hst => by
    have hr : refL s = if s.size = 0 then ((⟨#[]⟩, ⟨#[]⟩, 500, false) : ByteArray × ByteArray × Int × Bool) else match cmdL s with | some (a, b) => (a, b, 0, true) | none => (⟨#[]⟩, ⟨#[]⟩, 501, false) := by unfold refL; rw [hst]; rfl
    rw [hr]
    by_cases h0 : s.size = 0
    · refine ⟨1, ?_⟩
      simp only [spec_SmtpCommand.j0]
      rw [if_neg (by decide), if_pos ((empty_iff s).2 h0), if_pos h0]
    rw [if_neg h0]
    have hne : ¬ s.toList = ([] : List UInt8) := fun e => h0 ((empty_iff s).1 e)
    unfold cmdL
    rw [hst, if_neg (by decide), if_neg h0]
    by_cases h3 : s.size < 4
    · refine ⟨1 + 1, ?_⟩
      simp only [spec_SmtpCommand.j0]
      rw [if_neg (by decide), if_neg hne, if_pos (by omega), hj1n, if_pos h3]
    rw [if_neg h3]
    by_cases h4 : s.size = 4
    · refine ⟨1 + 1, ?_⟩
      simp only [spec_SmtpCommand.j0]
      rw [if_neg (by decide), if_neg hne, if_neg (by omega), if_neg (by omega), if_neg (by omega)]
      simp only [spec_SmtpCommand.j1]
      rw [if_neg (by decide), if_pos (by omega), hup s (by omega), if_pos h4, up_upS]
      rfl
    rw [if_neg h4]
    by_cases h5 : s.size = 5
    · refine ⟨1 + 1, ?_⟩
      simp only [spec_SmtpCommand.j0]
      rw [if_neg (by decide), if_neg hne, if_neg (by omega), if_pos (by omega), hj1n, if_pos h5]
    rw [if_neg h5]
    obtain ⟨c, hc⟩ : ∃ c, s.data.toList[4]? = some c := ⟨_, List.getElem?_eq_getElem (by rw [← size_list]; omega)⟩
    have hb : bt s 4 = (c.toNat : Int) := bt_some s 4 c hc
    by_cases h32 : c = 32
    · subst h32
      obtain ⟨k, hk⟩ := l0_tells (s.extract 5 s.size).size (s.extract 5 s.size) rfl (by rw [ext_size]; omega)
      refine ⟨k + 1 + 1, ?_⟩
      simp only [spec_SmtpCommand.j0]
      rw [if_neg (by decide), if_neg hne, if_neg (by omega), if_neg (by omega), if_pos (by omega), if_pos (by omega), hb]
      simp only [spec_SmtpCommand.j1]
      rw [if_neg (by decide), if_neg (by omega), if_pos (by decide), if_pos (by omega), hup _ (by rw [ext_size]; omega)]
      simp only [Option.bind_some]
      rw [if_pos (by omega), show spec_trimBlanks.f k (s.extract 5 s.size) = _ from hk]
      simp only [Option.bind_some]
      rw [hc, if_pos rfl, up_upS]
      unfold Own.trimB
      rw [trim_same _ (fun c hc => hp c (by rw [ext_end] at hc; exact List.mem_of_mem_drop hc))]
    · refine ⟨1 + 1, ?_⟩
      simp only [spec_SmtpCommand.j0]
      have hne32 : ((c.toNat : Int) != 32) = true := by
        rw [bne_iff_ne]; intro e; exact h32 (UInt8.toNat_inj.1 (by show c.toNat = 32; omega))
      rw [if_neg (by decide), if_neg hne, if_neg (by omega), if_neg (by omega), if_pos (by omega), if_pos (by omega), hb, hne32, hj1n, hc, if_neg (by intro e; exact h32 (Option.some.inj e))]
  by_cases h8 : 8 ≤ s.size
  · by_cases hst : isStart s = true
    · refine ⟨1, ?_⟩
      unfold spec_SmtpCommand.f
      rw [if_pos (by omega), if_pos (by decide), if_pos (by omega), hup _ (by rw [ext_size]; omega)]
      simp only [Option.bind_some]
      rw [((start_iff s).1 hst).2]
      simp only [spec_SmtpCommand.j0, beq_self_eq_true, if_true]
      unfold refL
      rw [if_pos hst]
      rfl
    · obtain ⟨k, hk⟩ := hj0 (by simpa using hst)
      refine ⟨k, ?_⟩
      unfold spec_SmtpCommand.f
      rw [if_pos (by omega), if_pos (by decide), if_pos (by omega), hup _ (by rw [ext_size]; omega)]
      simp only [Option.bind_some]
      rw [show ((upS (s.extract 0 8)).toList == ([83, 84, 65, 82, 84, 84, 76, 83] : List UInt8)) = false by
        rw [beq_eq_false_iff_ne]; exact fun e => hst ((start_iff s).2 ⟨h8, e⟩)]
      exact hk
  · obtain ⟨k, hk⟩ := hj0 (by
      cases h : isStart s with
      | false => rfl
      | true => exact absurd ((start_iff s).1 h).1 h8)
    refine ⟨k, ?_⟩
    unfold spec_SmtpCommand.f
    rw [if_neg (by omega)]
    exact hk
theorem FnReadCommand : laws_FnReadCommand.Pure := by
  intro s hs
  by_cases h0 : (s.size : Int) > 2147483647
  · exact ⟨1, by unfold laws_FnReadCommand.f; rw [if_pos h0]⟩
  by_cases h1 : (s.size : Int) > 300
  · refine ⟨1, ?_⟩
    unfold laws_FnReadCommand.f
    rw [if_neg h0, if_pos h1]
    simp only [laws_FnReadCommand.j0, if_true]
  obtain ⟨b, hb1, hb2⟩ := print_tells s (by omega) s.size 0 (by omega)
  have hk : ∀ k, spec_Printable16.f (s.size + 1 + k) s = some b := fun k => at_rounds (spec_Printable16.mono s) (by omega) (show spec_Printable16.f (s.size + 1) s = some b from hb1)
  cases b with
  | false =>
    refine ⟨s.size + 1 + 1, ?_⟩
    unfold laws_FnReadCommand.f
    rw [if_neg h0, if_neg h1, hk]
    simp only [Option.bind_some, Bool.not_false, laws_FnReadCommand.j0, if_true]
  | true =>
    have hp : ∀ c ∈ s.data.toList, prC c = true := fun c hc => by
      obtain ⟨j, hj⟩ := List.mem_iff_getElem?.1 hc
      exact hb2 rfl j c (by omega) hj
    obtain ⟨k2, hk2⟩ := cmd_tells s (by omega) hp
    have hk2' : ∀ k, k2 ≤ k → spec_SmtpCommand.f k s = some (refL s) := fun k hle => at_rounds (spec_SmtpCommand.mono s) hle hk2
    refine ⟨s.size + 1 + k2 + 1, ?_⟩
    unfold laws_FnReadCommand.f
    rw [if_neg h0, if_neg h1, show s.size + 1 + k2 + 1 = s.size + 1 + (k2 + 1) from rfl, hk]
    simp only [Option.bind_some, Bool.not_true]
    rw [show s.size + 1 + (k2 + 1) = (s.size + 1 + k2) + 1 from rfl]
    simp only [laws_FnReadCommand.j0]
    rw [if_neg (by decide), hk2' _ (by omega)]
    simp only [Option.bind_some]
    unfold impl_ReadCommand.f
    rw [if_pos ⟨by omega, List.all_eq_true.2 fun c hc => hp c hc⟩]
    simp only [Option.bind_some]
    by_cases he : s.toList = ([] : List UInt8)
    · rw [if_pos he]
    rw [if_neg he]
    have hz : ¬ s.size = 0 := fun e => he ((empty_iff s).2 e)
    by_cases hst : isStart s = true
    · rw [show (refL s).1.toList = ([83, 84, 65, 82, 84, 84, 76, 83] : List UInt8) by unfold refL; rw [if_pos hst]; decide +kernel, if_pos rfl]
    · have hr : refL s = match cmdL s with | some (a, b) => (a, b, 0, true) | none => (⟨#[]⟩, ⟨#[]⟩, 501, false) := by unfold refL; rw [if_neg hst, if_neg hz]
      rw [hr]
      by_cases hw : (match cmdL s with | some (a, b) => ((a, b, 0, true) : ByteArray × ByteArray × Int × Bool) | none => (⟨#[]⟩, ⟨#[]⟩, 501, false)).1.toList = ([83, 84, 65, 82, 84, 84, 76, 83] : List UInt8)
      · rw [if_pos hw]
      rw [if_neg hw]
      cases hc : cmdL s with
      | none => simp
      | some x =>
        obtain ⟨a, b⟩ := x
        simp
end Go.Proofs.YtnokeaiemiiicaaDoor.Pure
