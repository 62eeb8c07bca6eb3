/- gosmtp.zzReplaced by hand, at zzHexchar and the closure of decodeXtext. -/
import Derived.Test.YtoeggcckcnlllaaDoorXtP
import Derived.Test.YtoeggcckcnlllaaDoorXtCl
namespace Go.Proofs.YtoeggcckcnlllaaDoor.Own
open Go.RowKit Go.Lib Go.Proofs.YtoeggcckcnlllaaDoorW.PrintWords
set_option linter.unusedVariables false
set_option linter.unusedSimpArgs false

def ErrIs (bad : Bool) (ev : Value) : Prop := (bad = false → ev = .nilIface) ∧ (bad = true → ∃ T x, ev = .iface T x)
theorem app_empty (o : ByteArray) : o ++ (⟨#[]⟩ : ByteArray) = o := by
  apply ba_ext
  rw [app_list]
  exact List.append_nil _
theorem errIs_nil : ErrIs false .nilIface := ⟨(fun _ => rfl), (fun h => by cases h)⟩
theorem errIs_some (T : TypeId) (x : Value) : ErrIs true (.iface T x) := ⟨(fun h => by cases h), (fun _ => ⟨T, x, rfl⟩)⟩
def clV (b : Nat) : Value := .func (.func 18) #[] #[.pointer (some ⟨b, 0, none⟩)]
def hcV : Value := .func (.func 17) #[] #[]
/-- How far the replacing has come. -/
def Come (l : List UInt8) (i f : Nat) (o : List UInt8) (bad : Bool) : Prop :=
  l.length - i ≤ f ∧ o.length ≤ i ∧ o ++ (dx f (l.drop i)).1 = (dx l.length l).1 ∧ (bad || (dx f (l.drop i)).2) = (dx l.length l).2
theorem come_zero (l : List UInt8) : Come l 0 l.length [] false := ⟨by omega, by simp, by simp, by simp⟩
theorem come_end {l : List UInt8} {i f : Nat} {o : List UInt8} {bad : Bool} (h : Come l i f o bad) (hi : l.length ≤ i) : o = (dx l.length l).1 ∧ bad = (dx l.length l).2 := by
  obtain ⟨_, _, h1, h2⟩ := h
  rw [List.drop_eq_nil_of_le hi] at h1 h2
  have hz : dx f [] = ([], false) := by cases f <;> rfl
  rw [hz] at h1 h2
  simp at h1 h2
  exact ⟨h1, h2⟩
theorem dx_cons (n : Nat) (c : UInt8) (t : List UInt8) : dx (n + 1) (c :: t) =
    if c = 43 then
      if hexCnt t = 2 then
        if hv (t.getD 0 0) * 16 + hv (t.getD 1 0) < 128 then (UInt8.ofNat (hv (t.getD 0 0) * 16 + hv (t.getD 1 0)) :: (dx n (t.drop 2)).1, (dx n (t.drop 2)).2)
        else ((dx n (t.drop 2)).1, true)
      else ((dx n (t.drop (hexCnt t))).1, true)
    else (c :: (dx n t).1, (dx n t).2) := rfl
theorem come_plain {l : List UInt8} {i f : Nat} {o : List UInt8} {bad : Bool} (h : Come l i f o bad) {c : UInt8} (hc : l[i]? = some c) (h43 : c ≠ 43) : ∃ f', Come l (i + 1) f' (o ++ [c]) bad := by
  obtain ⟨h0, hl, h1, h2⟩ := h
  have hi : i < l.length := (List.getElem?_eq_some_iff.1 hc).1
  obtain ⟨f, rfl⟩ : ∃ n, f = n + 1 := ⟨f - 1, by omega⟩
  have hd : l.drop i = c :: l.drop (i + 1) := by
    rw [List.drop_eq_getElem_cons hi]
    rw [List.getElem?_eq_getElem hi] at hc
    rw [Option.some.inj hc]
  rw [hd] at h1 h2
  rw [dx_cons, if_neg h43] at h1 h2
  exact ⟨f, by omega, by simp; omega, by rw [List.append_assoc]; exact h1, h2⟩
theorem come_bad {l : List UInt8} {i f : Nat} {o : List UInt8} {bad : Bool} (h : Come l i f o bad) (hc : l[i]? = some 43) (m : Nat) (hm : hexCnt (l.drop (i + 1)) = m)
    (hbad : m = 2 → 128 ≤ hv ((l.drop (i + 1)).getD 0 0) * 16 + hv ((l.drop (i + 1)).getD 1 0)) : ∃ f', Come l (i + 1 + m) f' o true := by
  obtain ⟨h0, hl, h1, h2⟩ := h
  have hi : i < l.length := (List.getElem?_eq_some_iff.1 hc).1
  obtain ⟨f, rfl⟩ : ∃ n, f = n + 1 := ⟨f - 1, by omega⟩
  have hd : l.drop i = 43 :: l.drop (i + 1) := by
    rw [List.drop_eq_getElem_cons hi]
    rw [List.getElem?_eq_getElem hi] at hc
    rw [Option.some.inj hc]
  have hdd : (l.drop (i + 1)).drop m = l.drop (i + 1 + m) := by rw [List.drop_drop]
  rw [hd] at h1 h2
  rw [dx_cons, if_pos rfl, hm] at h1 h2
  refine ⟨f, by omega, by omega, ?_, ?_⟩
  · by_cases h22 : m = 2
    · rw [if_pos h22, if_neg (by have := hbad h22; omega)] at h1
      subst h22
      rw [← hdd]; exact h1
    · rw [if_neg h22] at h1
      rw [← hdd]; exact h1
  · by_cases h22 : m = 2
    · rw [if_pos h22, if_neg (by have := hbad h22; omega)] at h2
      rw [← h2]; simp
    · rw [if_neg h22] at h2
      rw [← h2]; simp
theorem come_good {l : List UInt8} {i f : Nat} {o : List UInt8} {bad : Bool} (h : Come l i f o bad) (hc : l[i]? = some 43) (hm : hexCnt (l.drop (i + 1)) = 2) (v : Nat)
    (hv' : hv ((l.drop (i + 1)).getD 0 0) * 16 + hv ((l.drop (i + 1)).getD 1 0) = v) (hlt : v < 128) : ∃ f', Come l (i + 3) f' (o ++ [UInt8.ofNat v]) bad := by
  obtain ⟨h0, hl, h1, h2⟩ := h
  have hi : i < l.length := (List.getElem?_eq_some_iff.1 hc).1
  obtain ⟨f, rfl⟩ : ∃ n, f = n + 1 := ⟨f - 1, by omega⟩
  have hd : l.drop i = 43 :: l.drop (i + 1) := by
    rw [List.drop_eq_getElem_cons hi]
    rw [List.getElem?_eq_getElem hi] at hc
    rw [Option.some.inj hc]
  have hdd : (l.drop (i + 1)).drop 2 = l.drop (i + 3) := by rw [List.drop_drop]
  rw [hd] at h1 h2
  rw [dx_cons, if_pos rfl, hm, if_pos rfl, hv', if_pos hlt, hdd] at h1 h2
  exact ⟨f, by omega, by simp; omega, by rw [List.append_assoc]; exact h1, h2⟩
/-- What stands behind a plus sign with two digits. -/
theorem ext_three {s : ByteArray} {i : Nat} (hc : s.data.toList[i]? = some 43) (hm : hexCnt (s.data.toList.drop (i + 1)) = 2) :
    ∃ x y, s.extract i (i + 3) = ⟨#[43, x, y]⟩ ∧ hexG x ∧ hexG y ∧ (s.data.toList.drop (i + 1)).getD 0 0 = x ∧ (s.data.toList.drop (i + 1)).getD 1 0 = y ∧ i + 3 ≤ s.size := by
  obtain ⟨x, y, t, ht, hx, hy⟩ := hexCnt_two hm
  have hi : i < s.data.toList.length := (List.getElem?_eq_some_iff.1 hc).1
  have hd : s.data.toList.drop i = 43 :: s.data.toList.drop (i + 1) := by
    rw [List.drop_eq_getElem_cons hi]
    rw [List.getElem?_eq_getElem hi] at hc
    rw [Option.some.inj hc]
  refine ⟨x, y, ?_, hx, hy, by rw [ht]; rfl, by rw [ht]; rfl, ?_⟩
  · apply ba_ext
    rw [ext_list, hd, ht]
    simp
  · have := congrArg List.length ht
    rw [List.length_drop] at this
    simp only [List.length_cons] at this
    rw [size_list]; omega
set_option maxRecDepth 100000 in
set_option maxHeartbeats 4000000 in
theorem replaced_any (s : ByteArray) (hs : s.size ≤ 1000000) (b : Nat) (w : World) (hv0 : Var b .nilIface w) (henv : EnvX w) (hgb : 1 < b) :
    Calls Tryd.prog 16 #[.string s, hcV, clV b] w fun e w' => ∃ r ev, e = .returned (.string r) ∧ r.data.toList = (dx s.data.toList.length s.data.toList).1 ∧ ErrIs (dx s.data.toList.length s.data.toList).2 ev ∧ Var b ev w' ∧ Below b w w' := by
  unfold hcV clV
  have hbl := lt_of_block hv0
  have hv0' := Lib.hid hv0
  have hE := Lib.hid henv
  have hG := Lib.hid hgb
  clear hv0 henv hgb
  go_enter Tryd.func16, Tryd.ntmps16
  go_wp2
  go_loopw [7, 8] (fun v7 v8 wr => ∃ (i f : Nat) (o : ByteArray) (bad : Bool) (ev : Value), i ≤ s.size ∧ v8 = .int .i64 i ∧ v7 = .string o ∧ Hid (Come s.data.toList i f o.data.toList bad) ∧ Hid (ErrIs bad ev) ∧ Hid (Var b ev wr) ∧ Hid (Below b w wr)) (fun _ v8 _ => s.size - (RowKit.intOf v8).toNat)
  case atStart => exact ⟨0, s.data.toList.length, ⟨#[]⟩, false, .nilIface, Nat.zero_le _, rfl, rfl, Lib.hid (come_zero _), Lib.hid errIs_nil, hv0', Lib.hid (Below.refl _ _)⟩
  case round =>
    obtain ⟨i, f, o, bad, ev, hi, rfl, rfl, hC, hEr, hV, hB⟩ := hrel
    have hos : o.size ≤ i := by rw [size_list]; exact hC.out.2.1
    by_cases hlt : i < s.size
    · have hil : i < s.data.toList.length := by rw [← size_list]; exact hlt
      obtain ⟨c, hc⟩ : ∃ c, s.data.toList[i]? = some c := ⟨_, List.getElem?_eq_getElem hil⟩
      have hh := Lib.hid (fun W => hexchar_any s hs i hlt W)
      have hc' := Lib.hid hc
      clear hc
      by_cases h43 : c = 43
      · subst h43
        obtain ⟨m, hm⟩ : ∃ m, m = hexCnt (s.data.toList.drop (i + 1)) := ⟨_, rfl⟩
        have hz : hexAt s i = 1 + m := by unfold hexAt; rw [hc'.out, if_pos rfl, hm]
        have hmle := hexCnt_le (s.data.toList.drop (i + 1))
        rw [← hm, List.length_drop, ← size_list] at hmle
        have hcall : Hid (∀ W, Calls Tryd.prog 17 #[.string s, .int .i64 i] W fun e w' => e = .returned (.int .i64 ((1 + m : Nat) : Int)) ∧ Drawn0 W w') := Lib.hid (fun W => by have := hh.out W; rw [hz] at this; exact this)
        have hEi : ∀ W, Below b w W → EnvX W := fun W hW => hE.out.at hG.out hW
        have hEi' := Lib.hid hEi
        by_cases hgood : m = 2 ∧ hv ((s.data.toList.drop (i + 1)).getD 0 0) * 16 + hv ((s.data.toList.drop (i + 1)).getD 1 0) < 128
        · obtain ⟨rfl, hv1⟩ := hgood
          obtain ⟨x, y, hex, hx, hy, ex, ey, hle⟩ := ext_three hc'.out hm.symm
          obtain ⟨v, hvv⟩ : ∃ v, hv x * 16 + hv y = v := ⟨_, rfl⟩
          rw [ex, ey, hvv] at hv1
          obtain ⟨f', hC'⟩ := come_good hC.out hc'.out hm.symm v (by rw [ex, ey, hvv]) hv1
          have hcl : Hid (∀ W, Var b ev W → Calls Tryd.prog 18 #[.string (s.extract i (i + 3)), .pointer (some ⟨b, 0, none⟩)] W fun e w' => e = .returned (.string ⟨#[UInt8.ofNat v]⟩) ∧ Var b ev w' ∧ Below b W w') := Lib.hid (fun W hW => by rw [hex]; exact cl_good x y hx hy v hvv hv1 b ev W hW)
          have hC2 : Hid (Come s.data.toList (i + 3) f' (o ++ ⟨#[UInt8.ofNat v]⟩ : ByteArray).data.toList bad) := Lib.hid (by rw [app_list]; exact hC')
          clear hex hx hy ex ey hvv hv1 hC' hm hz hmle hh hEi
          go_wp2_with fail
          refine (hcall.out _).mono ?_
          rintro e w1 ⟨rfl, hd⟩
          have hV1 := Lib.hid (show Var b ev w1 from (hd.below.block b (lt_of_block hV.out)).trans hV.out)
          have hB1 := Lib.hid (hB.out.trans (hd.below.mono (Nat.le_of_lt (lt_of_block hV.out))))
          clear hd
          go_wp2_with fail
          refine (hcl.out _ hV1.out).mono ?_
          rintro e w2 ⟨rfl, hV2, hB2⟩
          have hV2 := Lib.hid hV2
          have hB2 := Lib.hid (hB1.out.trans hB2)
          have one : (⟨#[UInt8.ofNat v]⟩ : ByteArray).size ≤ 1 := Nat.le_refl _
          go_wp2
          go_roundw
          case rel => exact ⟨i + 3, f', o ++ ⟨#[UInt8.ofNat v]⟩, bad, ev, by omega, by go_num, rfl, hC2, hEr, hV2, hB2⟩
          case measure => simp [RowKit.intOf]; omega
        · have hbad : m = 2 → 128 ≤ hv ((s.data.toList.drop (i + 1)).getD 0 0) * 16 + hv ((s.data.toList.drop (i + 1)).getD 1 0) := fun e => by
            rcases Nat.lt_or_ge (hv ((s.data.toList.drop (i + 1)).getD 0 0) * 16 + hv ((s.data.toList.drop (i + 1)).getD 1 0)) 128 with h | h
            · exact absurd ⟨e, h⟩ hgood
            · exact h
          obtain ⟨f', hC'⟩ := come_bad hC.out hc'.out m hm.symm hbad
          have hC2 : Hid (Come s.data.toList (i + 1 + m) f' o.data.toList true) := Lib.hid hC'
          have hcl : Hid (∀ W, Var b ev W → Below b w W → Calls Tryd.prog 18 #[.string (s.extract i (i + (1 + m))), .pointer (some ⟨b, 0, none⟩)] W fun e w' => ∃ T x, e = .returned (.string ⟨#[]⟩) ∧ Var b (.iface T x) w' ∧ Below b W w') := Lib.hid (fun W hW hbW => by
            by_cases h2 : m = 2
            · subst h2
              obtain ⟨x, y, hex, hx, hy, ex, ey, hle⟩ := ext_three hc'.out hm.symm
              have hb2 := hbad rfl
              rw [ex, ey] at hb2
              rw [show i + (1 + 2) = i + 3 from rfl, hex]
              exact cl_big x y hx hy hb2 b ev W (hEi'.out W hbW) hW
            · exact cl_short _ (by rw [ext_size]; omega) b ev W hW)
          have hsz2 : i + (1 + m) ≤ s.size := by omega
          clear hbad hC' hgood hm hz hh hEi
          go_wp2_with fail
          refine (hcall.out _).mono ?_
          rintro e w1 ⟨rfl, hd⟩
          have hV1 := Lib.hid (show Var b ev w1 from (hd.below.block b (lt_of_block hV.out)).trans hV.out)
          have hB1 := Lib.hid (hB.out.trans (hd.below.mono (Nat.le_of_lt (lt_of_block hV.out))))
          have n0 : (((1 + m : Nat) : Int) == 0) = false := by rw [beq_eq_false_iff_ne]; omega
          clear hd
          obtain ⟨n, hn⟩ : ∃ n, n = 1 + m := ⟨_, rfl⟩
          rw [← hn] at hcl hsz2 n0 ⊢
          have hn' := Lib.hid hn
          have hn1 : 1 ≤ n := by omega
          have hC3 : Hid (Come s.data.toList (i + n) f' o.data.toList true) := Lib.hid (by rw [hn, ← Nat.add_assoc]; exact hC2.out)
          clear hn hmle
          go_wp2_with fail
          refine (hcl.out _ hV1.out hB1.out).mono ?_
          rintro e w2 ⟨T, x, rfl, hV2, hB2⟩
          have hV2 := Lib.hid hV2
          have hB2 := Lib.hid (hB1.out.trans hB2)
          go_wp2
          go_roundw
          case rel => exact ⟨i + n, f', o, true, .iface T x, by omega, by go_num, by rw [app_empty], hC3, Lib.hid (errIs_some T x), hV2, hB2⟩
          case measure => simp [RowKit.intOf]; omega
      · have hz : hexAt s i = 0 := by unfold hexAt; rw [hc'.out, if_neg (fun e => h43 (Option.some.inj e))]
        have hcall : Hid (∀ W, Calls Tryd.prog 17 #[.string s, .int .i64 i] W fun e w' => e = .returned (.int .i64 0) ∧ Drawn0 W w') := Lib.hid (fun W => by have := hh.out W; rw [hz] at this; exact this)
        obtain ⟨f', hC'⟩ := come_plain hC.out hc'.out h43
        have hC2 : Hid (Come s.data.toList (i + 1) f' (o ++ s.extract i (i + 1)).data.toList bad) := Lib.hid (by
          rw [app_list, ext_list, List.drop_eq_getElem_cons hil]
          have := List.getElem?_eq_some_iff.1 hc'.out
          obtain ⟨_, e⟩ := this
          rw [e]
          simpa using hC')
        have hxs : (s.extract i (i + 1)).size ≤ 1 := by rw [ext_size]; omega
        clear hz hh hC' h43
        go_wp2_with fail
        refine (hcall.out _).mono ?_
        rintro e w1 ⟨rfl, hd⟩
        have hV1 := Lib.hid (show Var b ev w1 from (hd.below.block b (lt_of_block hV.out)).trans hV.out)
        have hB1 := Lib.hid (hB.out.trans (hd.below.mono (Nat.le_of_lt (lt_of_block hV.out))))
        clear hd
        go_wp2
        go_roundw
        case rel => exact ⟨i + 1, f', o ++ s.extract i (i + 1), bad, ev, by omega, by go_num, rfl, hC2, hEr, hV1, hB1⟩
        case measure => simp [RowKit.intOf]; omega
    · obtain rfl : i = s.size := by omega
      have hfin := Lib.hid (come_end hC.out (by rw [← size_list]; omega))
      go_wp2
      go_ret
      exact ⟨o, ev, rfl, hfin.out.1, by rw [← hfin.out.2]; exact hEr.out, hV.out, hB.out⟩
end Go.Proofs.YtoeggcckcnlllaaDoor.Own
