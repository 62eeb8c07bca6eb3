/- FnUnxtext holds at every text, plainly: where the reference is sure, the code's decoding tells the same. No condition beyond the text's size. -/
import Derived.Test.YtnokeaiemiiicaaDoorPFnUnxtextx1
import Derived.Test.YtnokeaiemiiicaaDoorPlain
namespace Go.Proofs.YtnokeaiemiiicaaDoor.Pure
open Go.RowKit Go.Proofs.YtnokeaiemiiicaaDoor.PFnUnxtext Go.Proofs.YtnokeaiemiiicaaDoorW.PrintWords Go.Proofs.YtnokeaiemiiicaaDoorW.PrintLast Go.Proofs.YtnokeaiemiiicaaDoor.Own
set_option linter.unusedVariables false
set_option linter.unusedSimpArgs false

theorem plainX_tells (c : UInt8) : ∃ b, spec_plainX.f (c.toNat : Int) = some b := by
  unfold spec_plainX.f
  repeat' split
  all_goals exact ⟨_, rfl⟩
theorem hexGreat_tells (c : UInt8) (k : Nat) : spec_hexGreat.f (k + 1) (c.toNat : Int) = some (if hexB c = true then ((hv c : Nat) : Int) else 0, hexB c) := by
  unfold spec_hexGreat.f hexB hv
  by_cases h1 : 48 ≤ c.toNat
  · rw [if_pos (by omega)]
    simp only [spec_hexGreat.j0]
    by_cases h2 : c.toNat ≤ 57
    · rw [if_pos (by rw [decide_eq_true_eq]; omega), if_pos (by rw [decide_eq_true_eq]; omega), if_pos h2]
      congr 1
      refine Prod.ext ?_ ?_
      · show ((c.toNat : Int) - 48) % 256 = _; omega
      · symm; rw [decide_eq_true_eq]; omega
    · rw [if_neg (by rw [decide_eq_true_eq]; omega)]
      by_cases h3 : 65 ≤ c.toNat ∧ c.toNat ≤ 70
      · rw [if_pos (by omega), if_pos (by omega), if_pos (by rw [decide_eq_true_eq]; omega), if_neg h2]
        congr 1
        refine Prod.ext ?_ ?_
        · show (((c.toNat : Int) - 65) % 256 + 10) % 256 = _; omega
        · symm; rw [decide_eq_true_eq]; omega
      · have e : decide ((48 ≤ c.toNat ∧ c.toNat ≤ 57) ∨ (65 ≤ c.toNat ∧ c.toNat ≤ 70)) = false := by rw [decide_eq_false_iff_not]; omega
        rw [e, if_neg (show ¬ (false = true) by decide)]
        by_cases h4 : 65 ≤ c.toNat
        · rw [if_pos (by omega), if_neg (by omega)]
        · rw [if_neg (by omega)]
  · rw [if_neg (by omega)]
    simp only [spec_hexGreat.j0]
    rw [if_neg (by decide), if_neg (by omega), if_neg (by rw [decide_eq_true_eq]; omega)]
    congr 1
    refine Prod.ext rfl ?_
    symm; rw [decide_eq_false_iff_not]; omega
theorem or_small : ∀ a : Nat, a < 16 → ∀ b : Nat, b < 16 → Go.bits .or .u8 (((a : Int) * 16) % 256) (b : Int) = ((a * 16 + b : Nat) : Int) := by decide +kernel
theorem nums_one (n : Nat) : strOfNums [(n : Int)] = ⟨#[UInt8.ofNat n]⟩ := by
  unfold strOfNums
  simp
/-- What the reference tells from a place on, held against the code's. -/
def Told (out : ByteArray) (l : List UInt8) (n : Nat) (r : ByteArray × Bool × Bool) : Prop :=
  r.2.2 = true → (r.2.1 = true → r.1.data.toList = out.data.toList ++ (dx n l).1 ∧ (dx n l).2 = false) ∧ (r.2.1 = false → (dx n l).2 = true)
theorem hexCnt_xy (x y : UInt8) (t : List UInt8) : hexCnt (x :: y :: t) = 2 ↔ hexB x = true ∧ hexB y = true := by
  simp only [hexCnt]
  by_cases h1 : hexB x = true
  · rw [if_pos h1]
    by_cases h2 : hexB y = true
    · rw [if_pos h2]; simp [h1, h2]
    · rw [if_neg h2]; simp [h2]
  · rw [if_neg h1]; simp [h1]
theorem bad_of {n : Nat} {t : List UInt8} (h : hexCnt t ≠ 2) : (dx (n + 1) (43 :: t)).2 = true := by
  rw [dx_cons, if_pos rfl, if_neg h]
theorem dx_two {x y : UInt8} (n : Nat) (t : List UInt8) (hx : hexB x = true) (hy : hexB y = true) : dx (n + 1) (43 :: x :: y :: t) =
    if hv x * 16 + hv y < 128 then (UInt8.ofNat (hv x * 16 + hv y) :: (dx n t).1, (dx n t).2) else ((dx n t).1, true) := by
  rw [dx_cons, if_pos rfl, if_pos ((hexCnt_xy x y t).2 ⟨hx, hy⟩)]
  simp only [List.getD_cons_zero, List.getD_cons_succ, List.drop_succ_cons, List.drop_zero]
def Goes (s : ByteArray) (i n : Nat) (out : ByteArray) : Prop := ∃ k r, spec_Unxtext.l0 k s out (i : Int) = some r ∧ Told out (s.data.toList.drop i) n r
theorem told_end {out : ByteArray} {n : Nat} : Told out [] n (out, true, true) := by
  have hz : dx n [] = ([], false) := by cases n <;> rfl
  unfold Told
  rw [hz]
  exact fun _ => ⟨fun _ => ⟨by simp, rfl⟩, fun h => by cases h⟩
theorem told_no {out : ByteArray} {n : Nat} {l : List UInt8} (h : (dx n l).2 = true) : Told out l n (⟨#[]⟩, false, true) := by
  unfold Told
  exact fun _ => ⟨(fun h => by cases h), fun _ => h⟩
theorem told_unsure {out : ByteArray} {n : Nat} {l : List UInt8} {o : ByteArray} {b : Bool} : Told out l n (o, b, false) := by
  unfold Told
  exact fun h => by cases h
theorem told_more {out m : ByteArray} {c : UInt8} {n : Nat} {l l' : List UInt8} {r : ByteArray × Bool × Bool} (hm : m.data.toList = [c]) (hd : dx (n + 1) l = (c :: (dx n l').1, (dx n l').2)) (hr : Told (out ++ m) l' n r) : Told out l (n + 1) r := by
  intro hsure
  obtain ⟨g1, g2⟩ := hr hsure
  rw [hd]
  refine ⟨fun hok => ?_, fun hno => g2 hno⟩
  obtain ⟨e1, e2⟩ := g1 hok
  refine ⟨?_, e2⟩
  rw [e1, app_list, hm, List.append_assoc]
  rfl
theorem goes_end (s : ByteArray) (i n : Nat) (out : ByteArray) (h : s.size ≤ i) : Goes s i n out := by
  refine ⟨1, (out, true, true), ?_, ?_⟩
  · simp only [spec_Unxtext.l0]
    rw [if_neg (by omega)]
  · rw [List.drop_eq_nil_of_le (by rw [← size_list]; omega)]
    exact told_end
theorem drop_at {s : ByteArray} {i : Nat} {c : UInt8} (hc : s.data.toList[i]? = some c) : s.data.toList.drop i = c :: s.data.toList.drop (i + 1) := by
  obtain ⟨h1, h2⟩ := List.getElem?_eq_some_iff.1 hc
  rw [List.drop_eq_getElem_cons h1, h2]
theorem goes_plain (s : ByteArray) (hs : s.size ≤ 2147483647) (i n : Nat) (out : ByteArray) (hi : i < s.size) (ho : out.size ≤ i) (c : UInt8) (hc : s.data.toList[i]? = some c) (h43 : ¬ c = 43)
    (ih : ∀ m : ByteArray, m.data.toList = [c] → Goes s (i + 1) n (out ++ m)) : Goes s i (n + 1) out := by
  have w1 : wrap64 ((i : Int) + 1) = ((i + 1 : Nat) : Int) := by unfold wrap64; omega
  have hdr := drop_at hc
  have hb : bt s (i : Int) = (c.toNat : Int) := bt_some s i c hc
  obtain ⟨b, hpl⟩ := plainX_tells c
  have hne : ¬ (c.toNat : Int) = 43 := fun e => h43 (UInt8.toNat_inj.1 (by show c.toNat = 43; omega))
  cases b with
  | false =>
    refine ⟨1, (⟨#[]⟩, false, false), ?_, told_unsure⟩
    simp only [spec_Unxtext.l0]
    rw [if_pos (by omega), if_pos (by omega), hb, if_neg hne, hpl]
    simp only [Option.bind_some]
    rw [if_neg (by decide)]
  | true =>
    have hex : (s.extract i (i + 1)).data.toList = [c] := by
      rw [ext_list, hdr]; simp
    have hexs : (s.extract i (i + 1)).size = 1 := by rw [size_list, hex]; rfl
    obtain ⟨k, r, hk, hr⟩ := ih (s.extract i (i + 1)) hex
    refine ⟨k + 1, r, ?_, ?_⟩
    · simp only [spec_Unxtext.l0]
      rw [if_pos (by omega), if_pos (by omega), hb, if_neg hne, hpl]
      rw [Option.bind_some, if_pos rfl, w1, if_pos (by omega), if_pos (by omega), Int.toNat_natCast, Int.toNat_natCast, hexs, if_pos (by omega)]
      exact hk
    · rw [hdr]
      exact told_more hex (by rw [dx_cons, if_neg h43]) hr
theorem goes_short (s : ByteArray) (hs : s.size ≤ 2147483647) (i n : Nat) (out : ByteArray) (hi : i < s.size) (hc : s.data.toList[i]? = some 43) (h2 : s.size ≤ i + 2) : Goes s i (n + 1) out := by
  have w2 : wrap64 ((i : Int) + 2) = ((i + 2 : Nat) : Int) := by unfold wrap64; omega
  have hb : bt s (i : Int) = 43 := bt_some s i 43 hc
  refine ⟨1, (⟨#[]⟩, false, true), ?_, ?_⟩
  · simp only [spec_Unxtext.l0]
    rw [if_pos (by omega), if_pos (by omega), hb, if_pos rfl, w2, if_pos (by omega)]
  · rw [drop_at hc]
    refine told_no (bad_of (fun e => ?_))
    obtain ⟨x, y, t, ht, _, _⟩ := hexCnt_two e
    have := congrArg List.length ht
    rw [List.length_drop, ← size_list] at this
    simp only [List.length_cons] at this
    omega
theorem l0_plus (s : ByteArray) (hs : s.size ≤ 2147483647) (i : Nat) (out : ByteArray) (h2 : i + 2 < s.size) (hc : s.data.toList[i]? = some 43) (x y : UInt8) (hx : s.data.toList[i + 1]? = some x) (hy : s.data.toList[i + 2]? = some y) (k : Nat) :
    spec_Unxtext.l0 (k + 1 + 1) s out (i : Int) = spec_Unxtext.j1 (k + 1) s out (i : Int) (if hexB x = true then ((hv x : Nat) : Int) else 0) (if hexB y = true then ((hv y : Nat) : Int) else 0) (if hexB x = true then !hexB y else true) := by
  have w1 : wrap64 ((i : Int) + 1) = ((i + 1 : Nat) : Int) := by unfold wrap64; omega
  have w2 : wrap64 ((i : Int) + 2) = ((i + 2 : Nat) : Int) := by unfold wrap64; omega
  have hb : bt s (i : Int) = 43 := bt_some s i 43 hc
  simp only [spec_Unxtext.l0]
  rw [if_pos (by omega), if_pos (by omega), hb, if_pos rfl, w2, if_neg (by omega), w1, if_pos (by omega), if_pos (by omega), bt_some s _ x hx, hexGreat_tells]
  simp only [Option.bind_some]
  rw [if_pos (by omega), if_pos (by omega), bt_some s _ y hy, hexGreat_tells]
  simp only [Option.bind_some]
  by_cases hx' : hexB x = true
  · rw [if_pos hx', if_pos hx', if_pos hx']
  · rw [if_neg hx', if_neg hx', if_neg hx']
theorem goes_plus (s : ByteArray) (hs : s.size ≤ 2147483647) (i n : Nat) (out : ByteArray) (h2 : i + 2 < s.size) (ho : out.size ≤ i) (hc : s.data.toList[i]? = some 43)
    (ih : ∀ m : ByteArray, m.data.toList.length = 1 → Goes s (i + 3) n (out ++ m)) : Goes s i (n + 1) out := by
  have hsz := size_list s
  obtain ⟨x, hx⟩ : ∃ x, s.data.toList[i + 1]? = some x := ⟨_, List.getElem?_eq_getElem (by omega)⟩
  obtain ⟨y, hy⟩ : ∃ y, s.data.toList[i + 2]? = some y := ⟨_, List.getElem?_eq_getElem (by omega)⟩
  have w2 : wrap64 ((i : Int) + 2) = ((i + 2 : Nat) : Int) := by unfold wrap64; omega
  have w3 : wrap64 (((i + 2 : Nat) : Int) + 1) = ((i + 3 : Nat) : Int) := by unfold wrap64; omega
  have hstep := l0_plus s hs i out h2 hc x y hx hy
  have d0 : s.data.toList.drop i = 43 :: x :: y :: s.data.toList.drop (i + 3) := by rw [drop_at hc, drop_at hx, drop_at hy]
  by_cases hxy : hexB x = true ∧ hexB y = true
  · obtain ⟨hx', hy'⟩ := hxy
    have a16 := hv_lt (hexB_iff.1 hx')
    have b16 := hv_lt (hexB_iff.1 hy')
    have hd2 := dx_two n (s.data.toList.drop (i + 3)) hx' hy'
    rw [hx', hy'] at hstep
    simp only [if_true, Bool.not_true] at hstep
    by_cases h7 : hv x > 7
    · refine ⟨1 + 1, (⟨#[]⟩, false, true), ?_, ?_⟩
      · rw [hstep 0]
        simp only [spec_Unxtext.j1]
        rw [if_neg (by decide), if_pos (by omega), decide_eq_true (by omega : ((hv x : Nat) : Int) > 7)]
      · rw [d0]
        exact told_no (by rw [hd2, if_neg (by omega)])
    · by_cases h1 : hv x < 1
      · refine ⟨1 + 1, (⟨#[]⟩, false, false), ?_, told_unsure⟩
        rw [hstep 0]
        simp only [spec_Unxtext.j1]
        rw [if_neg (by decide), if_neg (by omega), if_pos (by omega), decide_eq_false (by omega : ¬ ((hv x : Nat) : Int) > 7)]
      · have hnum : strOfNums [Go.bits .or .u8 (((hv x : Nat) : Int) * 16 % 256) ((hv y : Nat) : Int)] = ⟨#[UInt8.ofNat (hv x * 16 + hv y)]⟩ := by rw [or_small _ a16 _ b16, nums_one]
        obtain ⟨m, hm⟩ : ∃ m : ByteArray, m = ⟨#[UInt8.ofNat (hv x * 16 + hv y)]⟩ := ⟨_, rfl⟩
        have hml : m.data.toList = [UInt8.ofNat (hv x * 16 + hv y)] := by rw [hm]
        have hone : m.size = 1 := by rw [size_list, hml]; rfl
        rw [← hm] at hnum
        obtain ⟨k, r, hk, hr⟩ := ih m (by rw [hml]; rfl)
        refine ⟨k + 1 + 1, r, ?_, ?_⟩
        · rw [hstep k]
          simp only [spec_Unxtext.j1]
          rw [if_neg (by decide), if_neg (by omega), if_neg (by omega)]
          simp only [Option.bind_some]
          rw [hnum, hone, if_pos (by omega), w2, w3]
          exact hk
        · rw [d0]
          exact told_more hml (by rw [hd2, if_pos (by omega)]) hr
  · refine ⟨1 + 1, (⟨#[]⟩, false, true), ?_, ?_⟩
    · rw [hstep 0]
      simp only [spec_Unxtext.j1]
      rw [if_pos]
      by_cases hx' : hexB x = true
      · rw [if_pos hx']
        cases hy' : hexB y with
        | false => rfl
        | true => exact absurd ⟨hx', hy'⟩ hxy
      · rw [if_neg hx']
    · rw [d0]
      exact told_no (bad_of (fun e => hxy ((hexCnt_xy _ _ _).1 e)))
theorem unx_run (s : ByteArray) (hs : s.size ≤ 2147483647) : ∀ (d i n : Nat) (out : ByteArray), s.size - i ≤ d → s.size - i ≤ n → out.size ≤ i → Goes s i n out := by
  intro d
  induction d with
  | zero => exact fun i n out hd hn ho => goes_end s i n out (by omega)
  | succ d ih =>
    intro i n out hd hn ho
    by_cases hlt : i < s.size
    · obtain ⟨c, hc⟩ : ∃ c, s.data.toList[i]? = some c := ⟨_, List.getElem?_eq_getElem (by rw [← size_list]; exact hlt)⟩
      obtain ⟨n, rfl⟩ : ∃ m, n = m + 1 := ⟨n - 1, by omega⟩
      have grow : ∀ m : ByteArray, m.data.toList.length = 1 → (out ++ m).size ≤ i + 1 := fun m hm => by
        rw [size_list, app_list, List.length_append, ← size_list, hm]; omega
      by_cases h43 : c = 43
      · subst h43
        by_cases h2 : i + 2 < s.size
        · exact goes_plus s hs i n out h2 ho hc (fun m hm => ih (i + 3) n _ (by omega) (by omega) (by have := grow m hm; omega))
        · exact goes_short s hs i n out hlt hc (by omega)
      · exact goes_plain s hs i n out hlt ho c hc h43 (fun m hm => ih (i + 1) n _ (by omega) (by omega) (grow m (by rw [hm]; rfl)))
    · exact goes_end s i n out (by omega)
theorem FnUnxtext : laws_FnUnxtext.Pure := by
  intro s hs
  by_cases h0 : (s.size : Int) > 2147483647
  · exact ⟨1, by unfold laws_FnUnxtext.f; rw [if_pos h0]⟩
  obtain ⟨k, r, hk, hr⟩ := unx_run s (by omega) s.size 0 s.data.toList.length ⟨#[]⟩ (by omega) (by rw [← size_list]; omega) (by decide)
  refine ⟨k, ?_⟩
  unfold laws_FnUnxtext.f
  rw [if_neg h0, show spec_Unxtext.f k s = some r from hk]
  simp only [Option.bind_some]
  by_cases hsure : r.2.2 = true
  · rw [if_pos hsure]
    by_cases h3 : (s.size : Int) > 300
    · rw [if_pos h3]
    · rw [if_neg h3]
      obtain ⟨g1, g2⟩ := hr hsure
      rw [List.drop_zero] at g1 g2
      unfold impl_Unxtext.f
      rw [if_pos (by omega)]
      simp only [Option.bind_some]
      cases hok : r.2.1 with
      | true =>
        obtain ⟨e1, e2⟩ := g1 hok
        have hb : dxBad s = false := e2
        rw [hb]
        simp only [Bool.not_false, beq_self_eq_true, if_true]
        rw [decB_no hb, show r.1 = dxB s from ba_ext (by rw [e1]; rfl)]
        simp
      | false =>
        have hb : dxBad s = true := g2 hok
        rw [hb]
        simp
  · rw [if_neg hsure]
end Go.Proofs.YtnokeaiemiiicaaDoor.Pure
