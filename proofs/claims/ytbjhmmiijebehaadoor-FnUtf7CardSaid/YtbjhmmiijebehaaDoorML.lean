/- A rune decoded at a byte that is no ASCII: it is no ASCII, and none of its bytes is. spec.Utf9 by hand: whether a text is UTF-8, in plain words. What spec.Utf7Of computes, in plain words: a machine that steps over the characters. No law of the program is proved here. -/
import Derived.Test.YtbjhmmiijebehaaDoorProg
import Derived.Test.YtbjhmmiijebehaaDoorMK
import Derived.Lib.DecodeN
import Derived.Lib.MapLaws
import Derived.Shelf.Unicode.DecodeSlow
import Derived.WalkKit
import Derived.WalkSpells
import Derived.WalkSmall
import Derived.Lib.OthersKept
import Derived.Lib.Hide
import Derived.Laws.RangeString
namespace Go.Proofs.YtbjhmmiijebehaaDoor.Own
open Go.Lib
set_option linter.unusedVariables false
theorem dec_hi (s : ByteArray) (pos : Nat) (h : pos < s.size) (ha : 128 ≤ (s.get! pos).toNat) :
    128 ≤ (Utf8.decode s pos).1 ∧ (Utf8.decode s pos).1 ≤ 1114111 ∧ 1 ≤ (Utf8.decode s pos).2 ∧ pos + (Utf8.decode s pos).2 ≤ s.size ∧ ∀ q, pos ≤ q → q < pos + (Utf8.decode s pos).2 → 128 ≤ (s.get! q).toNat := by
  rw [decode_at]
  obtain ⟨n, hn⟩ : ∃ n, s.size - pos = n := ⟨_, rfl⟩
  rw [hn]
  rcases decodeN_shape n (s.get! pos).toNat (s.get! (pos + 1)).toNat (s.get! (pos + 2)).toNat (s.get! (pos + 3)).toNat with h1 | h1 | h1 | h1 | h1
  · omega
  · obtain ⟨a1, a2, a3, a4, e⟩ := h1
    rw [e]
    refine ⟨a4, by omega, by show 1 ≤ 2; omega, by show pos + 2 ≤ _; omega, fun q h1 h2 => ?_⟩
    have h2 : q < pos + 2 := h2
    rcases (by omega : q = pos ∨ q = pos + 1) with rfl | rfl <;> omega
  · obtain ⟨a1, a2, a3, a4, a5, a6, e⟩ := h1
    rw [e]
    refine ⟨by show 128 ≤ _ + _; omega, by show _ + _ ≤ _; omega, by show 1 ≤ 3; omega, by show pos + 3 ≤ _; omega, fun q h1 h2 => ?_⟩
    have h2 : q < pos + 3 := h2
    rcases (by omega : q = pos ∨ q = pos + 1 ∨ q = pos + 2) with rfl | rfl | rfl <;> omega
  · obtain ⟨a1, a2, a3, a4, a5, a6, a7, e⟩ := h1
    rw [e]
    refine ⟨by show 128 ≤ _ + _; omega, a7, by show 1 ≤ 4; omega, by show pos + 4 ≤ _; omega, fun q h1 h2 => ?_⟩
    have h2 : q < pos + 4 := h2
    rcases (by omega : q = pos ∨ q = pos + 1 ∨ q = pos + 2 ∨ q = pos + 3) with rfl | rfl | rfl | rfl <;> omega
  · rw [h1]
    refine ⟨by show 128 ≤ 65533; omega, by show 65533 ≤ 1114111; omega, by show 1 ≤ 1; omega, by show pos + 1 ≤ _; omega, fun q h1 h2 => ?_⟩
    have h2 : q < pos + 1 := h2
    rcases (by omega : q = pos) with rfl
    exact ha
end Go.Proofs.YtbjhmmiijebehaaDoor.Own

namespace Go.Proofs.YtbjhmmiijebehaaDoor.Own
open Go.RowKit Go.Lib
set_option linter.unusedVariables false
set_option linter.unusedSimpArgs false

theorem get_any (l : List UInt8) (j : Nat) : (⟨l.toArray⟩ : ByteArray).get! j = l.getD j 0 := by
  rcases Nat.lt_or_ge j l.length with h | h
  · simp [ByteArray.get!, h]
  · simp [ByteArray.get!, h]; rfl
theorem ba_list (s : ByteArray) : (⟨s.data.toList.toArray⟩ : ByteArray) = s := by simp
theorem dec_drop (s : ByteArray) (pos : Nat) (h : pos < s.size) : Utf8.decode s pos = Lib.decodeGo ⟨(s.data.toList.drop pos).toArray⟩ := by
  have hl : s.data.toList.length = s.size := by simp
  have hz : (⟨(s.data.toList.drop pos).toArray⟩ : ByteArray).size = s.size - pos := by
    show ((s.data.toList.drop pos).toArray).size = _
    rw [List.size_toArray, List.length_drop, hl]
  have hg : ∀ j, (⟨(s.data.toList.drop pos).toArray⟩ : ByteArray).get! (0 + j) = s.get! (pos + j) := fun j => by
    rw [get_any, Nat.zero_add, show s.get! (pos + j) = (⟨s.data.toList.toArray⟩ : ByteArray).get! (pos + j) from congrArg (ByteArray.get! · (pos + j)) (ba_list s).symm, get_any, List.getD_eq_getElem?_getD, List.getD_eq_getElem?_getD, List.getElem?_drop]
  unfold Lib.decodeGo
  rw [if_neg (by omega), decode_at, decode_at, hz, hg 1, hg 2, hg 3]
  have := hg 0
  rw [Nat.add_zero, Nat.add_zero] at this
  rw [this, Nat.sub_zero]
theorem decGo_len (s : ByteArray) (pos : Nat) (h : pos < s.size) : 1 ≤ (Utf8.decode s pos).2 ∧ pos + (Utf8.decode s pos).2 ≤ s.size ∧ (Utf8.decode s pos).1 ≤ 1114111 := by
  rcases Nat.lt_or_ge (s.get! pos).toNat 128 with hlo | hhi
  · have e : Utf8.decode s pos = ((s.get! pos).toNat, 1) := by
      rw [decode_at]; unfold decodeN; rw [if_pos hlo]
    rw [e]
    exact ⟨Nat.le_refl _, h, by show (s.get! pos).toNat ≤ 1114111; omega⟩
  · obtain ⟨a1, a2, a3, a4, a5⟩ := dec_hi s pos h hhi
    exact ⟨a3, a4, a2⟩

/-- A place where no character stands. -/
def bad9 (l : List UInt8) : Bool := (Lib.decodeGo ⟨l.toArray⟩).1 == 65533 && (decide (l.length < 3) || l.take 3 != [239, 191, 189])
def utfL : Nat → List UInt8 → Bool
  | 0, _ => true
  | n + 1, l => if l = [] then true else !(bad9 l) && utfL n (l.drop (Lib.decodeGo ⟨l.toArray⟩).2)
theorem utfL_more : ∀ (n m : Nat) (l : List UInt8), l.length ≤ n → l.length ≤ m → utfL n l = utfL m l
  | 0, 0, l, _, _ => rfl
  | 0, m + 1, l, h, _ => by
    have : l = [] := List.eq_nil_of_length_eq_zero (by omega)
    subst this; simp [utfL]
  | n + 1, 0, l, _, h => by
    have : l = [] := List.eq_nil_of_length_eq_zero (by omega)
    subst this; simp [utfL]
  | n + 1, m + 1, l, hn, hm => by
    unfold utfL
    by_cases hl : l = []
    · rw [if_pos hl, if_pos hl]
    · rw [if_neg hl, if_neg hl]
      have hp := decGo_len ⟨l.toArray⟩ 0 (List.length_pos_iff.2 hl)
      rw [dec_drop _ 0 (List.length_pos_iff.2 hl)] at hp
      have hp1 : 1 ≤ (Lib.decodeGo ⟨l.toArray⟩).2 := by simpa using hp.1
      rw [utfL_more n m _ (by rw [List.length_drop]; omega) (by rw [List.length_drop]; omega)]
/-- A text is UTF-8. -/
def utf9 (l : List UInt8) : Bool := utfL l.length l
theorem utf9_nil : utf9 [] = true := rfl
theorem utf9_step (l : List UInt8) (h : l ≠ []) : utf9 l = (!(bad9 l) && utf9 (l.drop (Lib.decodeGo ⟨l.toArray⟩).2)) := by
  have hp := decGo_len ⟨l.toArray⟩ 0 (List.length_pos_iff.2 h)
  rw [dec_drop _ 0 (List.length_pos_iff.2 h)] at hp
  have hp1 : 1 ≤ (Lib.decodeGo ⟨l.toArray⟩).2 := by simpa using hp.1
  obtain ⟨n, hn⟩ : ∃ n, l.length = n + 1 := ⟨l.length - 1, by have := List.length_pos_iff.2 h; omega⟩
  unfold utf9
  rw [hn, utfL, if_neg h, utfL_more n _ (l.drop _) (by rw [List.length_drop]; omega) (Nat.le_refl _)]
theorem ext3 (s : ByteArray) (pos : Nat) : (!(s.extract pos (pos + 3)).toList == [239, 191, 189]) = ((s.data.toList.drop pos).take 3 != [239, 191, 189]) := by
  have e : (s.extract pos (pos + 3)).data.toList = (s.data.toList.drop pos).take 3 := by
    rw [ByteArray.data_extract]
    simp [Array.toList_extract, List.extract_eq_take_drop]
  rw [ByteArray.toList_eq, e]
  rfl
set_option maxHeartbeats 1000000 in
theorem utf9_any (s : ByteArray) (w : World) (hs : s.size ≤ 1000000) :
    Calls Tryd.prog 7 #[.string s] w fun e w' => e = .returned (.bool (utf9 s.data.toList)) ∧ Below w.heap.size w w' := by
  go_enter Tryd.func7, Tryd.ntmps7
  go_wp2_with fail
  go_loopw [3, 4] (fun _ _ wr => ∃ pos : Nat, pos ≤ s.size ∧ wr.heap[w.heap.size]? = some (.stringIter s pos) ∧ Below w.heap.size w wr ∧ Hid (utf9 s.data.toList = utf9 (s.data.toList.drop pos))) (fun _ _ wr => s.size - wr.iterPos w.heap.size)
  case atStart => exact ⟨0, Nat.zero_le _, w.iter_heap s 0, (Below.refl _ _).alloc (Nat.le_refl _) _, rfl⟩
  case round =>
    obtain ⟨wx, rfl⟩ : ∃ wx : World, wx = wr := ⟨_, rfl⟩
    obtain ⟨pos, hpos, hit, hb, hn⟩ := hrel
    by_cases hp : pos < s.size
    · obtain ⟨b1, b2, b3⟩ := decGo_len s pos hp
      have hne : s.data.toList.drop pos ≠ [] := by
        intro h0
        have := congrArg List.length h0
        simp at this; omega
      have hstep := utf9_step _ hne
      rw [← dec_drop s pos hp, List.drop_drop] at hstep
      have hbad : bad9 (s.data.toList.drop pos) = ((Utf8.decode s pos).1 == 65533 && (decide (s.size - pos < 3) || (s.data.toList.drop pos).take 3 != [239, 191, 189])) := by
        unfold bad9
        rw [← dec_drop s pos hp, List.length_drop]
        simp
      obtain ⟨r, hr0⟩ : ∃ r, r = (Utf8.decode s pos).1 := ⟨_, rfl⟩
      obtain ⟨d, hd0⟩ : ∃ d, d = (Utf8.decode s pos).2 := ⟨_, rfl⟩
      obtain ⟨wo, hwo⟩ : ∃ wo : World, wo = wx.iterAt w.heap.size s (pos + d) := ⟨_, rfl⟩
      have hnx : ∀ ty, (Instr.next (.pointer (some ⟨w.heap.size, 0, none⟩)) true ty).run Tryd.prog wx = .ok (.tuple #[.bool true, .int .i64 pos, .int .i32 r]) wo := fun ty => by rw [hwo, hd0, hr0]; exact Lib.run_next_any_at wx w.heap.size s pos ty hit hp
      rw [← hr0] at b3 hbad
      rw [← hd0] at b1 b2 hstep
      have hit1 := Lib.hid (show wo.heap[w.heap.size]? = some (.stringIter s (pos + d)) by rw [hwo]; exact Lib.iterAt_heap wx w.heap.size s pos (pos + d) hit)
      have hbb := Lib.hid (show Below w.heap.size w wo by rw [hwo]; exact Lib.below_iterAt hb (Nat.le_refl w.heap.size) s (pos + d))
      have hm1 := Lib.hid (iterPos_of hit)
      clear hit hb hwo hr0 hd0 hne
      have hlen : IntKind.i64.wrap ((s.size : Int) - (pos : Int)) = ((s.size - pos : Nat) : Int) := by rw [IntKind.wrap_i64]; omega
      have hb2' := Lib.hid b2
      clear b2
      by_cases hc : r = 65533
      · by_cases hl3 : s.size - pos < 3
        · have hl3' : (((s.size - pos : Nat) : Int)) < 3 := by omega
          have hv : utf9 s.data.toList = false := by rw [hn.out, hstep, hbad, hc]; simp [hl3]
          subst hc
          have hv' := Lib.hid hv
          clear hstep hbad hn hv
          go_wp2
          go_ret
          exact ⟨by rw [hv'.out]; rfl, hbb.out⟩
        · have hl3' : ¬ (((s.size - pos : Nat) : Int)) < 3 := by omega
          have hx := ext3 s pos
          have hw3 : IntKind.i64.wrap ((pos : Int) + 3) = ((pos + 3 : Nat) : Int) := by rw [IntKind.wrap_i64]; omega
          have hge : pos + 3 ≤ s.size := by omega
          by_cases hq : ((s.data.toList.drop pos).take 3 != [239, 191, 189]) = true
          · have hv : utf9 s.data.toList = false := by rw [hn.out, hstep, hbad, hc, hq]; simp
            rw [hq] at hx
            subst hc
            have hv' := Lib.hid hv
            clear hstep hbad hn hv hq
            go_wp2
            go_ret
            exact ⟨by rw [hv'.out]; rfl, hbb.out⟩
          · have hq' : ((s.data.toList.drop pos).take 3 != [239, 191, 189]) = false := by simpa using hq
            have hv := Lib.hid (show utf9 s.data.toList = utf9 (s.data.toList.drop (pos + d)) by rw [hn.out, hstep, hbad, hc, hq']; simp [hl3])
            rw [hq'] at hx
            subst hc
            clear hstep hbad hn hq hq'
            go_wp2
            exact ⟨⟨pos + d, hb2'.out, hit1.out, hbb.out, hv⟩, by rw [iterPos_of hit1.out, hm1.out]; omega⟩
      · have hc' : ((r : Int) == 65533) = false := by rw [beq_eq_false_iff_ne]; omega
        have hc2 : (r == 65533) = false := by rw [beq_eq_false_iff_ne]; exact hc
        have hv := Lib.hid (show utf9 s.data.toList = utf9 (s.data.toList.drop (pos + d)) by rw [hn.out, hstep, hbad, hc2]; simp)
        clear hstep hbad hn hc
        go_wp2
        exact ⟨⟨pos + d, hb2'.out, hit1.out, hbb.out, hv⟩, by rw [iterPos_of hit1.out, hm1.out]; omega⟩
    · have hnx : ∀ ty, (Instr.next (.pointer (some ⟨w.heap.size, 0, none⟩)) true ty).run Tryd.prog wx = .ok (.tuple #[.bool false]) wx := fun ty => Lib.run_next_end_at wx w.heap.size s pos ty hit hp
      obtain rfl : pos = s.size := by omega
      have hf : utf9 s.data.toList = true := by rw [hn.out, List.drop_of_length_le (by simp)]; rfl
      have hf' := Lib.hid hf
      clear hn hf
      go_wp2
      go_ret
      exact ⟨by rw [hf'.out]; rfl, hb⟩
end Go.Proofs.YtbjhmmiijebehaaDoor.Own

namespace Go.Proofs.YtbjhmmiijebehaaDoor.Own
open Go.RowKit Go.Lib
set_option linter.unusedVariables false
set_option linter.unusedSimpArgs false

structure St where
  out : List UInt8
  x : Nat
  m : Nat
  inn : Bool
def St.unit (s : St) (u : Nat) : St := ⟨s.out ++ drain (s.x * 65536 + u) (s.m + 16), (s.x * 65536 + u) % 2 ^ ((s.m + 16) % 6), (s.m + 16) % 6, s.inn⟩
def St.shut (s : St) : St := ⟨s.out ++ lastL s.x s.m ++ dashL s.inn, 0, 0, false⟩
def St.open_ (s : St) : St := ⟨s.out ++ (if s.inn then [] else [38]), s.x, s.m, true⟩
def St.say (s : St) (r : Nat) : St := ⟨s.out ++ [UInt8.ofNat r] ++ (if r = 38 then [45] else []), s.x, s.m, s.inn⟩
def St.step (s : St) (r : Nat) : St :=
  if 32 ≤ r ∧ r ≤ 126 then s.shut.say r
  else if 65535 < r then (s.open_.unit (55296 + (r - 65536) / 1024)).unit (56320 + (r - 65536) % 1024)
  else s.open_.unit r
structure St.Ok (s : St) : Prop where
  x : s.x < 64
  m : s.m < 6
theorem St.Ok.unit {s : St} (h : s.Ok) (u : Nat) : (s.unit u).Ok := by
  refine ⟨?_, Nat.mod_lt _ (by decide)⟩
  show (s.x * 65536 + u) % 2 ^ ((s.m + 16) % 6) < 64
  have h1 : 2 ^ ((s.m + 16) % 6) ≤ 2 ^ 6 := Nat.pow_le_pow_right (by decide) (by omega)
  have h2 : 0 < 2 ^ ((s.m + 16) % 6) := Nat.two_pow_pos _
  have h3 := Nat.mod_lt (s.x * 65536 + u) h2
  omega
theorem St.shut_ok (s : St) : s.shut.Ok := ⟨by show 0 < 64; decide, by show 0 < 6; decide⟩
theorem St.Ok.open_ {s : St} (h : s.Ok) : s.open_.Ok := ⟨h.x, h.m⟩
theorem St.Ok.say {s : St} (h : s.Ok) (r : Nat) : (s.say r).Ok := ⟨h.x, h.m⟩
theorem St.Ok.step {s : St} (h : s.Ok) (r : Nat) : (s.step r).Ok := by
  unfold St.step
  split
  · exact (St.shut_ok s).say r
  · split
    · exact (h.open_.unit _).unit _
    · exact h.open_.unit _
theorem St.unit_len {s : St} (h : s.Ok) (u : Nat) : (s.unit u).out.length ≤ s.out.length + 3 := by
  show (s.out ++ drain _ (s.m + 16)).length ≤ _
  rw [List.length_append, drain_len]
  have := h.m
  omega
theorem St.shut_len (s : St) : s.shut.out.length ≤ s.out.length + 2 := by
  show (s.out ++ lastL s.x s.m ++ dashL s.inn).length ≤ _
  unfold lastL dashL
  simp only [List.length_append]
  split <;> split <;> simp
theorem St.open_len (s : St) : s.open_.out.length ≤ s.out.length + 1 := by
  show (s.out ++ _).length ≤ _
  rw [List.length_append]
  split <;> simp
theorem St.say_len (s : St) (r : Nat) : (s.say r).out.length ≤ s.out.length + 2 := by
  show (s.out ++ [UInt8.ofNat r] ++ _).length ≤ _
  simp only [List.length_append]
  split <;> simp
theorem St.step_len {s : St} (h : s.Ok) (r : Nat) : (s.step r).out.length ≤ s.out.length + 8 := by
  unfold St.step
  split
  · have h1 := St.say_len s.shut r
    have h2 := St.shut_len s
    omega
  · have h1 := St.open_len s
    split
    · have h2 := St.unit_len h.open_ (55296 + (r - 65536) / 1024)
      have h3 := St.unit_len (h.open_.unit (55296 + (r - 65536) / 1024)) (56320 + (r - 65536) % 1024)
      omega
    · have h2 := St.unit_len h.open_ r
      omega

/-- The characters of bytes, as a range over them tells. -/
def rnL : Nat → List UInt8 → List Nat
  | 0, _ => []
  | n + 1, l => if l = [] then [] else (Lib.decodeGo ⟨l.toArray⟩).1 :: rnL n (l.drop (Lib.decodeGo ⟨l.toArray⟩).2)
theorem rnL_more : ∀ (n m : Nat) (l : List UInt8), l.length ≤ n → l.length ≤ m → rnL n l = rnL m l
  | 0, 0, l, _, _ => rfl
  | 0, m + 1, l, h, _ => by
    have : l = [] := List.eq_nil_of_length_eq_zero (by omega)
    subst this; simp [rnL]
  | n + 1, 0, l, _, h => by
    have : l = [] := List.eq_nil_of_length_eq_zero (by omega)
    subst this; simp [rnL]
  | n + 1, m + 1, l, hn, hm => by
    unfold rnL
    by_cases hl : l = []
    · rw [if_pos hl, if_pos hl]
    · rw [if_neg hl, if_neg hl]
      have hp := decGo_len ⟨l.toArray⟩ 0 (List.length_pos_iff.2 hl)
      rw [dec_drop _ 0 (List.length_pos_iff.2 hl)] at hp
      have hp1 : 1 ≤ (Lib.decodeGo ⟨l.toArray⟩).2 := by simpa using hp.1
      rw [rnL_more n m _ (by rw [List.length_drop]; omega) (by rw [List.length_drop]; omega)]
def rnF (l : List UInt8) : List Nat := rnL l.length l
theorem rnF_nil : rnF [] = [] := rfl
theorem rnF_step (l : List UInt8) (h : l ≠ []) : rnF l = (Lib.decodeGo ⟨l.toArray⟩).1 :: rnF (l.drop (Lib.decodeGo ⟨l.toArray⟩).2) := by
  have hp := decGo_len ⟨l.toArray⟩ 0 (List.length_pos_iff.2 h)
  rw [dec_drop _ 0 (List.length_pos_iff.2 h)] at hp
  have hp1 : 1 ≤ (Lib.decodeGo ⟨l.toArray⟩).2 := by simpa using hp.1
  obtain ⟨n, hn⟩ : ∃ n, l.length = n + 1 := ⟨l.length - 1, by have := List.length_pos_iff.2 h; omega⟩
  unfold rnF
  rw [hn, rnL, if_neg h, rnL_more n _ (l.drop _) (by rw [List.length_drop]; omega) (Nat.le_refl _)]
/-- What the reference says. -/
def utfOf (l : List UInt8) : List UInt8 := ((rnF l).foldl St.step ⟨[], 0, 0, false⟩).shut.out
end Go.Proofs.YtbjhmmiijebehaaDoor.Own
