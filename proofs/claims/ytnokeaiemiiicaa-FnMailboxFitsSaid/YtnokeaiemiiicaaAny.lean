/- zzIndexAny by hand: of two texts of ASCII the place of the first sign of the one that is a sign of the other, or -1. -/
import Derived.Test.YtnokeaiemiiicaaProg
import Derived.WalkKit
import Derived.WalkSpells
import Derived.WalkSmall
import Derived.Lib.OthersKept
import Derived.Lib.Hide
namespace Go.Proofs.Ytnokeaiemiiicaa.Own
open Go.RowKit
set_option linter.unusedVariables false
set_option linter.unusedSimpArgs false

def anyIdx (s t : ByteArray) : Int := match s.data.toList.findIdx? (fun c => t.data.toList.contains c) with | some k => (k : Int) | none => -1
def NoneTill (s t : ByteArray) (pos : Nat) : Prop := ∀ j c, j < pos → s.data.toList[j]? = some c → c ∉ t.data.toList
def NotIn (c : UInt8) (t : ByteArray) (q : Nat) : Prop := ∀ j d, j < q → t.data.toList[j]? = some d → c ≠ d
def Ascii (s : ByteArray) : Prop := ∀ i (h : i < s.size), (s[i]'h).toNat < 128

theorem byte_get (s : ByteArray) (i : Nat) (h : i < s.size) : s.data.toList[i]? = some (s[i]'h) := by
  rw [List.getElem?_eq_getElem (by simpa using h)]; simp; rfl
theorem anyIdx_hit (s t : ByteArray) (pos : Nat) (c : UInt8) (hn : NoneTill s t pos) (hc : s.data.toList[pos]? = some c) (hm : c ∈ t.data.toList) : anyIdx s t = (pos : Int) := by
  have : s.data.toList.findIdx? (fun c => t.data.toList.contains c) = some pos := by
    rw [List.findIdx?_eq_some_iff_getElem]
    have hp : pos < s.data.toList.length := by
      rcases Nat.lt_or_ge pos s.data.toList.length with h' | h'
      · exact h'
      · rw [List.getElem?_eq_none h'] at hc; cases hc
    refine ⟨hp, ?_, ?_⟩
    · rw [List.getElem?_eq_getElem hp] at hc
      cases hc
      simpa using hm
    · intro j hj
      have := hn j _ hj (List.getElem?_eq_getElem (by omega))
      simpa using this
  rw [anyIdx, this]
theorem anyIdx_none (s t : ByteArray) (hn : NoneTill s t s.size) : anyIdx s t = -1 := by
  have : s.data.toList.findIdx? (fun c => t.data.toList.contains c) = none := by
    rw [List.findIdx?_eq_none_iff]
    intro c hc
    obtain ⟨j, hj, rfl⟩ := List.mem_iff_getElem.1 hc
    have := hn j _ (by simpa using hj) (List.getElem?_eq_getElem hj)
    simpa using this
  rw [anyIdx, this]
theorem noneTill_step (s t : ByteArray) (pos : Nat) (c : UInt8) (hn : NoneTill s t pos) (hc : s.data.toList[pos]? = some c) (hi : NotIn c t t.size) : NoneTill s t (pos + 1) := by
  intro j d hj hd
  rcases Nat.lt_or_ge j pos with h | h
  · exact hn j d h hd
  · obtain rfl : j = pos := by omega
    rw [hc] at hd
    cases hd
    intro hm
    obtain ⟨i, hi', he⟩ := List.mem_iff_getElem.1 hm
    exact hi i c (by simpa using hi') (by rw [List.getElem?_eq_getElem hi', he]) rfl

set_option maxHeartbeats 1000000 in
theorem indexAny_any (s t : ByteArray) (w : World) (hs : s.size ≤ maxLen) (ht : t.size ≤ maxLen) (ha : Ascii s) (hat : Ascii t) :
    Calls Try.prog 48 #[.string s, .string t] w fun e w' => e = .returned (.int .i64 (anyIdx s t)) ∧ Below w.heap.size w w' := by
  unfold maxLen at hs ht
  go_enter Try.func48, Try.ntmps48
  go_wp2_with fail
  go_loopw [5] (fun _ wr => ∃ pos : Nat, pos ≤ s.size ∧ wr.heap[w.heap.size]? = some (.stringIter s pos) ∧ Below w.heap.size w wr ∧ NoneTill s t pos) (fun _ wr => s.size - wr.iterPos w.heap.size)
  case atStart => exact ⟨0, Nat.zero_le _, w.iter_heap s 0, (Below.refl _ _).alloc (Nat.le_refl _) _, fun j c h => by omega⟩
  case round =>
    obtain ⟨wx, rfl⟩ : ∃ wx : World, wx = wr := ⟨_, rfl⟩
    obtain ⟨pos, hpos, hit, hb, hn⟩ := hrel
    by_cases hp : pos < s.size
    · obtain ⟨c, hc0⟩ : ∃ c, c = s[pos]'hp := ⟨_, rfl⟩
      obtain ⟨wo, hwo⟩ : ∃ wo : World, wo = wx.iterAt w.heap.size s (pos + 1) := ⟨_, rfl⟩
      have hnx : ∀ ty, (Instr.next (.pointer (some ⟨w.heap.size, 0, none⟩)) true ty).run Try.prog wx = .ok (.tuple #[.bool true, .int .i64 pos, .int .i32 c.toNat]) wo := fun ty => by rw [hwo, hc0]; exact Lib.run_next_ascii_at wx w.heap.size s pos ty hit hp (ha pos hp)
      have hc := Lib.hid (show s.data.toList[pos]? = some c by rw [hc0]; exact byte_get s pos hp)
      have hit1 := Lib.hid (show wo.heap[w.heap.size]? = some (.stringIter s (pos + 1)) by rw [hwo]; exact Lib.iterAt_heap wx w.heap.size s pos (pos + 1) hit)
      have hb1 := Lib.hid (show Below w.heap.size w wo by rw [hwo]; exact Lib.below_iterAt hb (Nat.le_refl w.heap.size) s (pos + 1))
      have hn' := Lib.hid hn
      have hm1 := Lib.hid (iterPos_of hit)
      have hsz1 : w.heap.size < wo.heap.size := (Array.getElem?_eq_some_iff.1 hit1.out).1
      clear hit hb hn hwo hc0
      go_wp2_with fail
      clear hnx
      go_loopw [8] (fun _ wq => ∃ q : Nat, q ≤ t.size ∧ wq.heap[wo.heap.size]? = some (.stringIter t q) ∧ Below wo.heap.size wo wq ∧ NotIn c t q) (fun _ wq => t.size - wq.iterPos wo.heap.size)
      case atStart => exact ⟨0, Nat.zero_le _, wo.iter_heap t 0, (Below.refl _ _).alloc (Nat.le_refl _) _, fun j d h => by omega⟩
      case round =>
        obtain ⟨q, hq, hitq, hbq, hnq⟩ := hrel
        by_cases hqt : q < t.size
        · obtain ⟨d, hd0⟩ : ∃ d, d = t[q]'hqt := ⟨_, rfl⟩
          obtain ⟨wn, hwn⟩ : ∃ wn : World, wn = wr.iterAt wo.heap.size t (q + 1) := ⟨_, rfl⟩
          have hnx : ∀ ty, (Instr.next (.pointer (some ⟨wo.heap.size, 0, none⟩)) true ty).run Try.prog wr = .ok (.tuple #[.bool true, .int .i64 q, .int .i32 d.toNat]) wn := fun ty => by rw [hwn, hd0]; exact Lib.run_next_ascii_at wr wo.heap.size t q ty hitq hqt (hat q hqt)
          have hd := Lib.hid (show t.data.toList[q]? = some d by rw [hd0]; exact byte_get t q hqt)
          have hitn := Lib.hid (show wn.heap[wo.heap.size]? = some (.stringIter t (q + 1)) by rw [hwn]; exact Lib.iterAt_heap wr wo.heap.size t q (q + 1) hitq)
          have hbn := Lib.hid (show Below wo.heap.size wo wn by rw [hwn]; exact Lib.below_iterAt hbq (Nat.le_refl wo.heap.size) t (q + 1))
          have hmq := Lib.hid (iterPos_of hitq)
          have hnq' := Lib.hid hnq
          clear hitq hbq hnq hwn hd0
          by_cases hcd : c = d
          · have hfin := Lib.hid (anyIdx_hit s t pos c hn'.out hc.out (by
              have := hd.out; rw [← hcd] at this; exact List.mem_of_getElem? this))
            have hcd' : ((c.toNat : Int) == (d.toNat : Int)) = true := by rw [hcd]; simp
            have hcd2 := Lib.hid hcd
            clear hcd
            go_wp2
            go_ret
            refine ⟨?_, hb1.out.trans (hbn.out.mono (by omega))⟩
            show Ending.returned (Value.int .i64 (pos : Int)) = _
            rw [hfin.out]
          · have hcd' : ((c.toNat : Int) == (d.toNat : Int)) = false := by
              rw [beq_eq_false_iff_ne]; intro h; apply hcd; apply UInt8.toNat_inj.1; omega
            have hstep := Lib.hid (show NotIn c t (q + 1) from fun j x hj hx => by
              rcases Nat.lt_or_ge j q with h | h
              · exact hnq'.out j x h hx
              · obtain rfl : j = q := by omega
                rw [hd.out] at hx; cases hx; exact hcd)
            have hcd2 := Lib.hid hcd
            clear hcd
            go_wp2
            exact ⟨⟨q + 1, by omega, hitn.out, hbn.out, hstep.out⟩, by rw [iterPos_of hitn.out, hmq.out]; omega⟩
        · have hnx : ∀ ty, (Instr.next (.pointer (some ⟨wo.heap.size, 0, none⟩)) true ty).run Try.prog wr = .ok (.tuple #[.bool false]) wr := fun ty => Lib.run_next_end_at wr wo.heap.size t q ty hitq hqt
          have hstep := Lib.hid (noneTill_step s t pos c hn'.out hc.out (by obtain rfl : q = t.size := by omega
                                                                            exact hnq))
          have hitz := Lib.hid (show wr.heap[w.heap.size]? = some (.stringIter s (pos + 1)) by rw [hbq.block _ hsz1]; exact hit1.out)
          have hbz := Lib.hid (hb1.out.trans (hbq.mono (by omega)))
          clear hitq hbq hnq
          go_wp2
          exact ⟨⟨pos + 1, by omega, hitz.out, hbz.out, hstep.out⟩, by rw [iterPos_of hitz.out, hm1.out]; omega⟩
    · have hnx : ∀ ty, (Instr.next (.pointer (some ⟨w.heap.size, 0, none⟩)) true ty).run Try.prog wx = .ok (.tuple #[.bool false]) wx := fun ty => Lib.run_next_end_at wx w.heap.size s pos ty hit hp
      obtain rfl : pos = s.size := by omega
      have hf := Lib.hid (anyIdx_none s t hn)
      go_wp2
      go_ret
      refine ⟨?_, hb⟩
      show Ending.returned (Value.int .i64 (-1)) = _
      rw [hf.out]

def asciiB (s : ByteArray) : Bool := s.data.toList.all (fun c => decide (c.toNat < 128))
theorem ascii_of (s : ByteArray) (h : asciiB s = true) : Ascii s := fun i hi => by
  have := List.all_eq_true.1 h (s[i]'hi) (List.mem_of_getElem? (byte_get s i hi))
  simpa using this
/-- In the print's form. -/
def goimap_zzIndexAny.f (a0 : ByteArray) (a1 : ByteArray) : Option (Int) := if a0.size ≤ 9223372036854775807 ∧ a1.size ≤ 9223372036854775807 ∧ asciiB a0 = true ∧ asciiB a1 = true then some (anyIdx a0 a1) else none
theorem goimap_zzIndexAny.calls (a0 : ByteArray) (a1 : ByteArray) (r : Int) (w : World) (h : goimap_zzIndexAny.f a0 a1 = some r) :
    Calls Try.prog 48 #[.string a0, .string a1] w fun e w' => e = .returned (.int .i64 r) ∧ Below w.heap.size w w' := by
  unfold goimap_zzIndexAny.f at h
  split at h
  · rename_i hc
    obtain ⟨h1, h2, h3, h4⟩ := hc
    cases h
    exact indexAny_any a0 a1 w (by unfold maxLen; omega) (by unfold maxLen; omega) (ascii_of a0 h3) (ascii_of a1 h4)
  · cases h
end Go.Proofs.Ytnokeaiemiiicaa.Own
