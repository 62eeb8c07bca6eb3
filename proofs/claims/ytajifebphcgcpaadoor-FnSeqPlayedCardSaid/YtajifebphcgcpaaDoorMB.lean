/- Plain lemmas on texts as lists of bytes and on the print's words; no program. A rune decoded at a byte that is no ASCII: it is no ASCII, and none of its bytes is. zzIndexRune of a colon, by hand, in any bytes. goimap.parseSeqNumber by hand. goimap.parseSeq by hand. zzIndex of a comma (printed), plainly. zzSplit at commas, by hand. -/
import Derived.Test.YtajifebphcgcpaaDoorWWords
import Derived.Test.YtajifebphcgcpaaDoorProg
import Derived.Test.YtajifebphcgcpaaDoorShelfC
import Derived.Test.YtajifebphcgcpaaDoorMA
import Derived.Test.YtajifebphcgcpaaDoorPzzSplitx1
import Derived.Lib.Strings
import Derived.Lib.DecodeN
import Derived.Lib.MapLaws
import Derived.WalkKit
import Derived.WalkSpells
import Derived.WalkSmall
import Derived.Lib.OthersKept
import Derived.Lib.Hide
import Derived.Laws.RangeString
import Derived.Lib.SmallJoins
import Derived.Deep.QuietTactic
import Derived.BigQuiet
import Derived.Laws.Rows
import Derived.Laws.ResultCell
import Derived.Deep.AppendLies
import Derived.KernelRfl
namespace Go.Proofs.YtajifebphcgcpaaDoor.Own
open Go.RowKit Go.Proofs.YtajifebphcgcpaaDoorW.PrintWords
set_option linter.unusedVariables false
set_option linter.unusedSimpArgs false

theorem wrap_add {i n : Int} (h0 : -9223372036854775808 ≤ i + n) (h : i + n < 9223372036854775808) : wrap64 (i + n) = i + n := by unfold wrap64; omega
theorem wrap_sub {i n : Int} (h0 : -9223372036854775808 ≤ i - n) (h : i - n < 9223372036854775808) : wrap64 (i - n) = i - n := by unfold wrap64; omega
theorem wrap_succ {i : Nat} (h : i < 9223372036854775807) : wrap64 ((i : Int) + 1) = ((i + 1 : Nat) : Int) := by unfold wrap64; omega
theorem ba_ext {a b : ByteArray} (h : a.data.toList = b.data.toList) : a = b := ByteArray.ext (Array.ext' h)
theorem ba_ext' {a b : ByteArray} (h : a.toList = b.toList) : a = b := ba_ext (by rw [← Lib.toList_data, ← Lib.toList_data, h])
theorem size_list (s : ByteArray) : s.size = s.data.toList.length := Lib.size_eq s
theorem size_mk (l : List UInt8) : (⟨l.toArray⟩ : ByteArray).size = l.length := by rw [size_list]
theorem bt_nat (s : ByteArray) (i : Nat) (h : i < s.size) : bt s (i : Int) = ((s.data.toList[i]'(by rw [size_list] at h; exact h)).toNat : Int) := by
  unfold bt
  rw [dif_pos (by simpa using h)]
  simp
  rfl
theorem bt_some (s : ByteArray) (i : Nat) (c : UInt8) (h : s.data.toList[i]? = some c) : bt s (i : Int) = (c.toNat : Int) := by
  have hi : i < s.size := by
    rw [size_list]
    rcases Nat.lt_or_ge i s.data.toList.length with h' | h'
    · exact h'
    · rw [List.getElem?_eq_none h'] at h; cases h
  rw [bt_nat s i hi]
  rw [List.getElem?_eq_getElem (by rw [size_list] at hi; exact hi)] at h
  cases h; rfl
theorem u8_lt (c : UInt8) : (c.toNat : Int) < 256 := by have := c.toNat_lt; omega
theorem u8_eq {c d : UInt8} (h : (c.toNat : Int) = (d.toNat : Int)) : c = d := UInt8.toNat_inj.1 (by omega)
theorem u8_eq_lit {c : UInt8} {n : Nat} (hn : n < 256) (h : (c.toNat : Int) = n) : c = UInt8.ofNat n := by
  apply UInt8.toNat_inj.1
  rw [UInt8.toNat_ofNat']
  omega
theorem rd_nat {α : Type} (d : α) (l : List α) (i : Nat) : rdOf d l (i : Int) = l.getD i d := by simp [rdOf]
theorem rd_some {α : Type} (d : α) (l : List α) (i : Nat) (x : α) (h : l[i]? = some x) : rdOf d l (i : Int) = x := by simp [rdOf, List.getD_eq_getElem?_getD, h]
theorem ext_list (s : ByteArray) (a b : Nat) : (s.extract a b).data.toList = (s.data.toList.drop a).take (b - a) := Lib.extract_data s a b
theorem app_list (a b : ByteArray) : (a ++ b).data.toList = a.data.toList ++ b.data.toList := by rw [ByteArray.data_append, Array.toList_append]
theorem ext_end (s : ByteArray) (a : Nat) : (s.extract a s.size).data.toList = s.data.toList.drop a := by
  rw [ext_list, List.take_of_length_le (by rw [List.length_drop, size_list]; omega)]
theorem ext_size (s : ByteArray) (a b : Nat) : (s.extract a b).size = min (b - a) (s.size - a) := by
  rw [size_list, ext_list, List.length_take, List.length_drop, size_list]
/-- One more element of what a loop copies. -/
theorem take_snoc {α : Type} (d : α) (t : List α) (i : Nat) (h : i < t.length) : t.take i ++ [rdOf d t (i : Int)] = t.take (i + 1) := by
  rw [List.take_succ_eq_append_getElem h, rd_some d t i t[i] (List.getElem?_eq_getElem h)]
theorem Ev.one {α : Type} {g : Nat → Option α} {r : α} (h : ∀ k, g (k + 1) = some r) : Ev g r := Ev.step (f := fun _ => some r) h (Ev.now r)
theorem Ev.always {α : Type} {g : Nat → Option α} {r : α} (h : ∀ k, g k = some r) : Ev g r := ⟨0, fun k _ => h k⟩
theorem Ev.bindc {α β : Type} {g : Nat → Option α} {f : Nat → α → Option β} {a : α} {r : β} (h : Ev g a) (k : Ev (fun n => f n a) r) : Ev (fun n => (g n).bind (f n)) r := Ev.bind h k
end Go.Proofs.YtajifebphcgcpaaDoor.Own

namespace Go.Proofs.YtajifebphcgcpaaDoor.Own
open Go.Lib
set_option linter.unusedVariables false
theorem dec_hi (s : ByteArray) (pos : Nat) (h : pos < s.size) (ha : 128 ≤ (s.get! pos).toNat) :
    128 ≤ (Utf8.decode s pos).1 ∧ (Utf8.decode s pos).1 ≤ 1114111 ∧ 1 ≤ (Utf8.decode s pos).2 ∧ pos + (Utf8.decode s pos).2 ≤ s.size ∧ ∀ q, pos ≤ q → q < pos + (Utf8.decode s pos).2 → 128 ≤ (s.get! q).toNat := by
  rw [decode_at]
  obtain ⟨n, hn⟩ : ∃ n, s.size - pos = n := ⟨_, rfl⟩
  rw [hn]
  rcases decodeN_shape n (s.get! pos).toNat (s.get! (pos + 1)).toNat (s.get! (pos + 2)).toNat (s.get! (pos + 3)).toNat with h1 | h1 | h1 | h1 | h1
  · omega
  · obtain ⟨a1, a2, a3, a4, e⟩ := h1
    rw [e]
    refine ⟨a4, by omega, by show 1 ≤ 2; omega, by show pos + 2 ≤ _; omega, fun q h1 h2 => ?_⟩
    have h2 : q < pos + 2 := h2
    rcases (by omega : q = pos ∨ q = pos + 1) with rfl | rfl <;> omega
  · obtain ⟨a1, a2, a3, a4, a5, a6, e⟩ := h1
    rw [e]
    refine ⟨by show 128 ≤ _ + _; omega, by show _ + _ ≤ _; omega, by show 1 ≤ 3; omega, by show pos + 3 ≤ _; omega, fun q h1 h2 => ?_⟩
    have h2 : q < pos + 3 := h2
    rcases (by omega : q = pos ∨ q = pos + 1 ∨ q = pos + 2) with rfl | rfl | rfl <;> omega
  · obtain ⟨a1, a2, a3, a4, a5, a6, a7, e⟩ := h1
    rw [e]
    refine ⟨by show 128 ≤ _ + _; omega, a7, by show 1 ≤ 4; omega, by show pos + 4 ≤ _; omega, fun q h1 h2 => ?_⟩
    have h2 : q < pos + 4 := h2
    rcases (by omega : q = pos ∨ q = pos + 1 ∨ q = pos + 2 ∨ q = pos + 3) with rfl | rfl | rfl | rfl <;> omega
  · rw [h1]
    refine ⟨by show 128 ≤ 65533; omega, by show 65533 ≤ 1114111; omega, by show 1 ≤ 1; omega, by show pos + 1 ≤ _; omega, fun q h1 h2 => ?_⟩
    have h2 : q < pos + 1 := h2
    rcases (by omega : q = pos) with rfl
    exact ha
end Go.Proofs.YtajifebphcgcpaaDoor.Own

namespace Go.Proofs.YtajifebphcgcpaaDoor.Own
open Go.RowKit Go.Lib
set_option linter.unusedVariables false
set_option linter.unusedSimpArgs false

def colIdx (s : ByteArray) : Int := match s.data.toList.findIdx? (fun c => c == 58) with | some k => (k : Int) | none => -1
def NoCol (s : ByteArray) (pos : Nat) : Prop := ∀ j, j < pos → s.get! j ≠ 58
theorem get_list (s : ByteArray) (j : Nat) (h : j < s.size) : s.data.toList[j]? = some (s.get! j) := by
  rw [List.getElem?_eq_getElem (by simpa using h)]
  simp [ByteArray.get!, getElem!_pos, h]
theorem colIdx_hit (s : ByteArray) (pos : Nat) (hp : pos < s.size) (hn : NoCol s pos) (hc : s.get! pos = 58) : colIdx s = (pos : Int) := by
  have hl : s.data.toList.length = s.size := by simp
  have : s.data.toList.findIdx? (fun c => c == 58) = some pos := by
    rw [List.findIdx?_eq_some_iff_getElem]
    refine ⟨by omega, ?_, fun j hj => ?_⟩
    · have := get_list s pos hp
      rw [List.getElem?_eq_getElem (by omega), hc] at this
      simpa using this
    · have h1 := get_list s j (by omega)
      rw [List.getElem?_eq_getElem (by omega)] at h1
      have h2 := hn j hj
      simp only [Option.some.injEq] at h1
      rw [h1]
      simpa using h2
  rw [colIdx, this]
theorem colIdx_none (s : ByteArray) (hn : NoCol s s.size) : colIdx s = -1 := by
  have hl : s.data.toList.length = s.size := by simp
  have : s.data.toList.findIdx? (fun c => c == 58) = none := by
    rw [List.findIdx?_eq_none_iff]
    intro c hc
    obtain ⟨j, hj, rfl⟩ := List.mem_iff_getElem.1 hc
    have h1 := get_list s j (by omega)
    rw [List.getElem?_eq_getElem hj] at h1
    simp only [Option.some.injEq] at h1
    rw [h1]
    simpa using hn j (by omega)
  rw [colIdx, this]
theorem dec_step (s : ByteArray) (pos : Nat) (h : pos < s.size) :
    1 ≤ (Utf8.decode s pos).2 ∧ pos + (Utf8.decode s pos).2 ≤ s.size ∧ (Utf8.decode s pos).1 ≤ 1114111 ∧ ((Utf8.decode s pos).1 = 58 → s.get! pos = 58) ∧ ((Utf8.decode s pos).1 ≠ 58 → ∀ q, pos ≤ q → q < pos + (Utf8.decode s pos).2 → s.get! q ≠ 58) := by
  rcases Nat.lt_or_ge (s.get! pos).toNat 128 with hlo | hhi
  · have e : Utf8.decode s pos = ((s.get! pos).toNat, 1) := by
      rw [decode_at]; unfold decodeN; rw [if_pos hlo]
    rw [e]
    refine ⟨Nat.le_refl _, h, by show (s.get! pos).toNat ≤ 1114111; omega, fun h1 => UInt8.toNat_inj.1 h1, fun h1 q h2 h3 hq => ?_⟩
    have h3 : q < pos + 1 := h3
    obtain rfl : q = pos := by omega
    exact h1 (by show (s.get! q).toNat = 58; rw [hq]; rfl)
  · obtain ⟨a1, a2, a3, a4, a5⟩ := dec_hi s pos h hhi
    refine ⟨a3, a4, a2, fun h1 => by omega, fun _ q h2 h3 hq => ?_⟩
    have := a5 q h2 h3
    rw [hq] at this
    exact absurd this (by decide)

set_option maxHeartbeats 1000000 in
theorem idxRune_any (s : ByteArray) (w : World) (hs : s.size ≤ 1000000) :
    Calls Tryd.prog 53 #[.string s, .int .i32 58] w fun e w' => e = .returned (.int .i64 (colIdx s)) ∧ Below w.heap.size w w' := by
  go_enter Tryd.func53, Tryd.ntmps53
  go_wp2_with fail
  go_loopw [5, 6] (fun _ _ wr => ∃ pos : Nat, pos ≤ s.size ∧ wr.heap[w.heap.size]? = some (.stringIter s pos) ∧ Below w.heap.size w wr ∧ Hid (NoCol s pos)) (fun _ _ wr => s.size - wr.iterPos w.heap.size)
  case atStart => exact ⟨0, Nat.zero_le _, w.iter_heap s 0, (Below.refl _ _).alloc (Nat.le_refl _) _, fun j h => by omega⟩
  case round =>
    obtain ⟨wx, rfl⟩ : ∃ wx : World, wx = wr := ⟨_, rfl⟩
    obtain ⟨pos, hpos, hit, hb, hn⟩ := hrel
    by_cases hp : pos < s.size
    · obtain ⟨b1, b2, b3, b4, b5⟩ := dec_step s pos hp
      obtain ⟨r, hr0⟩ : ∃ r, r = (Utf8.decode s pos).1 := ⟨_, rfl⟩
      obtain ⟨d, hd0⟩ : ∃ d, d = (Utf8.decode s pos).2 := ⟨_, rfl⟩
      obtain ⟨wo, hwo⟩ : ∃ wo : World, wo = wx.iterAt w.heap.size s (pos + d) := ⟨_, rfl⟩
      have hnx : ∀ ty, (Instr.next (.pointer (some ⟨w.heap.size, 0, none⟩)) true ty).run Tryd.prog wx = .ok (.tuple #[.bool true, .int .i64 pos, .int .i32 r]) wo := fun ty => by rw [hwo, hd0, hr0]; exact Lib.run_next_any_at wx w.heap.size s pos ty hit hp
      rw [← hr0] at b3 b4 b5
      rw [← hd0] at b1 b2 b5
      have hit1 := Lib.hid (show wo.heap[w.heap.size]? = some (.stringIter s (pos + d)) by rw [hwo]; exact Lib.iterAt_heap wx w.heap.size s pos (pos + d) hit)
      have hbb := Lib.hid (show Below w.heap.size w wo by rw [hwo]; exact Lib.below_iterAt hb (Nat.le_refl w.heap.size) s (pos + d))
      have hm1 := Lib.hid (iterPos_of hit)
      clear hit hb hwo hr0 hd0
      by_cases hc : r = 58
      · have hfin := Lib.hid (colIdx_hit s pos hp hn.out (b4 hc))
        subst hc
        clear b4 b5 hn
        go_wp2
        go_ret
        refine ⟨?_, hbb.out⟩
        show Ending.returned (Value.int .i64 (pos : Int)) = _
        rw [hfin.out]
      · have hc' : ((r : Int) == 58) = false := by rw [beq_eq_false_iff_ne]; omega
        have hc2 : (r == 58) = false := by rw [beq_eq_false_iff_ne]; omega
        have hst := Lib.hid (show NoCol s (pos + d) from fun j hj => by
          rcases Nat.lt_or_ge j pos with h | h
          · exact hn.out j h
          · exact b5 hc j h hj)
        clear b4 b5 hn hc
        go_wp2
        exact ⟨⟨pos + d, b2, hit1.out, hbb.out, hst⟩, by rw [iterPos_of hit1.out, hm1.out]; omega⟩
    · have hnx : ∀ ty, (Instr.next (.pointer (some ⟨w.heap.size, 0, none⟩)) true ty).run Tryd.prog wx = .ok (.tuple #[.bool false]) wx := fun ty => Lib.run_next_end_at wx w.heap.size s pos ty hit hp
      obtain rfl : pos = s.size := by omega
      have hf := Lib.hid (colIdx_none s hn.out)
      clear hn
      go_wp2
      go_ret
      refine ⟨?_, hb⟩
      show Ending.returned (Value.int .i64 (-1)) = _
      rw [hf.out]
end Go.Proofs.YtajifebphcgcpaaDoor.Own

namespace Go.Proofs.YtajifebphcgcpaaDoor.Own
open Go.RowKit Go.Lib
set_option linter.unusedVariables false
set_option linter.unusedSimpArgs false

/-- The number that a text is to the code; * is 0. -/
def pn (s : ByteArray) : Option Nat := match Lib.parseUintB 32 s.data.toList with
  | .ok u => if s.get! 0 = 48 then none else some u
  | _ => if s.data.toList = [42] then some 0 else none
def ErrQ (bad : Bool) (ev : Value) : Prop := (bad = false → ev = .nilIface) ∧ (bad = true → ∃ T x, ev = .iface T x)
def NumIs (s : ByteArray) (w : World) (e : Ending) (w' : World) : Prop := ∃ ev, e = .returned (.tuple #[.int .u32 (((pn s).getD 0 : Nat) : Int), ev]) ∧ ErrQ (pn s).isNone ev ∧ Below w.heap.size w w'
def ErrCell (g : Nat) (w : World) : Prop := ∃ ev, w.cell? ⟨g, 0, none⟩ = some ev ∧ (ev = .nilIface ∨ ∃ te pe, ev = .iface te pe)
def EnvP (w : World) : Prop := ErrCell 3 w ∧ ErrCell 4 w
theorem ErrCell.below {g : Nat} {w w' : World} (h : ErrCell g w) (hb : Below w.heap.size w w') : ErrCell g w' := by
  obtain ⟨ev, h1, h2⟩ := h
  exact ⟨ev, (hb.cell (p := ⟨g, 0, none⟩) (World.block_lt_of_cell? w _ h1)).trans h1, h2⟩
theorem EnvP.below {w w' : World} (h : EnvP w) (hb : Below w.heap.size w w') : EnvP w' := ⟨h.1.below hb, h.2.below hb⟩
theorem parseM_lt (M : Nat) : ∀ (l : List UInt8) (acc u : Nat), acc ≤ M → Lib.parseUintM M acc l = .ok u → u ≤ M
  | [], acc, u, h, h1 => by rw [Lib.parseUintM] at h1; cases h1; exact h
  | c :: r, acc, u, h, h1 => by
    rw [Lib.parseUintM] at h1
    split at h1
    · split at h1
      · cases h1
      · split at h1
        · cases h1
        · exact parseM_lt M r _ u (by omega) h1
    · cases h1
theorem parseB_ok {s : ByteArray} {u : Nat} (h : Lib.parseUintB 32 s.data.toList = .ok u) : u < 4294967296 ∧ 0 < s.size := by
  unfold Lib.parseUintB at h
  split at h
  · cases h
  · rename_i hne
    have := parseM_lt _ _ _ _ (by omega) h
    refine ⟨by omega, ?_⟩
    rcases Nat.eq_zero_or_pos s.size with h0 | h0
    · exact absurd (List.eq_nil_of_length_eq_zero (by simpa using h0)) hne
    · exact h0
theorem star_eq (s : ByteArray) : (s.toList == [42]) = decide (s.data.toList = [42]) := by
  rw [ByteArray.toList_eq, Bool.eq_iff_iff, beq_iff_eq, decide_eq_true_eq]
theorem get_zero (s : ByteArray) (h : 0 < s.size) : s.get! 0 = s[0]'h := by
  simp [ByteArray.get!, getElem!_pos, h]
  rfl

set_option maxHeartbeats 1000000 in
theorem parseNum_ok (s : ByteArray) (hs : s.size ≤ 1000000) (u : Nat) (hu : Lib.parseUintB 32 s.data.toList = .ok u) (w : World) :
    Calls Tryd.prog 54 #[.string s] w (NumIs s w) := by
  obtain ⟨hu1, hs1⟩ := parseB_ok hu
  have hc := Lib.hid (Tryd.cstrconv_ParseUint_10_at32_ok s (by omega) u hu)
  have hpn : pn s = if s[0]'hs1 = 48 then none else some u := by unfold pn; rw [hu, ← get_zero s hs1]
  have hst : (s.toList == [42]) = false := by
    rw [star_eq, decide_eq_false_iff_not]
    intro h
    rw [h] at hu
    simp [Lib.parseUintB, Lib.parseUintM] at hu
  by_cases h48 : s[0]'hs1 = 48
  · rw [if_pos h48] at hpn
    have hpn' := Lib.hid hpn
    have hd : (((s[0]'hs1).toNat : Int) != 48) = false := by rw [h48]; rfl
    clear hu hpn h48
    go_enter Tryd.func54, Tryd.ntmps54
    go_wp2_with fail
    refine (hc.out _).mono ?_
    rintro e w1 ⟨rfl, hw⟩
    have hb := Lib.hid (show Below w.heap.size w w1 by rcases hw with rfl | rfl; exact Below.refl _ _; exact bytesWorld_below _ _ _)
    clear hw
    go_wp2_with fail
    go_ret2
    exact ⟨_, by rw [hpn'.out]; rfl, by rw [hpn'.out]; exact ⟨fun h => by simp at h, fun _ => ⟨_, _, rfl⟩⟩, hb.out⟩
  · rw [if_neg h48] at hpn
    have hpn' := Lib.hid hpn
    have hd : (((s[0]'hs1).toNat : Int) != 48) = true := by
      rw [bne_iff_ne]; intro h; exact h48 (UInt8.toNat_inj.1 (by show (s[0]'hs1).toNat = 48; omega))
    have hm : (u : Int) % 4294967296 = u := by omega
    clear hu hpn h48
    go_enter Tryd.func54, Tryd.ntmps54
    go_wp2_with fail
    refine (hc.out _).mono ?_
    rintro e w1 ⟨rfl, hw⟩
    have hb := Lib.hid (show Below w.heap.size w w1 by rcases hw with rfl | rfl; exact Below.refl _ _; exact bytesWorld_below _ _ _)
    clear hw
    go_wp2_with fail
    go_ret2
    exact ⟨_, by rw [hpn'.out]; rfl, by rw [hpn'.out]; exact ⟨fun _ => rfl, fun h => by simp at h⟩, hb.out⟩

set_option maxHeartbeats 1000000 in
theorem parseNum_no (s : ByteArray) (hs : s.size ≤ 1000000) (x : Int) (tp : TypeId) (hno : pn s = if s.data.toList = [42] then some 0 else none) (w : World)
    (hc : Calls Tryd.prog 59 #[.string s, .int .i64 10, .int .i64 32] w fun e w' => ∃ N, e = .returned (.tuple #[.int .u64 x, .iface tp (.pointer (some ⟨N, 0, none⟩))]) ∧ Below w.heap.size w w') :
    Calls Tryd.prog 54 #[.string s] w (NumIs s w) := by
  have hc := Lib.hid hc
  have hno' := Lib.hid hno
  cases hst : (s.toList == [42]) with
  | true =>
    have hpn' := Lib.hid (show pn s = some 0 by rw [hno, if_pos (by rw [star_eq] at hst; exact of_decide_eq_true hst)])
    clear hno
    go_enter Tryd.func54, Tryd.ntmps54
    go_wp2_with fail
    refine (hc.out).mono ?_
    rintro e w1 ⟨N, rfl, hb⟩
    have hb := Lib.hid hb
    go_wp2_with fail
    go_ret2
    exact ⟨_, by rw [hpn'.out]; rfl, by rw [hpn'.out]; exact ⟨fun _ => rfl, fun h => by simp at h⟩, hb.out⟩
  | false =>
    have hpn' := Lib.hid (show pn s = none by rw [hno, if_neg (by rw [star_eq] at hst; exact of_decide_eq_false hst)])
    clear hno
    go_enter Tryd.func54, Tryd.ntmps54
    go_wp2_with fail
    refine (hc.out).mono ?_
    rintro e w1 ⟨N, rfl, hb⟩
    have hb := Lib.hid hb
    go_wp2_with fail
    go_ret2
    exact ⟨_, by rw [hpn'.out]; rfl, by rw [hpn'.out]; exact ⟨fun h => by simp at h, fun _ => ⟨_, _, rfl⟩⟩, hb.out⟩
theorem parseNum_any (s : ByteArray) (hs : s.size ≤ 1000000) (w : World) (henv : EnvP w) :
    Calls Tryd.prog 54 #[.string s] w (NumIs s w) := by
  obtain ⟨⟨e1, hv1, he1⟩, ⟨e2, hv2, he2⟩⟩ := henv
  have hsyn : Lib.parseUintB 32 s.data.toList = Lib.parseUintB 32 [] → Calls Tryd.prog 54 #[.string s] w (NumIs s w) := fun h => by
    refine parseNum_no s hs 0 110 (by unfold pn; rw [h]; rfl) w ((Tryd.cstrconv_ParseUint_10_at32_syntax s (by omega) h e1 w hv1 he1).mono ?_)
    rintro e w' ⟨N, h1, _, _, h4⟩
    exact ⟨N, h1, h4⟩
  cases hq : Lib.parseUintB 32 s.data.toList with
  | ok u => exact parseNum_ok s hs u hq w
  | range =>
    refine parseNum_no s hs 4294967295 110 (by unfold pn; rw [hq]) w ((Tryd.cstrconv_ParseUint_10_at32_range s (by omega) hq e2 w hv2 he2).mono ?_)
    rintro e w' ⟨N, h1, _, _, h4⟩
    exact ⟨N, h1, h4⟩
  | _ => exact hsyn (hq.trans rfl)
end Go.Proofs.YtajifebphcgcpaaDoor.Own

namespace Go.Proofs.YtajifebphcgcpaaDoor.Own
open Go.RowKit Go.Lib Sets
set_option linter.unusedVariables false
set_option linter.unusedSimpArgs false

/-- The range that a part of a set's text is to the code. -/
def ps (s : ByteArray) : Option Sets.Rg :=
  if colIdx s < 0 then (pn s).map fun n => (n, n)
  else match pn (s.extract 0 (colIdx s).toNat) with
    | none => none
    | some a => match pn (s.extract ((colIdx s).toNat + 1) s.size) with
      | none => none
      | some b => some (rng a b)
def SeqIs (s : ByteArray) (w : World) (e : Ending) (w' : World) : Prop := ∃ (x y : Int) (ev : Value), e = .returned (.tuple #[.agg #[.int .u32 x, .int .u32 y], ev]) ∧ ErrQ (ps s).isNone ev ∧ (∀ r, ps s = some r → x = (r.1 : Int) ∧ y = (r.2 : Int)) ∧ Below w.heap.size w w'
def Cell2 (N : Nat) (x y : Int) (w : World) : Prop := w.heap[N]? = some (.cells #[.int .u32 x, .int .u32 y] 50 (0, 0))
theorem Cell2.below {N : Nat} {x y : Int} {w w' : World} (h : Cell2 N x y w) (hb : Below w.heap.size w w') : Cell2 N x y w' := (hb.block N (Array.getElem?_eq_some_iff.1 h).1).trans h
theorem Cell2.c0 {N : Nat} {x y : Int} {w : World} (h : Cell2 N x y w) : w.cell? ⟨N, 0, none⟩ = some (.int .u32 x) := cell_of_row w N 0 _ _ _ h
theorem Cell2.c1 {N : Nat} {x y : Int} {w : World} (h : Cell2 N x y w) : w.cell? ⟨N, 1, none⟩ = some (.int .u32 y) := cell_of_row w N 1 _ _ _ h
theorem Cell2.f {N : Nat} {x y : Int} {w : World} (h : Cell2 N x y w) (j : Nat) : w.frozen? ⟨N, j, none⟩ = false := frozen_of_row w N j _ _ h
theorem Cell2.s0 {N : Nat} {x y : Int} {w : World} (h : Cell2 N x y w) (z : Int) : Cell2 N z y (w.setCell ⟨N, 0, none⟩ (.int .u32 z)) := by
  unfold Cell2; rw [heap_setCell_same w N 0 _ _ _ h]; rfl
theorem Cell2.s1 {N : Nat} {x y : Int} {w : World} (h : Cell2 N x y w) (z : Int) : Cell2 N x z (w.setCell ⟨N, 1, none⟩ (.int .u32 z)) := by
  unfold Cell2; rw [heap_setCell_same w N 1 _ _ _ h]; rfl

set_option maxHeartbeats 1000000 in
theorem parseSeq_one (s : ByteArray) (hs : s.size ≤ 1000000) (hk : colIdx s = -1) (w : World) (henv : EnvP w) :
    Calls Tryd.prog 48 #[.string s] w (SeqIs s w) := by
  have hidx := Lib.hid (fun W => idxRune_any s W hs)
  rw [hk] at hidx
  have hnum := Lib.hid (fun W h => parseNum_any s hs W h)
  have hps := Lib.hid (show ps s = (pn s).map fun n => (n, n) by unfold ps; rw [hk]; rfl)
  have hE := Lib.hid henv
  obtain ⟨W0, hW0⟩ : ∃ W0, w.alloc (.cells #[.int .u32 0, .int .u32 0] 50) = W0 := ⟨_, rfl⟩
  have hb0 := Lib.hid (show Below w.heap.size w W0 by rw [← hW0]; exact (Below.refl _ _).alloc (Nat.le_refl _) _)
  have hC0 := Lib.hid (show Cell2 w.heap.size 0 0 W0 by rw [← hW0]; exact heap_alloc_new _ _)
  clear hk henv
  go_enter Tryd.func48, Tryd.ntmps48
  go_wp2_with fail
  refine (hidx.out _).mono ?_
  rintro e w1 ⟨rfl, hb1⟩
  have hb1 := Lib.hid hb1
  have hC1 := Lib.hid (hC0.out.below hb1.out)
  clear hW0
  go_wp2_with fail
  refine (hnum.out w1 (hE.out.below (hb0.out.trans (hb1.out.mono hb0.out.size)))).mono ?_
  rintro e w2 ⟨ev, rfl, herr, hb2⟩
  have hb2 := Lib.hid hb2
  have herr := Lib.hid herr
  have hC2 := hC1.out.below hb2.out
  have hc0 := hC2.c0
  have hc1 := hC2.c1
  have hf0 := hC2.f 0
  have hf1 := hC2.f 1
  obtain ⟨v, hv⟩ : ∃ v, (pn s).getD 0 = v := ⟨_, rfl⟩
  rw [hv]
  have hv := Lib.hid hv
  have hb3 := Lib.hid (show Below w.heap.size w ((w2.setCell ⟨w.heap.size, 0, none⟩ (.int .u32 (v : Int))).setCell ⟨w.heap.size, 1, none⟩ (.int .u32 (v : Int))) from (((hb0.out.trans (hb1.out.mono hb0.out.size)).trans (hb2.out.mono (Nat.le_trans hb0.out.size hb1.out.size))).setCell (Nat.le_refl _) _).setCell (Nat.le_refl _) _)
  clear hC2
  go_wp2_with fail
  (try simp only [Exit.inBlock, Exit.then])
  refine bodyPost_ret (v := .tuple #[.agg #[.int .u32 (v : Int), .int .u32 (v : Int)], ev]) ?_ rfl ⟨v, v, ev, rfl, ?_, ?_, hb3.out⟩
  · rw [results_cell_tmp rfl]
    go_simp
  · rw [hps.out, Option.isNone_map]; exact herr.out
  · intro r hr
    rw [hps.out] at hr
    have hv := hv.out
    cases hq : pn s with
    | none => rw [hq] at hr; cases hr
    | some n =>
      rw [hq] at hr hv
      simp only [Option.map_some, Option.some.injEq] at hr
      subst hr
      simp only [Option.getD_some] at hv
      subst hv
      exact ⟨rfl, rfl⟩

theorem colIdx_cases (s : ByteArray) : colIdx s = -1 ∨ ∃ k : Nat, colIdx s = (k : Int) ∧ k < s.size := by
  unfold colIdx
  cases h : s.data.toList.findIdx? (fun c => c == 58) with
  | none => exact .inl rfl
  | some k =>
    refine .inr ⟨k, rfl, ?_⟩
    have := (List.findIdx?_eq_some_iff_getElem.1 h).1
    simpa using this

set_option maxHeartbeats 2000000 in
theorem parseSeq_two (s : ByteArray) (hs : s.size ≤ 1000000) (k : Nat) (hk : colIdx s = (k : Int)) (hks : k < s.size) (w : World) (henv : EnvP w) :
    Calls Tryd.prog 48 #[.string s] w (SeqIs s w) := by
  have hidx := Lib.hid (fun W => idxRune_any s W hs)
  rw [hk] at hidx
  have hn1 := Lib.hid (fun W h => parseNum_any (s.extract 0 k) (by simp; omega) W h)
  have hn2 := Lib.hid (fun W h => parseNum_any (s.extract (k + 1) s.size) (by simp; omega) W h)
  have hps := Lib.hid (show ps s = (match pn (s.extract 0 k) with | none => none | some a => match pn (s.extract (k + 1) s.size) with | none => none | some b => some (rng a b)) by unfold ps; rw [hk, if_neg (by omega), Int.toNat_natCast])
  have hE := Lib.hid henv
  obtain ⟨W0, hW0⟩ : ∃ W0, w.alloc (.cells #[.int .u32 0, .int .u32 0] 50) = W0 := ⟨_, rfl⟩
  have hb0 := Lib.hid (show Below w.heap.size w W0 by rw [← hW0]; exact (Below.refl _ _).alloc (Nat.le_refl _) _)
  have hC0 := Lib.hid (show Cell2 w.heap.size 0 0 W0 by rw [← hW0]; exact heap_alloc_new _ _)
  clear hk henv
  go_enter Tryd.func48, Tryd.ntmps48
  go_wp2_with fail
  refine (hidx.out _).mono ?_
  rintro e w1 ⟨rfl, hb1⟩
  have hb1 := Lib.hid hb1
  have hC1 := Lib.hid (hC0.out.below hb1.out)
  have hB1 := Lib.hid (hb0.out.trans (hb1.out.mono hb0.out.size))
  clear hW0
  go_wp2_with fail
  refine (hn1.out w1 (hE.out.below hB1.out)).mono ?_
  rintro e w2 ⟨ev, rfl, herr, hb2⟩
  have hB2 := Lib.hid (hB1.out.trans (hb2.mono hB1.out.size))
  have hC2 := hC1.out.below hb2
  have hc0 := hC2.c0
  have hc1 := hC2.c1
  have hf0 := hC2.f 0
  have hf1 := hC2.f 1
  cases hq : pn (s.extract 0 k) with
  | none =>
    rw [hq] at herr hps
    obtain ⟨T, y, rfl⟩ := herr.2 rfl
    have hB3 := Lib.hid (show Below w.heap.size w (w2.setCell ⟨w.heap.size, 0, none⟩ (.int .u32 0)) from hB2.out.setCell (Nat.le_refl _) _)
    have hB4 := Lib.hid (show ∀ p q : Value, Below w.heap.size w (((w2.setCell ⟨w.heap.size, 0, none⟩ (.int .u32 0)).setCell ⟨w.heap.size, 0, none⟩ p).setCell ⟨w.heap.size, 1, none⟩ q) from fun p q => (hB3.out.setCell (Nat.le_refl _) _).setCell (Nat.le_refl _) _)
    have hq' := Lib.hid hq
    clear hC2 hb2 herr hq
    go_wp2_with fail
    (try simp only [Exit.inBlock, Exit.then])
    refine bodyPost_ret (v := .tuple #[.agg #[.int .u32 0, .int .u32 0], .iface 92 (.string s)]) ?_ rfl ⟨0, 0, _, rfl, ?_, ?_, hB4.out _ _⟩
    · rw [results_cell_tmp rfl]
      go_simp
    · rw [hps.out]; exact ⟨fun h => by simp at h, fun _ => ⟨_, _, rfl⟩⟩
    · rw [hps.out]; intro r hr; cases hr
  | some a =>
    rw [hq] at herr hps
    obtain rfl := herr.1 rfl
    have hq' := Lib.hid hq
    have hC3 := Lib.hid (hC2.s0 (a : Int))
    have hB3 := Lib.hid (show Below w.heap.size w (w2.setCell ⟨w.heap.size, 0, none⟩ (.int .u32 (a : Int))) from hB2.out.setCell (Nat.le_refl _) _)
    have hwr : IntKind.i64.wrap ((k : Int) + 1) = (k : Int) + 1 := by rw [IntKind.wrap_i64]; omega
    clear hC2 hb2 herr hq
    go_wp2_with fail
    refine (hn2.out _ (hE.out.below hB3.out)).mono ?_
    rintro e w4 ⟨ev, rfl, herr, hb4⟩
    have hB4 := Lib.hid (hB3.out.trans (hb4.mono hB3.out.size))
    have hC4 := hC3.out.below hb4
    have hd0 := hC4.c0
    have hd1 := hC4.c1
    have hg0 := hC4.f 0
    have hg1 := hC4.f 1
    clear hwr hc0 hc1 hf0 hf1
    cases hq2 : pn (s.extract (k + 1) s.size) with
    | none =>
      rw [hq2] at herr hps
      obtain ⟨T, y, rfl⟩ := herr.2 rfl
      have hB5 := Lib.hid (show ∀ p q r : Value, Below w.heap.size w (((w4.setCell ⟨w.heap.size, 1, none⟩ p).setCell ⟨w.heap.size, 0, none⟩ q).setCell ⟨w.heap.size, 1, none⟩ r) from fun p q r => ((hB4.out.setCell (Nat.le_refl _) _).setCell (Nat.le_refl _) _).setCell (Nat.le_refl _) _)
      clear hC4 hb4 herr hq2
      go_wp2_with fail
      (try simp only [Exit.inBlock, Exit.then])
      refine bodyPost_ret (v := .tuple #[.agg #[.int .u32 (a : Int), .int .u32 0], .iface 92 (.string s)]) ?_ rfl ⟨a, 0, _, rfl, ?_, ?_, hB5.out _ _ _⟩
      · rw [results_cell_tmp rfl]
        go_simp
      · rw [hps.out]; exact ⟨fun h => by simp at h, fun _ => ⟨_, _, rfl⟩⟩
      · rw [hps.out]; intro r hr; cases hr
    | some c =>
      rw [hq2] at herr hps
      obtain rfl := herr.1 rfl
      have hB5 := Lib.hid (show ∀ p : Value, Below w.heap.size w (w4.setCell ⟨w.heap.size, 1, none⟩ p) from fun p => hB4.out.setCell (Nat.le_refl _) _)
      have hB6 := Lib.hid (show ∀ p q r : Value, Below w.heap.size w (((w4.setCell ⟨w.heap.size, 1, none⟩ p).setCell ⟨w.heap.size, 0, none⟩ q).setCell ⟨w.heap.size, 1, none⟩ r) from fun p q r => ((hB5.out p).setCell (Nat.le_refl _) _).setCell (Nat.le_refl _) _)
      clear hC4 hb4 herr hq2
      by_cases hsw : a = 0 ∨ (c ≠ 0 ∧ c < a)
      · have hrng : rng a c = (c, a) := if_pos hsw
        have hps' := Lib.hid (show ps s = some (c, a) by rw [hps.out]; show some (rng a c) = _; rw [hrng])
        rcases hsw with h0 | ⟨h1, h2⟩
        · subst h0
          clear hrng hps
          have hx1 : decide ((c : Int) < 0) = false := decide_eq_false (by omega)
          go_wp2_with fail
          (try simp only [Exit.inBlock, Exit.then])
          refine bodyPost_ret (v := .tuple #[.agg #[.int .u32 (c : Int), .int .u32 0], .nilIface]) ?_ rfl ⟨(c : Int), 0, _, rfl, ?_, ?_, hB6.out _ _ _⟩
          · rw [results_cell_tmp rfl]
            go_simp
          · rw [hps'.out]; exact ⟨fun _ => rfl, fun h => by simp at h⟩
          · rw [hps'.out]; intro r hr; cases hr; exact ⟨rfl, rfl⟩
        · clear hrng hps
          have hx1 : decide ((c : Int) < (a : Int)) = true := decide_eq_true (by omega)
          have hx2 : decide (c < a) = true := decide_eq_true h2
          have hx3 : ((c : Int) != 0) = true := by rw [bne_iff_ne]; omega
          have hx4 : (c != 0) = true := by rw [bne_iff_ne]; omega
          go_wp2_with fail
          (try simp only [Exit.inBlock, Exit.then])
          refine bodyPost_ret (v := .tuple #[.agg #[.int .u32 (c : Int), .int .u32 (a : Int)], .nilIface]) ?_ rfl ⟨(c : Int), (a : Int), _, rfl, ?_, ?_, hB6.out _ _ _⟩
          · rw [results_cell_tmp rfl]
            go_simp
          · rw [hps'.out]; exact ⟨fun _ => rfl, fun h => by simp at h⟩
          · rw [hps'.out]; intro r hr; cases hr; exact ⟨rfl, rfl⟩
      · have hrng : rng a c = (a, c) := if_neg hsw
        have hps' := Lib.hid (show ps s = some (a, c) by rw [hps.out]; show some (rng a c) = _; rw [hrng])
        have ha0 : ¬ (a = 0) := fun h => hsw (.inl h)
        have hx5 : ((a : Int) == 0) = false := by rw [beq_eq_false_iff_ne]; omega
        have hx6 : (a == 0) = false := by rw [beq_eq_false_iff_ne]; omega
        by_cases hc0 : c = 0
        · subst hc0
          have hx1 : decide ((0 : Int) < (a : Int)) = true := decide_eq_true (by omega)
          have hx2 : decide (0 < a) = true := decide_eq_true (by omega)
          clear hrng hps hsw
          go_wp2_with fail
          (try simp only [Exit.inBlock, Exit.then])
          refine bodyPost_ret (v := .tuple #[.agg #[.int .u32 (a : Int), .int .u32 0], .nilIface]) ?_ rfl ⟨(a : Int), 0, _, rfl, ?_, ?_, hB5.out _⟩
          · rw [results_cell_tmp rfl]
            go_simp
          · rw [hps'.out]; exact ⟨fun _ => rfl, fun h => by simp at h⟩
          · rw [hps'.out]; intro r hr; cases hr; exact ⟨rfl, rfl⟩
        · have hx1 : decide ((c : Int) < (a : Int)) = false := decide_eq_false (fun h => hsw (.inr ⟨hc0, by omega⟩))
          have hx2 : decide (c < a) = false := decide_eq_false (fun h => hsw (.inr ⟨hc0, by omega⟩))
          clear hrng hps hsw
          go_wp2_with fail
          (try simp only [Exit.inBlock, Exit.then])
          refine bodyPost_ret (v := .tuple #[.agg #[.int .u32 (a : Int), .int .u32 (c : Int)], .nilIface]) ?_ rfl ⟨(a : Int), (c : Int), _, rfl, ?_, ?_, hB5.out _⟩
          · rw [results_cell_tmp rfl]
            go_simp
          · rw [hps'.out]; exact ⟨fun _ => rfl, fun h => by simp at h⟩
          · rw [hps'.out]; intro r hr; cases hr; exact ⟨rfl, rfl⟩
theorem parseSeq_any (s : ByteArray) (hs : s.size ≤ 1000000) (w : World) (henv : EnvP w) :
    Calls Tryd.prog 48 #[.string s] w (SeqIs s w) := by
  rcases colIdx_cases s with h | ⟨k, h, hk⟩
  · exact parseSeq_one s hs h w henv
  · exact parseSeq_two s hs k h hk w henv
end Go.Proofs.YtajifebphcgcpaaDoor.Own

namespace Go.Proofs.YtajifebphcgcpaaDoor.Own
open Go.RowKit Go.Lib Go.Proofs.YtajifebphcgcpaaDoorW.PrintWords Go.Proofs.YtajifebphcgcpaaDoorW.PrintLast Go.Proofs.YtajifebphcgcpaaDoorW.PrintMore
set_option linter.unusedVariables false
set_option linter.unusedSimpArgs false

/-- The first comma's place from i on, or -1. -/
def cmFrom (s : ByteArray) : Nat → Nat → Int
  | 0, _ => -1
  | d + 1, i => if i < s.size then (if s.get! i = 44 then (i : Int) else cmFrom s d (i + 1)) else -1
def cm (s : ByteArray) : Int := cmFrom s (s.size + 1 + 1) 0
theorem ext_one (s : ByteArray) (i : Nat) (h : i < s.size) : (s.extract i (i + 1)).toList = [s.get! i] := by
  rw [ByteArray.toList_eq]
  have h1 := get_list s i h
  apply List.ext_getElem?
  intro j
  rw [show (s.extract i (i + 1)).data.toList = ((s.data.toList.drop i).take 1) by simp [ByteArray.data_extract]]
  rw [List.getElem?_take, List.getElem?_drop]
  cases j with
  | zero => simpa using h1
  | succ j => simp
theorem zzIndex_run (s : ByteArray) (hs : s.size ≤ 1000000) : ∀ (d i : Nat), s.size + 1 - i ≤ d → i ≤ s.size → PzzSplit.goimap_zzIndex.l0 (d + 1) s ⟨#[44]⟩ (i : Int) = some (cmFrom s (d + 1) i)
  | d, i, hd, hi => by
    have hw : wrap64 ((i : Int) + (((⟨#[44]⟩ : ByteArray).size : Nat) : Int)) = ((i + 1 : Nat) : Int) := by
      show wrap64 ((i : Int) + (1 : Int)) = _
      unfold wrap64; omega
    rw [PzzSplit.goimap_zzIndex.l0, hw, cmFrom]
    by_cases hlt : i < s.size
    · rw [if_pos (by omega), if_pos (by omega), if_pos (by omega), if_pos hlt, Int.toNat_natCast, Int.toNat_natCast, ext_one s i hlt]
      by_cases hc : s.get! i = 44
      · rw [if_pos (by rw [hc, ByteArray.toList_eq]), if_pos hc]
      · rw [if_neg (by
          intro h
          have h2 : [s.get! i] = [(44 : UInt8)] := h.trans (by rw [ByteArray.toList_eq])
          simp at h2
          exact hc h2), if_neg hc]
        obtain ⟨d, rfl⟩ : ∃ d', d = d' + 1 := ⟨d - 1, by omega⟩
        rw [show wrap64 ((i : Int) + 1) = ((i + 1 : Nat) : Int) by unfold wrap64; omega]
        exact zzIndex_run s hs d (i + 1) (by omega) (by omega)
    · rw [if_neg (by omega), if_neg hlt]
theorem comma_any (s : ByteArray) (hs : s.size ≤ 1000000) (w : World) :
    Calls Tryd.prog 52 #[.string s, .string ⟨#[44]⟩] w fun e w' => e = .returned (.int .i64 (cm s)) ∧ Drawn0 w w' :=
  PzzSplit.goimap_zzIndex.calls (s.size + 1 + 1) s ⟨#[44]⟩ (cm s) w (by
    show PzzSplit.goimap_zzIndex.l0 (s.size + 1 + 1) s ⟨#[44]⟩ 0 = _
    have h := zzIndex_run s hs (s.size + 1) 0 (by omega) (by omega)
    exact h)
theorem cmFrom_cases (s : ByteArray) : ∀ (d i : Nat), s.size + 1 - i ≤ d → cmFrom s d i = -1 ∨ ∃ k : Nat, cmFrom s d i = (k : Int) ∧ i ≤ k ∧ k < s.size ∧ s.get! k = 44
  | 0, i, h => .inl rfl
  | d + 1, i, h => by
    rw [cmFrom]
    by_cases hlt : i < s.size
    · rw [if_pos hlt]
      by_cases hc : s.get! i = 44
      · rw [if_pos hc]; exact .inr ⟨i, rfl, Nat.le_refl _, hlt, hc⟩
      · rw [if_neg hc]
        rcases cmFrom_cases s d (i + 1) (by omega) with h | ⟨k, h1, h2, h3⟩
        · exact .inl h
        · exact .inr ⟨k, h1, by omega, h3⟩
    · rw [if_neg hlt]; exact .inl rfl
theorem cm_cases (s : ByteArray) : cm s = -1 ∨ ∃ k : Nat, cm s = (k : Int) ∧ k < s.size := by
  rcases cmFrom_cases s (s.size + 1 + 1) 0 (by omega) with h | ⟨k, h1, _, h3, _⟩
  · exact .inl h
  · exact .inr ⟨k, h1, h3⟩
/-- A text's parts between commas. -/
def splitN : Nat → ByteArray → List ByteArray
  | 0, s => [s]
  | n + 1, s => if cm s < 0 then [s] else s.extract 0 (cm s).toNat :: splitN n (s.extract ((cm s).toNat + 1) s.size)
end Go.Proofs.YtajifebphcgcpaaDoor.Own

namespace Go.Proofs.YtajifebphcgcpaaDoor.Own
open Go.RowKit Go.Lib Go.Proofs.YtajifebphcgcpaaDoorW.PrintWords
set_option linter.unusedVariables false
set_option linter.unusedSimpArgs false

theorem info_str' : (Tryd.prog.info? 9).map (fun i => (i.zero, i.size, i.bytes)) = some (some (.string ⟨#[]⟩), 1, 16) := by kernel_rfl
def parts (s : ByteArray) : List ByteArray := splitN s.size s
def SplitIs (s : ByteArray) (w : World) (e : Ending) (w' : World) : Prop := ∃ g cap, e = .returned (.slice (some ⟨g, 0, none⟩) (parts s).length cap) ∧
  w'.ownsRow w.heap.size 9 1 (.slice (some ⟨g, 0, none⟩) (parts s).length cap) (parts s).length ((parts s).map Value.string) ∧ Below w.heap.size w w'
theorem splitN_len : ∀ (n : Nat) (s : ByteArray), (splitN n s).length ≤ n + 1
  | 0, s => by simp [splitN]
  | n + 1, s => by
    rw [splitN]
    split
    · simp
    · rw [List.length_cons]; have := splitN_len n (s.extract ((cm s).toNat + 1) s.size); omega
theorem one_str (W : World) (B : Nat) (hB : W.heap.size = B) (p : Value) (t : TypeId) : ∀ j u, [p][j]? = some u → (W.alloc (.cells #[p] t)).cell? ((⟨B, 0, none⟩ : Addr).add j) = some u := by
  subst hB
  intro j u hj
  have hadd : (⟨W.heap.size, 0, none⟩ : Addr).add j = ⟨W.heap.size, j, none⟩ := by unfold Addr.add; split <;> simp_all
  rw [hadd, cell_of_row _ _ j _ _ _ (heap_alloc_new W _)]
  simpa using hj

set_option maxHeartbeats 2000000 in
set_option maxRecDepth 100000 in
theorem split_any (s : ByteArray) (hs : s.size ≤ 1000000) (w : World) :
    Calls Tryd.prog 47 #[.string s, .string ⟨#[44]⟩] w (SplitIs s w) := by
  obtain ⟨i0, hi0, hz0, hz1, hz2⟩ := info_parts info_str'
  have hcm := Lib.hid (fun (t : ByteArray) (h : t.size ≤ 1000000) W => comma_any t h W)
  go_enter Tryd.func47, Tryd.ntmps47
  go_wp2_with fail
  go_loopw [0, 5, 8] (fun s0 s5 _ wr => ∃ (n : Nat) (cur : ByteArray) (acc : List ByteArray) (v : Value), s0 = .string cur ∧ s5 = v ∧ cur.size ≤ n ∧ cur.size ≤ 1000000 ∧ acc.length + n ≤ s.size ∧ Hid (acc ++ splitN n cur = parts s) ∧ Hid (wr.ownsRow w.heap.size 9 1 v acc.length (acc.map Value.string)) ∧ Hid (Below w.heap.size w wr)) (fun s0 _ _ _ => match s0 with | .string t => t.size | _ => 0)
  case atStart => exact ⟨s.size, s, [], .slice none 0 0, rfl, rfl, Nat.le_refl _, hs, by simp, rfl, World.ownsRow_nil _ _ _ _, Below.refl _ _⟩
  case round =>
    obtain ⟨wx, hwx⟩ : ∃ wx : World, wx = wr := ⟨_, rfl⟩
    rw [← hwx] at hrel ⊢
    clear hwx
    obtain ⟨n, cur, acc, v, rfl, rfl, hcn, hcs, han, hR, hown, hb⟩ := hrel
    have hcall := Lib.hid (hcm.out cur hcs wx)
    go_wp2_with fail
    refine (hcall.out).mono ?_
    rintro e w1 ⟨rfl, hd1⟩
    have hb1 := Lib.hid (hb.out.trans (hd1.below.mono hb.out.size))
    have hal : acc.length ≤ 1000000 := by omega
    have hws : w.heap.size ≤ w1.heap.size := hb1.out.size
    have hownA := own_move hown.out (fun k hk => hd1.below.block k (World.ownsRow.lt hown.out k hk).2)
    have hmine := Lib.hid (fun k hk => (World.ownsRow.lt hown.out k hk).1)
    rcases cm_cases cur with hneg | ⟨k, hk, hkc⟩
    · have hown1 := Lib.hid (hownA.alloc (.cells #[.string cur] 9))
      have hnw := Lib.hid (one_str w1 w1.heap.size rfl (.string cur) 9)
      have hbA := Lib.hid (hb1.out.alloc hws (.cells #[.string cur] 9))
      have hneg' := Lib.hid hneg
      rw [hneg]
      clear hownA hneg
      go_wp2_with (at_builtin; refine wpList_append_lies _ rfl (.tmp 42) (.tmp 44) 82 rfl w.heap.size 9 i0 (.string ⟨#[]⟩) 1 16 Tryd.underlying82 hi0 hz0 hz1 hz2 rfl (by decide) u5 acc.length (acc.map Value.string) rfl hown1.out ⟨w1.heap.size, 0, none⟩ 1 1 [.string (cur)] rfl rfl hnw.out (by intro u hu; simp at hu; subst hu; rfl) (by decide) (by unfold maxLen; omega) (by omega) (by simp; omega) _ rfl ?_; intro g2 cap2 w2 hown2 hgrow2 hat2 hlt2)
      have hP : parts s = acc ++ [cur] := by
        rw [← hR.out]
        cases n with
        | zero => rfl
        | succ n => rw [splitN, if_pos (by rw [hneg'.out]; decide)]
      have hfin : SplitIs s w (.returned (.slice (some ⟨g2, 0, none⟩) (acc.length + 1) cap2)) w2 := by
        refine ⟨g2, cap2, ?_, ?_, Below.grown hbA.out hgrow2 (by simp; omega) (fun k e => hmine.out k e)⟩
        · rw [hP, List.length_append]; rfl
        · rw [hP, List.length_append, List.map_append]; exact hown2
      have hfin := Lib.hid hfin
      clear hP hown2 hgrow2 hat2 hlt2
      go_ret
      exact hfin.out
    · obtain ⟨n, rfl⟩ : ∃ n', n = n' + 1 := ⟨n - 1, by omega⟩
      have hown1 := Lib.hid (hownA.alloc (.cells #[.string (cur.extract 0 k)] 9))
      have hnw := Lib.hid (one_str w1 w1.heap.size rfl (.string (cur.extract 0 k)) 9)
      have hbA := Lib.hid (hb1.out.alloc hws (.cells #[.string (cur.extract 0 k)] 9))
      have hP := Lib.hid (show (acc ++ [cur.extract 0 k]) ++ splitN n (cur.extract (k + 1) cur.size) = parts s by
        rw [← hR.out, splitN, if_neg (by rw [hk]; omega), hk, Int.toNat_natCast, List.append_assoc]
        rfl)
      have hsz : (cur.extract (k + 1) cur.size).size = cur.size - (k + 1) := by simp
      rw [hk]
      have hwr : IntKind.i64.wrap ((k : Int) + 1) = (k : Int) + 1 := by rw [IntKind.wrap_i64]; omega
      clear hownA hk hR hown
      go_wp2_with (at_builtin; refine wpList_append_lies _ rfl (.tmp 46) (.tmp 50) 82 rfl w.heap.size 9 i0 (.string ⟨#[]⟩) 1 16 Tryd.underlying82 hi0 hz0 hz1 hz2 rfl (by decide) u5 acc.length (acc.map Value.string) rfl hown1.out ⟨w1.heap.size, 0, none⟩ 1 1 [.string (cur.extract 0 k)] rfl rfl hnw.out (by intro u hu; simp at hu; subst hu; rfl) (by decide) (by unfold maxLen; omega) (by omega) (by simp; omega) _ rfl ?_; intro g2 cap2 w2 hown2 hgrow2 hat2 hlt2)
      have hb2 := Lib.hid (Below.grown hbA.out hgrow2 (by simp; omega) (fun k e => hmine.out k e))
      have hown3 := Lib.hid (show w2.ownsRow w.heap.size 9 1 (.slice (some ⟨g2, 0, none⟩) (acc.length + 1) cap2) (acc ++ [cur.extract 0 k]).length ((acc ++ [cur.extract 0 k]).map Value.string) by
        rw [List.length_append, List.map_append]; exact hown2)
      clear hown2 hgrow2 hat2 hlt2 hwr
      go_roundw
      case rel => exact ⟨n, cur.extract (k + 1) cur.size, acc ++ [cur.extract 0 k], _, rfl, rfl, by omega, by omega, by simp; omega, hP, hown3, hb2⟩
      case measure => simp; omega
end Go.Proofs.YtajifebphcgcpaaDoor.Own
