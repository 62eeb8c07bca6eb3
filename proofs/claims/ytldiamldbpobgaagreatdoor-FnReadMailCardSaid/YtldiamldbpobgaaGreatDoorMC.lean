/- Plain lemmas on texts as lists of bytes and on the print's words; no program. zzIndex of a eqsgn (printed), plainly. zzSplit at equality signs, by hand. -/
import Derived.Test.YtldiamldbpobgaaGreatDoorWWords
import Derived.Test.YtldiamldbpobgaaGreatDoorPzzSplitx1
import Derived.Test.YtldiamldbpobgaaGreatDoorOne
import Derived.Lib.Strings
import Derived.Deep.AppendLies
import Derived.KernelRfl
namespace Go.Proofs.YtldiamldbpobgaaGreatDoor.Own
open Go.RowKit Go.Proofs.YtldiamldbpobgaaGreatDoorW.PrintWords
set_option linter.unusedVariables false
set_option linter.unusedSimpArgs false

theorem wrap_add {i n : Int} (h0 : -9223372036854775808 ≤ i + n) (h : i + n < 9223372036854775808) : wrap64 (i + n) = i + n := by unfold wrap64; omega
theorem wrap_sub {i n : Int} (h0 : -9223372036854775808 ≤ i - n) (h : i - n < 9223372036854775808) : wrap64 (i - n) = i - n := by unfold wrap64; omega
theorem wrap_succ {i : Nat} (h : i < 9223372036854775807) : wrap64 ((i : Int) + 1) = ((i + 1 : Nat) : Int) := by unfold wrap64; omega
theorem ba_ext {a b : ByteArray} (h : a.data.toList = b.data.toList) : a = b := ByteArray.ext (Array.ext' h)
theorem ba_ext' {a b : ByteArray} (h : a.toList = b.toList) : a = b := ba_ext (by rw [← Lib.toList_data, ← Lib.toList_data, h])
theorem size_list (s : ByteArray) : s.size = s.data.toList.length := Lib.size_eq s
theorem size_mk (l : List UInt8) : (⟨l.toArray⟩ : ByteArray).size = l.length := by rw [size_list]
theorem bt_nat (s : ByteArray) (i : Nat) (h : i < s.size) : bt s (i : Int) = ((s.data.toList[i]'(by rw [size_list] at h; exact h)).toNat : Int) := by
  unfold bt
  rw [dif_pos (by simpa using h)]
  simp
  rfl
theorem bt_some (s : ByteArray) (i : Nat) (c : UInt8) (h : s.data.toList[i]? = some c) : bt s (i : Int) = (c.toNat : Int) := by
  have hi : i < s.size := by
    rw [size_list]
    rcases Nat.lt_or_ge i s.data.toList.length with h' | h'
    · exact h'
    · rw [List.getElem?_eq_none h'] at h; cases h
  rw [bt_nat s i hi]
  rw [List.getElem?_eq_getElem (by rw [size_list] at hi; exact hi)] at h
  cases h; rfl
theorem u8_lt (c : UInt8) : (c.toNat : Int) < 256 := by have := c.toNat_lt; omega
theorem u8_eq {c d : UInt8} (h : (c.toNat : Int) = (d.toNat : Int)) : c = d := UInt8.toNat_inj.1 (by omega)
theorem u8_eq_lit {c : UInt8} {n : Nat} (hn : n < 256) (h : (c.toNat : Int) = n) : c = UInt8.ofNat n := by
  apply UInt8.toNat_inj.1
  rw [UInt8.toNat_ofNat']
  omega
theorem rd_nat {α : Type} (d : α) (l : List α) (i : Nat) : rdOf d l (i : Int) = l.getD i d := by simp [rdOf]
theorem rd_some {α : Type} (d : α) (l : List α) (i : Nat) (x : α) (h : l[i]? = some x) : rdOf d l (i : Int) = x := by simp [rdOf, List.getD_eq_getElem?_getD, h]
theorem ext_list (s : ByteArray) (a b : Nat) : (s.extract a b).data.toList = (s.data.toList.drop a).take (b - a) := Lib.extract_data s a b
theorem app_list (a b : ByteArray) : (a ++ b).data.toList = a.data.toList ++ b.data.toList := by rw [ByteArray.data_append, Array.toList_append]
theorem ext_end (s : ByteArray) (a : Nat) : (s.extract a s.size).data.toList = s.data.toList.drop a := by
  rw [ext_list, List.take_of_length_le (by rw [List.length_drop, size_list]; omega)]
theorem ext_size (s : ByteArray) (a b : Nat) : (s.extract a b).size = min (b - a) (s.size - a) := by
  rw [size_list, ext_list, List.length_take, List.length_drop, size_list]
/-- One more element of what a loop copies. -/
theorem take_snoc {α : Type} (d : α) (t : List α) (i : Nat) (h : i < t.length) : t.take i ++ [rdOf d t (i : Int)] = t.take (i + 1) := by
  rw [List.take_succ_eq_append_getElem h, rd_some d t i t[i] (List.getElem?_eq_getElem h)]
theorem Ev.one {α : Type} {g : Nat → Option α} {r : α} (h : ∀ k, g (k + 1) = some r) : Ev g r := Ev.step (f := fun _ => some r) h (Ev.now r)
theorem Ev.always {α : Type} {g : Nat → Option α} {r : α} (h : ∀ k, g k = some r) : Ev g r := ⟨0, fun k _ => h k⟩
theorem Ev.bindc {α β : Type} {g : Nat → Option α} {f : Nat → α → Option β} {a : α} {r : β} (h : Ev g a) (k : Ev (fun n => f n a) r) : Ev (fun n => (g n).bind (f n)) r := Ev.bind h k
end Go.Proofs.YtldiamldbpobgaaGreatDoor.Own

namespace Go.Proofs.YtldiamldbpobgaaGreatDoor.Own
open Go.RowKit Go.Lib Go.Proofs.YtldiamldbpobgaaGreatDoorW.PrintWords Go.Proofs.YtldiamldbpobgaaGreatDoorW.PrintLast Go.Proofs.YtldiamldbpobgaaGreatDoorW.PrintMore
set_option linter.unusedVariables false
set_option linter.unusedSimpArgs false

theorem get_list (s : ByteArray) (j : Nat) (h : j < s.size) : s.data.toList[j]? = some (s.get! j) := by
  rw [List.getElem?_eq_getElem (by simpa using h)]
  simp [ByteArray.get!, getElem!_pos, h]
/-- The first eqsgn's place from i on, or -1. -/
def cmFrom (s : ByteArray) : Nat → Nat → Int
  | 0, _ => -1
  | d + 1, i => if i < s.size then (if s.get! i = 61 then (i : Int) else cmFrom s d (i + 1)) else -1
def cm (s : ByteArray) : Int := cmFrom s (s.size + 1 + 1) 0
theorem ext_one (s : ByteArray) (i : Nat) (h : i < s.size) : (s.extract i (i + 1)).toList = [s.get! i] := by
  rw [ByteArray.toList_eq]
  have h1 := get_list s i h
  apply List.ext_getElem?
  intro j
  rw [show (s.extract i (i + 1)).data.toList = ((s.data.toList.drop i).take 1) by simp [ByteArray.data_extract]]
  rw [List.getElem?_take, List.getElem?_drop]
  cases j with
  | zero => simpa using h1
  | succ j => simp
theorem zzIndex_run (s : ByteArray) (hs : s.size ≤ 1000000) : ∀ (d i : Nat), s.size + 1 - i ≤ d → i ≤ s.size → PzzSplit.gosmtp_zzIndex.l0 (d + 1) s ⟨#[61]⟩ (i : Int) = some (cmFrom s (d + 1) i)
  | d, i, hd, hi => by
    have hw : wrap64 ((i : Int) + (((⟨#[61]⟩ : ByteArray).size : Nat) : Int)) = ((i + 1 : Nat) : Int) := by
      show wrap64 ((i : Int) + (1 : Int)) = _
      unfold wrap64; omega
    rw [PzzSplit.gosmtp_zzIndex.l0, hw, cmFrom]
    by_cases hlt : i < s.size
    · rw [if_pos (by omega), if_pos (by omega), if_pos (by omega), if_pos hlt, Int.toNat_natCast, Int.toNat_natCast, ext_one s i hlt]
      by_cases hc : s.get! i = 61
      · rw [if_pos (by rw [hc, ByteArray.toList_eq]), if_pos hc]
      · rw [if_neg (by
          intro h
          have h2 : [s.get! i] = [(61 : UInt8)] := h.trans (by rw [ByteArray.toList_eq])
          simp at h2
          exact hc h2), if_neg hc]
        obtain ⟨d, rfl⟩ : ∃ d', d = d' + 1 := ⟨d - 1, by omega⟩
        rw [show wrap64 ((i : Int) + 1) = ((i + 1 : Nat) : Int) by unfold wrap64; omega]
        exact zzIndex_run s hs d (i + 1) (by omega) (by omega)
    · rw [if_neg (by omega), if_neg hlt]
theorem eqsgn_any (s : ByteArray) (hs : s.size ≤ 1000000) (w : World) :
    Calls Tryz.prog 60 #[.string s, .string ⟨#[61]⟩] w fun e w' => e = .returned (.int .i64 (cm s)) ∧ Drawn0 w w' :=
  PzzSplit.gosmtp_zzIndex.calls (s.size + 1 + 1) s ⟨#[61]⟩ (cm s) w (by
    show PzzSplit.gosmtp_zzIndex.l0 (s.size + 1 + 1) s ⟨#[61]⟩ 0 = _
    have h := zzIndex_run s hs (s.size + 1) 0 (by omega) (by omega)
    exact h)
theorem cmFrom_cases (s : ByteArray) : ∀ (d i : Nat), s.size + 1 - i ≤ d → cmFrom s d i = -1 ∨ ∃ k : Nat, cmFrom s d i = (k : Int) ∧ i ≤ k ∧ k < s.size ∧ s.get! k = 61
  | 0, i, h => .inl rfl
  | d + 1, i, h => by
    rw [cmFrom]
    by_cases hlt : i < s.size
    · rw [if_pos hlt]
      by_cases hc : s.get! i = 61
      · rw [if_pos hc]; exact .inr ⟨i, rfl, Nat.le_refl _, hlt, hc⟩
      · rw [if_neg hc]
        rcases cmFrom_cases s d (i + 1) (by omega) with h | ⟨k, h1, h2, h3⟩
        · exact .inl h
        · exact .inr ⟨k, h1, by omega, h3⟩
    · rw [if_neg hlt]; exact .inl rfl
theorem cm_cases (s : ByteArray) : cm s = -1 ∨ ∃ k : Nat, cm s = (k : Int) ∧ k < s.size := by
  rcases cmFrom_cases s (s.size + 1 + 1) 0 (by omega) with h | ⟨k, h1, _, h3, _⟩
  · exact .inl h
  · exact .inr ⟨k, h1, h3⟩
/-- A text's parts between equality signs. -/
def splitN : Nat → ByteArray → List ByteArray
  | 0, s => [s]
  | n + 1, s => if cm s < 0 then [s] else s.extract 0 (cm s).toNat :: splitN n (s.extract ((cm s).toNat + 1) s.size)
end Go.Proofs.YtldiamldbpobgaaGreatDoor.Own

namespace Go.Proofs.YtldiamldbpobgaaGreatDoor.Own
open Go.RowKit Go.Lib Go.Proofs.YtldiamldbpobgaaGreatDoorW.PrintWords
set_option linter.unusedVariables false
set_option linter.unusedSimpArgs false

theorem info_str' : (Tryz.prog.info? 9).map (fun i => (i.zero, i.size, i.bytes)) = some (some (.string ⟨#[]⟩), 1, 16) := by kernel_rfl
def parts (s : ByteArray) : List ByteArray := splitN s.size s
def SplitIs (s : ByteArray) (w : World) (e : Ending) (w' : World) : Prop := ∃ g cap, e = .returned (.slice (some ⟨g, 0, none⟩) (parts s).length cap) ∧
  w'.ownsRow w.heap.size 9 1 (.slice (some ⟨g, 0, none⟩) (parts s).length cap) (parts s).length ((parts s).map Value.string) ∧ Below w.heap.size w w'
theorem splitN_len : ∀ (n : Nat) (s : ByteArray), (splitN n s).length ≤ n + 1
  | 0, s => by simp [splitN]
  | n + 1, s => by
    rw [splitN]
    split
    · simp
    · rw [List.length_cons]; have := splitN_len n (s.extract ((cm s).toNat + 1) s.size); omega
theorem one_str (W : World) (B : Nat) (hB : W.heap.size = B) (p : Value) (t : TypeId) : ∀ j u, [p][j]? = some u → (W.alloc (.cells #[p] t)).cell? ((⟨B, 0, none⟩ : Addr).add j) = some u := by
  subst hB
  intro j u hj
  have hadd : (⟨W.heap.size, 0, none⟩ : Addr).add j = ⟨W.heap.size, j, none⟩ := by unfold Addr.add; split <;> simp_all
  rw [hadd, cell_of_row _ _ j _ _ _ (heap_alloc_new W _)]
  simpa using hj

set_option maxHeartbeats 2000000 in
set_option maxRecDepth 100000 in
theorem split_any (s : ByteArray) (hs : s.size ≤ 1000000) (w : World) :
    Calls Tryz.prog 37 #[.string s, .string ⟨#[61]⟩] w (SplitIs s w) := by
  obtain ⟨i0, hi0, hz0, hz1, hz2⟩ := info_parts info_str'
  have hcm := Lib.hid (fun (t : ByteArray) (h : t.size ≤ 1000000) W => eqsgn_any t h W)
  go_enter Tryz.func37, Tryz.ntmps37
  go_wp2_with fail
  go_loopw [0, 5, 8] (fun s0 s5 _ wr => ∃ (n : Nat) (cur : ByteArray) (acc : List ByteArray) (v : Value), s0 = .string cur ∧ s5 = v ∧ cur.size ≤ n ∧ cur.size ≤ 1000000 ∧ acc.length + n ≤ s.size ∧ Hid (acc ++ splitN n cur = parts s) ∧ Hid (wr.ownsRow w.heap.size 9 1 v acc.length (acc.map Value.string)) ∧ Hid (Below w.heap.size w wr)) (fun s0 _ _ _ => match s0 with | .string t => t.size | _ => 0)
  case atStart => exact ⟨s.size, s, [], .slice none 0 0, rfl, rfl, Nat.le_refl _, hs, by simp, rfl, World.ownsRow_nil _ _ _ _, Below.refl _ _⟩
  case round =>
    obtain ⟨wx, hwx⟩ : ∃ wx : World, wx = wr := ⟨_, rfl⟩
    rw [← hwx] at hrel ⊢
    clear hwx
    obtain ⟨n, cur, acc, v, rfl, rfl, hcn, hcs, han, hR, hown, hb⟩ := hrel
    have hcall := Lib.hid (hcm.out cur hcs wx)
    go_wp2_with fail
    refine (hcall.out).mono ?_
    rintro e w1 ⟨rfl, hd1⟩
    have hb1 := Lib.hid (hb.out.trans (hd1.below.mono hb.out.size))
    have hal : acc.length ≤ 1000000 := by omega
    have hws : w.heap.size ≤ w1.heap.size := hb1.out.size
    have hownA := own_move hown.out (fun k hk => hd1.below.block k (World.ownsRow.lt hown.out k hk).2)
    have hmine := Lib.hid (fun k hk => (World.ownsRow.lt hown.out k hk).1)
    rcases cm_cases cur with hneg | ⟨k, hk, hkc⟩
    · have hown1 := Lib.hid (hownA.alloc (.cells #[.string cur] 9))
      have hnw := Lib.hid (one_str w1 w1.heap.size rfl (.string cur) 9)
      have hbA := Lib.hid (hb1.out.alloc hws (.cells #[.string cur] 9))
      have hneg' := Lib.hid hneg
      rw [hneg]
      clear hownA hneg
      go_wp2_with (at_builtin; refine wpList_append_lies _ rfl (.tmp 42) (.tmp 44) 69 rfl w.heap.size 9 i0 (.string ⟨#[]⟩) 1 16 Tryz.underlying69 hi0 hz0 hz1 hz2 rfl (by decide) u5 acc.length (acc.map Value.string) rfl hown1.out ⟨w1.heap.size, 0, none⟩ 1 1 [.string (cur)] rfl rfl hnw.out (by intro u hu; simp at hu; subst hu; rfl) (by decide) (by unfold maxLen; omega) (by omega) (by simp; omega) _ rfl ?_; intro g2 cap2 w2 hown2 hgrow2 hat2 hlt2)
      have hP : parts s = acc ++ [cur] := by
        rw [← hR.out]
        cases n with
        | zero => rfl
        | succ n => rw [splitN, if_pos (by rw [hneg'.out]; decide)]
      have hfin : SplitIs s w (.returned (.slice (some ⟨g2, 0, none⟩) (acc.length + 1) cap2)) w2 := by
        refine ⟨g2, cap2, ?_, ?_, Below.grown hbA.out hgrow2 (by simp; omega) (fun k e => hmine.out k e)⟩
        · rw [hP, List.length_append]; rfl
        · rw [hP, List.length_append, List.map_append]; exact hown2
      have hfin := Lib.hid hfin
      clear hP hown2 hgrow2 hat2 hlt2
      go_ret
      exact hfin.out
    · obtain ⟨n, rfl⟩ : ∃ n', n = n' + 1 := ⟨n - 1, by omega⟩
      have hown1 := Lib.hid (hownA.alloc (.cells #[.string (cur.extract 0 k)] 9))
      have hnw := Lib.hid (one_str w1 w1.heap.size rfl (.string (cur.extract 0 k)) 9)
      have hbA := Lib.hid (hb1.out.alloc hws (.cells #[.string (cur.extract 0 k)] 9))
      have hP := Lib.hid (show (acc ++ [cur.extract 0 k]) ++ splitN n (cur.extract (k + 1) cur.size) = parts s by
        rw [← hR.out, splitN, if_neg (by rw [hk]; omega), hk, Int.toNat_natCast, List.append_assoc]
        rfl)
      have hsz : (cur.extract (k + 1) cur.size).size = cur.size - (k + 1) := by simp
      rw [hk]
      have hwr : IntKind.i64.wrap ((k : Int) + 1) = (k : Int) + 1 := by rw [IntKind.wrap_i64]; omega
      clear hownA hk hR hown
      go_wp2_with (at_builtin; refine wpList_append_lies _ rfl (.tmp 46) (.tmp 50) 69 rfl w.heap.size 9 i0 (.string ⟨#[]⟩) 1 16 Tryz.underlying69 hi0 hz0 hz1 hz2 rfl (by decide) u5 acc.length (acc.map Value.string) rfl hown1.out ⟨w1.heap.size, 0, none⟩ 1 1 [.string (cur.extract 0 k)] rfl rfl hnw.out (by intro u hu; simp at hu; subst hu; rfl) (by decide) (by unfold maxLen; omega) (by omega) (by simp; omega) _ rfl ?_; intro g2 cap2 w2 hown2 hgrow2 hat2 hlt2)
      have hb2 := Lib.hid (Below.grown hbA.out hgrow2 (by simp; omega) (fun k e => hmine.out k e))
      have hown3 := Lib.hid (show w2.ownsRow w.heap.size 9 1 (.slice (some ⟨g2, 0, none⟩) (acc.length + 1) cap2) (acc ++ [cur.extract 0 k]).length ((acc ++ [cur.extract 0 k]).map Value.string) by
        rw [List.length_append, List.map_append]; exact hown2)
      clear hown2 hgrow2 hat2 hlt2 hwr
      go_roundw
      case rel => exact ⟨n, cur.extract (k + 1) cur.size, acc ++ [cur.extract 0 k], _, rfl, rfl, by omega, by omega, by simp; omega, hP, hown3, hb2⟩
      case measure => simp; omega
end Go.Proofs.YtldiamldbpobgaaGreatDoor.Own
