/- NotifyFits by hand: of every row of one word or more (fewer than a thousand) it tells whether all are words of NOTIFY, each once, and NEVER alone. -/
import Derived.Test.YtnokeaiemiiicaaProg
import Derived.Test.YtnokeaiemiiicaaWWords
import Derived.WalkKit
import Derived.WalkSpells
import Derived.WalkLawsBesides
import Derived.Maps.Own
import Derived.Maps.OwnOps
import Derived.Maps.OwnSet
import Derived.Lib.Hide
import Derived.Lib.Strings
import Derived.StringKeys
import Derived.WideKeyArgs
namespace Go.Proofs.Ytnokeaiemiiicaa.Own
open Go.RowKit Go.Maps Go.WideMaps
set_option linter.unusedVariables false
set_option linter.unusedSimpArgs false

/-- nil, or an error. -/
def ErrN (ok : Bool) (v : Value) : Prop := (ok = true → v = .nilIface) ∧ (ok = false → ∃ T x, v = .iface T x)
theorem errN_nil : ErrN true .nilIface := ⟨(fun _ => rfl), (fun h => by cases h)⟩
theorem errN_some (T : TypeId) (x : Value) : ErrN false (.iface T x) := ⟨(fun h => by cases h), (fun _ => ⟨T, x, rfl⟩)⟩

def nNever : List UInt8 := [78, 69, 86, 69, 82]
def nWord (s : ByteArray) : Bool := s.toList == [78, 69, 86, 69, 82] || s.toList == [68, 69, 76, 65, 89] || s.toList == [70, 65, 73, 76, 85, 82, 69] || s.toList == [83, 85, 67, 67, 69, 83, 83]
def notifyB (l : List ByteArray) : Bool := l.all nWord && decide ((l.map (·.data.toList)).Nodup) && (decide (l.length ≤ 1) || !(l.map (·.data.toList)).contains nNever)
def NotifyPost (l : List ByteArray) (w : World) (e : Ending) (w' : World) : Prop := ∃ v, e = .returned v ∧ ErrN (notifyB l) v ∧ Below w.heap.size w w'
def keyL (s : ByteArray) : Lit := .string s.data.toList
def Sk (l : List ByteArray) (k : Nat) : DataW Unit := setOf (.agg []) ((l.take k).map keyL)
structure Good (l : List ByteArray) (k : Nat) : Prop where
  words : ∀ s ∈ l.take k, nWord s = true
  once : ((l.take k).map (·.data.toList)).Nodup

theorem isKey_all (l : List ByteArray) : ∀ x ∈ l.map keyL, WideAt.IsKeyLit x := by
  intro x hx
  obtain ⟨s, _, rfl⟩ := List.mem_map.1 hx
  trivial
theorem has_Sk (l : List ByteArray) (k : Nat) (s : List UInt8) : Maps.has (Sk l k) (.string s) = ((l.take k).map (·.data.toList)).contains s := by
  rw [Sk, has_setOf _ _ _ (isKey_all _)]
  rw [Bool.eq_iff_iff, List.any_eq_true, List.contains_iff_mem]
  constructor
  · rintro ⟨x, hx, hk⟩
    obtain ⟨t, ht, rfl⟩ := List.mem_map.1 hx
    have := WideAt.sameKey_eq hk
    simp only [keyL, Lit.string.injEq] at this
    exact List.mem_map.2 ⟨t, ht, this⟩
  · intro h
    obtain ⟨t, ht, rfl⟩ := List.mem_map.1 h
    exact ⟨keyL t, List.mem_map.2 ⟨t, ht, rfl⟩, WideAt.sameKey_self (by trivial)⟩
theorem take_succ_getD (l : List ByteArray) (k : Nat) (h : k < l.length) : l.take (k + 1) = l.take k ++ [l.getD k ByteArray.empty] := by
  rw [List.take_succ_eq_append_getElem h]; simp [List.getD_eq_getElem?_getD, List.getElem?_eq_getElem h]
theorem Sk_succ (l : List ByteArray) (k : Nat) (h : k < l.length) : Sk l (k + 1) = (Sk l k).put (keyL (l.getD k ByteArray.empty)) (.agg []) := by
  rw [Sk, take_succ_getD l k h, List.map_append, List.map_singleton, setOf_snoc]; rfl
theorem size_Sk (l : List ByteArray) (k : Nat) (hk : k ≤ l.length) (hn : ((l.take k).map (·.data.toList)).Nodup) : Maps.size (Sk l k) = k := by
  induction k with
  | zero => simp [Sk, setOf, Maps.size]
  | succ k ih =>
    have h : k < l.length := by omega
    rw [take_succ_getD l k h, List.map_append, List.map_singleton, List.nodup_append] at hn
    rw [Sk_succ l k h, size_put (D := Sk l k) (tidy_setOf _ _ (isKey_all _)), if_neg, ih (by omega) hn.1]
    rw [show keyL (l.getD k ByteArray.empty) = .string (l.getD k ByteArray.empty).data.toList from rfl, has_Sk, List.contains_iff_mem]
    intro hm
    exact hn.2.2 _ hm _ (by simp) rfl
theorem good_zero (l : List ByteArray) : Good l 0 := ⟨by simp, by simp⟩
theorem good_succ (l : List ByteArray) (k : Nat) (h : k < l.length) (g : Good l k) (hw : nWord (l.getD k ByteArray.empty) = true) (hh : Maps.has (Sk l k) (keyL (l.getD k ByteArray.empty)) = false) : Good l (k + 1) := by
  rw [show keyL (l.getD k ByteArray.empty) = .string (l.getD k ByteArray.empty).data.toList from rfl, has_Sk] at hh
  constructor
  · rw [take_succ_getD l k h]
    intro s hs
    rcases List.mem_append.1 hs with hs | hs
    · exact g.words s hs
    · rw [List.mem_singleton.1 hs]; exact hw
  · rw [take_succ_getD l k h, List.map_append, List.map_singleton, List.nodup_append]
    refine ⟨g.once, by simp, ?_⟩
    intro a ha b hb hab
    rw [List.mem_singleton.1 hb] at hab
    rw [← hab, List.contains_eq_mem, decide_eq_false_iff_not] at hh
    exact hh ha
theorem bad_word (l : List ByteArray) (k : Nat) (h : k < l.length) (hw : nWord (l.getD k ByteArray.empty) = false) : notifyB l = false := by
  have : l.all nWord = false := by
    rw [List.all_eq_false]
    exact ⟨l.getD k ByteArray.empty, by rw [List.getD_eq_getElem?_getD, List.getElem?_eq_getElem h]; exact List.getElem_mem h, by rw [hw]; simp⟩
  simp [notifyB, this]
theorem bad_twice (l : List ByteArray) (k : Nat) (h : k < l.length) (hh : Maps.has (Sk l k) (keyL (l.getD k ByteArray.empty)) = true) : notifyB l = false := by
  rw [show keyL (l.getD k ByteArray.empty) = .string (l.getD k ByteArray.empty).data.toList from rfl, has_Sk, List.contains_iff_mem] at hh
  have : decide ((l.map (·.data.toList)).Nodup) = false := by
    rw [decide_eq_false_iff_not]
    intro hn
    rw [← List.take_append_drop (k + 1) l, take_succ_getD l k h, List.map_append, List.map_append, List.map_singleton, List.nodup_append, List.nodup_append] at hn
    exact hn.1.2.2 _ hh _ (by simp) rfl
  unfold notifyB; rw [this]; simp
theorem good_end (l : List ByteArray) (g : Good l l.length) : notifyB l = (decide (l.length ≤ 1) || !(l.map (·.data.toList)).contains nNever) := by
  have h1 : l.all nWord = true := List.all_eq_true.2 (fun s hs => g.words s (by rw [List.take_length]; exact hs))
  have h2 : decide ((l.map (·.data.toList)).Nodup) = true := decide_eq_true (by have := g.once; rwa [List.take_length] at this)
  unfold notifyB; rw [h1, h2]; simp
theorem nWord_cases (s : ByteArray) : (nWord s = false ∧ (s.toList == [78, 69, 86, 69, 82]) = false ∧ (s.toList == [68, 69, 76, 65, 89]) = false ∧ (s.toList == [70, 65, 73, 76, 85, 82, 69]) = false ∧ (s.toList == [83, 85, 67, 67, 69, 83, 83]) = false) ∨
    (nWord s = true ∧ (s.toList == [78, 69, 86, 69, 82]) = true) ∨ (nWord s = true ∧ (s.toList == [78, 69, 86, 69, 82]) = false ∧ (s.toList == [68, 69, 76, 65, 89]) = true) ∨
    (nWord s = true ∧ (s.toList == [78, 69, 86, 69, 82]) = false ∧ (s.toList == [68, 69, 76, 65, 89]) = false ∧ (s.toList == [70, 65, 73, 76, 85, 82, 69]) = true) ∨
    (nWord s = true ∧ (s.toList == [78, 69, 86, 69, 82]) = false ∧ (s.toList == [68, 69, 76, 65, 89]) = false ∧ (s.toList == [70, 65, 73, 76, 85, 82, 69]) = false ∧ (s.toList == [83, 85, 67, 67, 69, 83, 83]) = true) := by
  unfold nWord
  cases (s.toList == [78, 69, 86, 69, 82]) <;> cases (s.toList == [68, 69, 76, 65, 89]) <;> cases (s.toList == [70, 65, 73, 76, 85, 82, 69]) <;> cases (s.toList == [83, 85, 67, 67, 69, 83, 83]) <;> simp

theorem notify_law : Keyed Try.prog 49 := string_keyed Try.underlying49
theorem notify_zero (w : World) : (zeroValue 77).run Try.prog w = .ok (.agg #[]) w := by kernel_rfl

set_option maxHeartbeats 1000000 in
theorem check_any (b off cap : Nat) (l : List ByteArray) (w : World) (hl : 0 < l.length) (hlen : l.length ≤ 1000) (hb : b < w.heap.size)
    (hc : ∀ j, j < l.length → w.cell? ⟨b, off + j, none⟩ = some (.string (l.getD j ByteArray.empty))) (hsz : ∀ s ∈ l, s.size ≤ maxLen) :
    Calls Try.prog 36 #[.slice (some ⟨b, off, none⟩) l.length cap] w (NotifyPost l w) := by
  have hmm := @run_makeMap Try.prog
  have h0 : ((l.length : Int) == 0) = false := by rw [beq_eq_false_iff_ne]; omega
  have hm : (l.length : Int) ≤ 1000 := by omega
  go_enter Try.func36, Try.ntmps36
  go_wp2
  go_loopw [17] (fun i wr => ∃ k : Nat, k ≤ l.length ∧ i = .int .i64 k ∧ wr.ownsMap Try.prog 49 unitElem w.heap.size k (Sk l k) ∧ Below w.heap.size w wr ∧ Good l k) (fun i _ => l.length - (intOf i).toNat)
  case atStart => exact ⟨0, Nat.zero_le _, rfl, by simp only [Sk, List.take_zero, List.map_nil, setOf, List.foldl_nil]; exact World.ownsMap_made _ _ _ _, (Below.refl _ _).alloc (Nat.le_refl _) _, good_zero l⟩
  case round =>
    obtain ⟨k, hk, rfl, hown, hnx, hgood⟩ := hrel
    by_cases hlt : k < l.length
    · obtain ⟨s, hs⟩ : ∃ s, s = l.getD k ByteArray.empty := ⟨_, rfl⟩
      have hcx : wr.cell? ⟨b, off + k, none⟩ = some (.string s) := by rw [hs]; exact (hnx.cell (by exact hb)).trans (hc k hlt)
      have hmem : s ∈ l := by rw [hs, List.getD_eq_getElem?_getD, List.getElem?_eq_getElem hlt]; exact List.getElem_mem hlt
      have hkey : keyOf Try.prog 49 (.string s) = some (keyL s) := keyOf_string_mk Try.underlying49 (hsz s hmem)
      have hs' := Lib.hid hs
      have hg' := Lib.hid hgood
      have hnx' := Lib.hid hnx
      clear hgood hnx hs hmem hc hsz hmm
      rcases nWord_cases s with ⟨hw, c1, c2, c3, c4⟩ | ⟨hw, c1⟩ | ⟨hw, c1, c2⟩ | ⟨hw, c1, c2, c3⟩ | ⟨hw, c1, c2, c3, c4⟩
      · have hw' := Lib.hid hw
        clear hw
        go_wp2
        go_ret
        exact ⟨_, rfl, by rw [bad_word l k hlt (by rw [← hs'.out]; exact hw'.out)]; exact errN_some _ _, hnx'.out.alloc hnx'.out.size _⟩
      all_goals
        have hw' := Lib.hid hw
        clear hw
        cases hh : Maps.has (Sk l k) (keyL s) with
        | true =>
          have hh' := Lib.hid hh
          go_wp2_with (first
            | (at_lookup; refine wpList_lookup_own_unit _ rfl _ _ 76 rfl 49 77 notify_law Try.underlying76 (notify_zero _) w.heap.size k _ rfl hown _ _ rfl hkey ?_)
            | go_in)
          go_ret
          refine ⟨_, rfl, by rw [bad_twice l k hlt (by rw [← hs'.out]; exact hh'.out)]; exact errN_some _ _, ?_⟩
          have hz := hnx'.out.size
          exact (hnx'.out.alloc hz _).alloc (by simp; omega) _
        | false =>
          go_wp2_with (first
            | (at_lookup; refine wpList_lookup_own_unit _ rfl _ _ 76 rfl 49 77 notify_law Try.underlying76 (notify_zero _) w.heap.size k _ rfl hown _ _ rfl hkey ?_)
            | (at_mapUpdate; refine wpList_mapUpdate_own _ rfl _ _ _ 76 rfl 49 77 notify_law Try.underlying76 (unitElem (H := Unit)) w.heap.size k _ rfl (hown.alloc _) (by unfold maxLen; omega) _ _ _ rfl rfl hkey _ [] unitElem_mk ?_; intro w1 hown1 hgrow1)
            | go_in)
          have hz := hnx'.out.size
          exact ⟨⟨k + 1, by omega, by go_num, (by rw [Sk_succ l k hlt, ← hs'.out]; exact hown1), (hnx'.out.alloc hz _).grown hgrow1 (by simp; omega) (fun j hj => by cases hj; exact Nat.le_refl _), good_succ l k hlt hg'.out (by rw [← hs'.out]; exact hw'.out) (by rw [← hs'.out]; exact hh)⟩, by simp [intOf]; omega⟩
    · obtain rfl : k = l.length := by omega
      have hfin := Lib.hid (good_end l hgood)
      have hsize := size_Sk l l.length (Nat.le_refl _) hgood.once
      have hkey : keyOf Try.prog 49 (.string ⟨#[78, 69, 86, 69, 82]⟩) = some (.string [78, 69, 86, 69, 82]) := keyOf_string_mk Try.underlying49 (by decide)
      have hhas := has_Sk l l.length [78, 69, 86, 69, 82]
      rw [List.take_length] at hhas
      have hnx' := Lib.hid hnx
      clear hnx hgood hc hsz hmm
      have hz := hnx'.out.size
      cases hN : (l.map (·.data.toList)).contains [78, 69, 86, 69, 82] with
      | false =>
        rw [hN] at hhas
        have hres := Lib.hid (show notifyB l = true by rw [hfin.out]; show (_ || !((l.map (·.data.toList)).contains [78, 69, 86, 69, 82])) = true; rw [hN]; simp)
        have hN' := Lib.hid hN
        clear hN
        go_wp2_with (first
            | (at_lookup; refine wpList_lookup_own_unit _ rfl _ _ 76 rfl 49 77 notify_law Try.underlying76 (notify_zero _) w.heap.size l.length _ rfl hown _ _ rfl hkey ?_)
            | go_in)
        go_ret
        exact ⟨_, rfl, by rw [hres.out]; exact errN_nil, hnx'.out.alloc hz _⟩
      | true =>
        rw [hN] at hhas
        by_cases h1 : (1 : Int) < (l.length : Int)
        · have hres := Lib.hid (show notifyB l = false by rw [hfin.out]; show (_ || !((l.map (·.data.toList)).contains [78, 69, 86, 69, 82])) = false; rw [hN]; simp; omega)
          have hN' := Lib.hid hN
          clear hN
          have hln := fun ty => ((hown.alloc (.cells #[] 77)).len Try.underlying76 ty)
          simp only [hsize] at hln
          go_wp2_with (first
            | (at_lookup; refine wpList_lookup_own_unit _ rfl _ _ 76 rfl 49 77 notify_law Try.underlying76 (notify_zero _) w.heap.size l.length _ rfl hown _ _ rfl hkey ?_)
            | go_in)
          go_ret
          exact ⟨_, rfl, by rw [hres.out]; exact errN_some _ _, (hnx'.out.alloc hz _).alloc (by simp; omega) _⟩
        · have hres := Lib.hid (show notifyB l = true by rw [hfin.out]; show (_ || !((l.map (·.data.toList)).contains [78, 69, 86, 69, 82])) = true; rw [hN]; simp; omega)
          have hN' := Lib.hid hN
          clear hN
          have hln := fun ty => ((hown.alloc (.cells #[] 77)).len Try.underlying76 ty)
          simp only [hsize] at hln
          go_wp2_with (first
            | (at_lookup; refine wpList_lookup_own_unit _ rfl _ _ 76 rfl 49 77 notify_law Try.underlying76 (notify_zero _) w.heap.size l.length _ rfl hown _ _ rfl hkey ?_)
            | go_in)
          go_ret
          exact ⟨_, rfl, by rw [hres.out]; exact errN_nil, hnx'.out.alloc hz _⟩

theorem info_dsn : (Try.prog.info? 49).map (fun i => (i.zero, i.size, i.bytes)) = some (some (.string ⟨#[]⟩), 1, 16) := by kernel_rfl

theorem lt_of_cell {w : World} {a : Addr} {v : Value} (h : w.cell? a = some v) : a.block < w.heap.size := by
  rcases Nat.lt_or_ge a.block w.heap.size with h' | h'
  · exact h'
  · simp [World.cell?, Array.getElem?_eq_none h'] at h
theorem add_block (a : Addr) (n : Nat) : (a.add n).block = a.block := by unfold Addr.add; split <;> rfl

set_option maxHeartbeats 1000000 in
theorem fits_any (ad : Addr) (cap : Nat) (l : List ByteArray) (w : World) (hl : 0 < l.length) (hlen : l.length ≤ 1000) (hb : ad.block < w.heap.size)
    (hc : ∀ j, j < l.length → w.cell? (ad.add j) = some (.string (l.getD j ByteArray.empty))) (hsz : ∀ s ∈ l, s.size ≤ maxLen) :
    Calls Try.prog 12 #[.slice (some ad) l.length cap] w fun e w' => e = .returned (.bool (notifyB l)) ∧ Below w.heap.size w w' := by
  obtain ⟨i0, hi, hz0, hz1, hz2⟩ := info_parts info_dsn
  have hm : (l.length : Int) ≤ 1000 := by omega
  go_enter Try.func12, Try.ntmps12
  go_wp2
  go_loopw [3, 8] (fun v i wr => ∃ k : Nat, k ≤ l.length ∧ i = .int .i64 k ∧ wr.ownsRow w.heap.size 49 1 v k ((l.take k).map Value.string) ∧ Below w.heap.size w wr) (fun _ i _ => l.length - (intOf i).toNat)
  case atStart => exact ⟨0, Nat.zero_le _, rfl, World.ownsRow_nil _ _ _ _, Below.refl _ _⟩
  case round =>
    obtain ⟨k, hk, rfl, hrow, hnx⟩ := hrel
    by_cases hlt : k < l.length
    · obtain ⟨s, hs⟩ : ∃ s, s = l.getD k ByteArray.empty := ⟨_, rfl⟩
      have hcx : wr.cell? (ad.add k) = some (.string s) := by rw [hs]; exact (hnx.cell (by rw [add_block]; exact hb)).trans (hc k hlt)
      have hs' := Lib.hid hs
      have hnx' := Lib.hid hnx
      have hz := hnx.size
      clear hnx hs hc hsz
      go_wp2_with (first
        | (at_builtin; refine wpList_append_own _ rfl _ _ 48 rfl w.heap.size 49 i0 (.string ⟨#[]⟩) 1 16 Try.underlying48 hi hz0 hz1 hz2 rfl (by decide) _ _ _ rfl (hrow.alloc _) ⟨wr.heap.size, 0, none⟩ 1 1 [.string s] rfl rfl (cell_one_new _ _ _) (by intro u hu; simp at hu; subst hu; rfl) (by unfold maxLen; omega) (by omega) (by simp; omega) ?_; intro v' w1 hown1 hgrow1 hnil1)
        | go_in)
      exact ⟨⟨k + 1, by omega, by go_num, (by rw [take_succ_getD l k hlt, List.map_append, ← hs'.out]; exact hown1), (hnx'.out.alloc hz _).grown hgrow1 (by simp; omega) (fun j hj => (hrow.lt j hj).1)⟩, by simp [intOf]; omega⟩
    · obtain rfl : k = l.length := by omega
      rw [List.take_length] at hrow
      obtain ⟨g, cp, rfl, hg1, hg2⟩ := hrow.form hl
      have hcell : ∀ j, j < l.length → wr.cell? ⟨g, 0 + j, none⟩ = some (.string (l.getD j ByteArray.empty)) := fun j hj => by
        have := hrow.cells (g := g) rfl j (.string (l.getD j ByteArray.empty)) (by simp [List.getElem?_eq_getElem hj, List.getD_eq_getElem?_getD])
        have hpl : (⟨g, 0, none⟩ : Addr).add j = ⟨g, 0 + j, none⟩ := by unfold Addr.add; split <;> simp_all
        rwa [hpl] at this
      have hcon := Lib.hid (check_any g 0 cp l wr hl hlen (by have := (hrow.lt g rfl).2; exact this) hcell hsz)
      have hnx' := Lib.hid hnx
      have hz := hnx.size
      clear hnx hrow hc hsz hcell
      generalize hN : notifyB l = ok
      cases ok with
      | true =>
        go_wp2_with (first
          | (go_at_call 36; refine hcon.out.mono ?_; rintro e w2 ⟨v, rfl, herr, hbb⟩; rw [hN] at herr; obtain rfl := herr.1 rfl)
          | go_in)
        go_ret
        refine ⟨?_, hnx'.out.trans (hbb.mono hz)⟩
        show Ending.returned (Value.bool true) = _
        rw [hN]
      | false =>
        go_wp2_with (first
          | (go_at_call 36; refine hcon.out.mono ?_; rintro e w2 ⟨v, rfl, herr, hbb⟩; rw [hN] at herr; obtain ⟨T, x, rfl⟩ := herr.2 rfl)
          | go_in)
        go_ret
        refine ⟨?_, hnx'.out.trans (hbb.mono hz)⟩
        show Ending.returned (Value.bool false) = _
        rw [hN]

open Go.Proofs.YtnokeaiemiiicaaW.PrintWords in
/-- In the print's form. -/
def impl_NotifyFits.f (l0 : List ByteArray) : Option (Bool) := if 0 < l0.length ∧ l0.length ≤ 1000 ∧ l0.all (fun s => decide (s.size ≤ maxLen)) = true then some (notifyB l0) else none
open Go.Proofs.YtnokeaiemiiicaaW.PrintWords in
theorem impl_NotifyFits.calls (A0 : Option Addr) (c0 : Nat) (l0 : List ByteArray) (r : Bool) (w : World) (hr0 : Kd.C Kd.string w A0 l0.length l0) (hc0 : l0.length ≤ c0) (h : impl_NotifyFits.f l0 = some r) :
    Calls Try.prog 12 #[.slice A0 l0.length c0] w fun e w' => e = .returned (.bool r) ∧ Below w.heap.size w w' := by
  unfold impl_NotifyFits.f at h
  split at h
  · rename_i hc
    obtain ⟨h1, h2, h3⟩ := hc
    cases h
    have hr := Kd.reads_of_C (enc := Value.string) (d := ByteArray.empty) (h1 := fun _ => rfl) hr0
    obtain ⟨ad, rfl, hcell⟩ := hr.2.2 h1
    have hb : ad.block < w.heap.size := by
      have := hcell 0 h1
      rw [Addr.add, if_pos rfl] at this
      exact (lt_of_cell this)
    exact fits_any ad c0 l0 w h1 h2 hb hcell (fun s hs => by simpa using List.all_eq_true.1 h3 s hs)
  · cases h
end Go.Proofs.Ytnokeaiemiiicaa.Own
