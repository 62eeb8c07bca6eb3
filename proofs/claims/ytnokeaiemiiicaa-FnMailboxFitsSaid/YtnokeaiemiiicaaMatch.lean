/- MailboxInfo.match by hand: for every text and pattern of ASCII it tells whether the text is what the pattern stands for. -/
import Derived.Test.YtnokeaiemiiicaaAny
import Derived.Test.YtnokeaiemiiicaaStrs
import Derived.Test.YtnokeaiemiiicaaWild
import Derived.Deep.QuietTactic
import Derived.BigQuiet
namespace Go.Proofs.Ytnokeaiemiiicaa.Own
open Go.RowKit
set_option linter.unusedVariables false
set_option linter.unusedSimpArgs false

def MatchPost (d : UInt8) (p s : ByteArray) (w : World) (e : Ending) (w' : World) : Prop := e = .returned (.bool (wild d p.data.toList s.data.toList)) ∧ Below w.heap.size w w'
def starSet : ByteArray := ⟨#[42, 37]⟩
theorem starSet_mem (c : UInt8) : c ∈ starSet.data.toList ↔ c = 42 ∨ c = 37 := by simp [starSet]
theorem anyIdx_cases (p : ByteArray) : (anyIdx p starSet = -1 ∧ noWild p.data.toList) ∨ ∃ (i : Nat) (c : UInt8), anyIdx p starSet = (i : Int) ∧ p.data.toList[i]? = some c ∧ (c = 42 ∨ c = 37) ∧ noWild (p.data.toList.take i) := by
  unfold anyIdx
  cases h : p.data.toList.findIdx? (fun c => starSet.data.toList.contains c) with
  | none =>
    left
    refine ⟨rfl, ?_⟩
    rw [List.findIdx?_eq_none_iff] at h
    intro c hc
    have := h c hc
    rw [List.contains_eq_mem, decide_eq_false_iff_not, starSet_mem] at this
    exact ⟨fun e => this (Or.inl e), fun e => this (Or.inr e)⟩
  | some i =>
    right
    obtain ⟨hi, hc, hlt⟩ := List.findIdx?_eq_some_iff_getElem.1 h
    refine ⟨i, p.data.toList[i], rfl, List.getElem?_eq_getElem hi, ?_, ?_⟩
    · rw [List.contains_eq_mem, decide_eq_true_eq, starSet_mem] at hc; exact hc
    · intro c hc
      obtain ⟨j, hj, rfl⟩ := List.mem_iff_getElem.1 hc
      rw [List.getElem_take]
      have := hlt j (by simp at hj; omega)
      rw [List.contains_eq_mem, decide_eq_true_eq, starSet_mem] at this
      exact ⟨fun e => this (Or.inl e), fun e => this (Or.inr e)⟩
theorem ascii_ext (s : ByteArray) (a b : Nat) (h : Ascii s) : Ascii (s.extract a b) := by
  intro i hi
  have h1 := byte_get (s.extract a b) i hi
  rw [ext_list] at h1
  have hm := List.mem_of_getElem? h1
  have hm2 := List.mem_of_mem_drop (List.mem_of_mem_take hm)
  obtain ⟨j, hj, he⟩ := List.mem_iff_getElem.1 hm2
  have := h j (by rw [size_list]; exact hj)
  have e2 : s[j]'(by rw [size_list]; exact hj) = s.data.toList[j] := by simp; rfl
  rw [e2, he] at this
  exact this
theorem encode_ascii (n : Nat) (h : n < 128) : Utf8.encode (n : Int) = ⟨#[UInt8.ofNat n]⟩ := by
  unfold Utf8.encode
  have hv : Utf8.valid (n : Int) = true := by simp [Utf8.valid]; omega
  simp [hv, h]

set_option maxHeartbeats 2000000 in
theorem match_none (d : UInt8) (g : Nat) (p s : ByteArray) (w : World) (hp : p.size ≤ 100) (hs : s.size ≤ 100) (ap : Ascii p) (hi : anyIdx p starSet = -1) (hn : noWild p.data.toList) :
    Calls Try.prog 43 #[.pointer (some ⟨g, 0, none⟩), .string s, .string p] w (MatchPost d p s w) := by
  have hx := Lib.hid (fun W => indexAny_any p starSet W (by unfold maxLen; omega) (by decide) ap (ascii_of _ (by decide)))
  have hfin := Lib.hid (show wild d p.data.toList s.data.toList = (s.toList == p.toList) by rw [wild_none d _ hn, Lib.toList_data, Lib.toList_data])
  have hi' := Lib.hid hi
  clear hi
  go_enter Try.func43, Try.ntmps43
  go_wp2_with (go_at_call 48; refine (hx.out _).mono ?_; rintro e w1 ⟨rfl, hb⟩; rw [hi'.out])
  go_ret
  refine ⟨?_, hb⟩
  rw [hfin.out]
  rfl

theorem lt_of_some {α : Type} {l : List α} {k : Nat} {c : α} (h : l[k]? = some c) : k < l.length := by
  rcases Nat.lt_or_ge k l.length with h' | h'
  · exact h'
  · rw [List.getElem?_eq_none h'] at h; cases h
theorem matchStep (d : UInt8) (p s : ByteArray) (i : Nat) (c : UInt8) (hc : p.data.toList[i]? = some c) (hn : noWild (p.data.toList.take i)) :
    wild d p.data.toList s.data.toList = (Lib.hasPrefix s.data.toList (p.data.toList.take i) && wild d (c :: p.data.toList.drop (i + 1)) (s.data.toList.drop i)) := by
  have e : p.data.toList = p.data.toList.take i ++ (c :: p.data.toList.drop (i + 1)) := by rw [← drop_cons hc, List.take_append_drop]
  have hl : i < p.data.toList.length := lt_of_some hc
  rw [show wild d p.data.toList s.data.toList = wild d (p.data.toList.take i ++ (c :: p.data.toList.drop (i + 1))) s.data.toList by rw [← e], wild_chunk d _ hn]
  congr 2
  rw [List.length_take]
  congr 1
  omega

theorem lt_of_cell {w : World} {b o : Nat} {v : Value} (h : w.cell? ⟨b, o, none⟩ = some v) : b < w.heap.size := by
  rcases Nat.lt_or_ge b w.heap.size with h' | h'
  · exact h'
  · simp [World.cell?, Array.getElem?_eq_none h'] at h
/-- The rest of a pattern behind its first wildcard. -/
def stopOf (c d x : UInt8) : Bool := c == 37 && x == d
theorem wild_star (d c : UInt8) (hc : c = 42 ∨ c = 37) (q s : List UInt8) : wild d (c :: q) s = star (wild d q) (stopOf c d) s := by
  rcases hc with rfl | rfl
  · simp [wild, stopOf]
    rfl
  · simp [wild, stopOf]
    rfl
theorem star_end (f : List UInt8 → Bool) (st : UInt8 → Bool) : star f st [] = f [] := rfl
theorem star_stop (f : List UInt8 → Bool) (st : UInt8 → Bool) (x : UInt8) (s : List UInt8) (h : st x = true) : star f st (x :: s) = f (x :: s) := by simp [star, h]
theorem star_go (f : List UInt8 → Bool) (st : UInt8 → Bool) (x : UInt8) (s : List UInt8) (h : st x = false) (hf : f (x :: s) = false) : star f st (x :: s) = star f st s := by simp [star, h, hf]
theorem star_yes (f : List UInt8 → Bool) (st : UInt8 → Bool) (x : UInt8) (s : List UInt8) (hf : f (x :: s) = true) : star f st (x :: s) = true := by simp [star, hf]

set_option maxHeartbeats 4000000 in
theorem match_wild (d : UInt8) (hd : d.toNat < 128) (g : Nat) (p s : ByteArray) (w : World) (hp : p.size ≤ 100) (hs : s.size ≤ 100) (ap : Ascii p) (az : Ascii s) (hcell : w.cell? ⟨g, 1, none⟩ = some (.string ⟨#[d]⟩))
    (i : Nat) (c : UInt8) (hi : anyIdx p starSet = (i : Int)) (hc : p.data.toList[i]? = some c) (hcw : c = 42 ∨ c = 37) (hn : noWild (p.data.toList.take i))
    (ih : ∀ (q t : ByteArray) (W : World), q = p.extract (i + 1) p.size → t.size ≤ 100 → Ascii t → W.cell? ⟨g, 1, none⟩ = some (.string ⟨#[d]⟩) →
      Calls Try.prog 43 #[.pointer (some ⟨g, 0, none⟩), .string t, .string q] W (MatchPost d q t W)) :
    Calls Try.prog 43 #[.pointer (some ⟨g, 0, none⟩), .string s, .string p] w (MatchPost d p s w) := by
  have hil : i < p.size := by rw [size_list]; exact lt_of_some hc
  have hg := lt_of_cell hcell
  have hx := Lib.hid (fun W => indexAny_any p starSet W (by unfold maxLen; omega) (by decide) ap (ascii_of _ (by decide)))
  have hget : p[i]'hil = c := by
    have := byte_get p i hil
    rw [hc] at this
    cases this; rfl
  have hw1 : IntKind.i64.wrap ((i : Int) + 1) = (i : Int) + 1 := by simp [IntKind.wrap, IntKind.bits, IntKind.signed]; omega
  have hpre := Lib.hid (fun (W : World) => hasPrefix_any s (p.extract 0 i) W (by unfold maxLen; omega) (by unfold maxLen; rw [ext_size]; omega))
  have htrm := Lib.hid (fun (W : World) => trimPrefix_any s (p.extract 0 i) W (by unfold maxLen; omega) (by unfold maxLen; rw [ext_size]; omega))
  have hchl : (p.extract 0 i).size = i := by rw [ext_size]; omega
  have hcl : (p.extract 0 i).data.toList = p.data.toList.take i := by rw [ext_list]; simp
  have hi' := Lib.hid hi
  have hstep := Lib.hid (matchStep d p s i c hc hn)
  clear hi
  cases hpf : Lib.hasPrefix s.data.toList (p.extract 0 i).data.toList with
  | false =>
    have hi0 : 0 < i := by
      rcases Nat.eq_zero_or_pos i with h | h
      · exfalso
        rw [hcl, h] at hpf
        simp [Lib.hasPrefix] at hpf
      · exact h
    have hfin := Lib.hid (show wild d p.data.toList s.data.toList = false by rw [hstep.out, ← hcl, hpf]; rfl)
    have hpf' := Lib.hid hpf
    clear hpf
    go_enter Try.func43, Try.ntmps43
    go_wp2_with (go_at_call 48; refine (hx.out _).mono ?_; rintro e w1 ⟨rfl, hb⟩; rw [hi'.out])
    go_quiet (fail)
    go_wp2_with (go_at_call 41; refine (hpre.out _).mono ?_; rintro e w2 ⟨rfl, rfl⟩; rw [hpf'.out])
    go_ret
    refine ⟨?_, below_drewN hb _⟩
    show Ending.returned (Value.bool false) = _
    rw [hfin.out]
  | true =>
    obtain ⟨T, hT⟩ : ∃ T : ByteArray, T = ⟨(Lib.trimPrefix s.data.toList (p.extract 0 i).data.toList).toArray⟩ := ⟨_, rfl⟩
    have hTl : T.data.toList = s.data.toList.drop i := by
      rw [hT]
      show (Lib.trimPrefix s.data.toList (p.extract 0 i).data.toList) = _
      unfold Lib.trimPrefix
      rw [hpf, if_pos rfl, ← size_list, hchl]
    have hTs : T.size ≤ 100 := by rw [size_list, hTl, List.length_drop, ← size_list]; omega
    have aT : Ascii T := by
      have : T = s.extract i s.size := by apply ba_ext; rw [hTl, ext_end]
      rw [this]; exact ascii_ext _ _ _ az
    have hfin := Lib.hid (show wild d p.data.toList s.data.toList = star (wild d (p.extract (i + 1) p.size).data.toList) (stopOf c d) T.data.toList by
      rw [hstep.out, ← hcl, hpf, Bool.true_and, wild_star d c hcw, hTl, ext_end])
    have hpf' := Lib.hid hpf
    have htr := Lib.hid (fun (W : World) => (htrm.out W).mono (R' := fun e w' => e = .returned (.string T) ∧ W = w') (by rintro e w' ⟨rfl, rfl⟩; exact ⟨by rw [hT], rfl⟩))
    have hTl' := Lib.hid hTl
    have haT := Lib.hid aT
    have hpre' := Lib.hid (fun (W : World) => (hpre.out W).mono (R' := fun e w' => e = .returned (.bool true) ∧ W = w') (by rintro e w' ⟨rfl, rfl⟩; exact ⟨by rw [hpf], rfl⟩))
    have ih' := Lib.hid (fun (t : ByteArray) (W : World) h1 h2 h3 => ih _ t W rfl h1 h2 h3)
    clear hpf hpre htrm hT hTl aT hstep hcl ih
    have hcw := Lib.hid hcw
    have hz := Classical.em ((0 : Int) < (i : Int))
    rcases hz with hz | hz
    all_goals
      go_enter Try.func43, Try.ntmps43
      go_wp2_with (go_at_call 48; refine (hx.out _).mono ?_; rintro e w1 ⟨rfl, hb⟩; rw [hi'.out])
      go_quiet (fail)
      go_wp2_with (first | (go_at_call 41; refine (hpre'.out _).mono ?_; rintro e w2 ⟨rfl, rfl⟩) | (go_at_call 42; refine (htr.out _).mono ?_; rintro e w3 ⟨rfl, rfl⟩))
      obtain ⟨R, hR⟩ : ∃ R : ByteArray, R = p.extract (i + 1) p.size := ⟨_, rfl⟩
      obtain ⟨wz, hwz⟩ : ∃ wz : World, wz = w1.drewN nq := ⟨_, rfl⟩
      have hbz := Lib.hid (show Below w.heap.size w wz by rw [hwz]; exact below_drewN hb _)
      rw [← hR] at hfin ih' ⊢
      rw [← hwz]
      clear hwz hb hR
      go_loopw [11] (fun j wr => ∃ k : Nat, k ≤ T.size ∧ j = .int .i64 k ∧ Below w.heap.size w wr ∧ star (wild d R.data.toList) (stopOf c d) T.data.toList = star (wild d R.data.toList) (stopOf c d) (T.data.toList.drop k)) (fun j _ => T.size - (intOf j).toNat)
      case atStart => exact ⟨0, Nat.zero_le _, rfl, hbz.out, by rw [List.drop_zero]⟩
      case round =>
        obtain ⟨k, hk, rfl, hbr, hst⟩ := hrel
        have hbr' := Lib.hid hbr
        have hst' := Lib.hid hst
        have hcr : wr.cell? ⟨g, 1, none⟩ = some (.string ⟨#[d]⟩) := (hbr.cell (p := ⟨g, 1, none⟩) hg).trans hcell
        clear hbr hst
        by_cases hlt : k < T.size
        · obtain ⟨x, hx0⟩ : ∃ x, x = T[k]'hlt := ⟨_, rfl⟩
          obtain ⟨v, hv⟩ : ∃ v : Bool, wild d R.data.toList (T.extract k T.size).data.toList = v := ⟨_, rfl⟩
          have hcall := Lib.hid (fun n => (ih'.out (T.extract k T.size) (wr.drewN n) (by rw [ext_size]; omega) (ascii_ext _ _ _ haT.out) hcr).mono (R' := fun e w' => e = .returned (.bool v) ∧ Below w.heap.size w w') (by
            rintro e w' ⟨rfl, h⟩; exact ⟨by rw [hv], (below_drewN hbr'.out n).trans (h.mono hbr'.out.size)⟩))
          rw [ext_end] at hv
          have hdr := Lib.hid (drop_cons (byte_get T k hlt))
          rw [← hx0] at hdr
          have hxa : x.toNat < 128 := by rw [hx0]; exact haT.out k hlt
          have hTk : T[k]'hlt = x := hx0.symm
          have henc : Utf8.encode (x.toNat : Int) = ⟨#[x]⟩ := by rw [encode_ascii x.toNat hxa]; simp
          clear hx0
          rcases hcw.out with hcv | hcv
          · have hso : stopOf c d x = false := by rw [hcv]; rfl
            have e37 : ((c.toNat : Int) == 37) = false := by rw [hcv]; rfl
            clear hcv
            cases v with
            | true =>
              have hyes := Lib.hid (show wild d p.data.toList s.data.toList = true by rw [hfin.out, hst'.out, hdr.out]; exact star_yes _ _ _ _ (by rw [← hdr.out]; exact hv))
              clear hv
              go_wp2
              go_quiet (fail)
              go_wp2_with (go_at_call 43; refine (hcall.out _).mono ?_; rintro e w4 ⟨rfl, hb4⟩)
              go_ret
              refine ⟨?_, hb4⟩
              show Ending.returned (Value.bool true) = _
              rw [hyes.out]
            | false =>
              have hnext := Lib.hid (show star (wild d R.data.toList) (stopOf c d) T.data.toList = star (wild d R.data.toList) (stopOf c d) (T.data.toList.drop (k + 1)) by rw [hst'.out, hdr.out]; exact star_go _ _ _ _ hso (by rw [← hdr.out]; exact hv))
              clear hv
              go_wp2
              go_quiet (fail)
              go_wp2_with (go_at_call 43; refine (hcall.out _).mono ?_; rintro e w4 ⟨rfl, hb4⟩)
              exact ⟨⟨k + 1, by omega, rfl, hb4, hnext.out⟩, by simp [intOf]; omega⟩
          · have e37 : ((c.toNat : Int) == 37) = true := by rw [hcv]; rfl
            have hst37 : ∀ y, stopOf c d y = (y == d) := fun y => by rw [hcv]; rfl
            clear hcv
            cases hxd : (x == d) with
            | true =>
              have hso := (hst37 x).trans hxd
              clear hst37
              have hend := Lib.hid (show wild d p.data.toList s.data.toList = v by rw [hfin.out, hst'.out, hdr.out, star_stop _ _ _ _ hso, ← hdr.out]; exact hv)
              clear hv
              go_wp2
              go_quiet (fail)
              go_wp2_with (go_at_call 43; refine (hcall.out _).mono ?_; rintro e w4 ⟨rfl, hb4⟩)
              go_ret
              refine ⟨?_, hb4⟩
              show Ending.returned (Value.bool v) = _
              rw [hend.out]
            | false =>
              have hso := (hst37 x).trans hxd
              clear hst37
              cases v with
              | true =>
                have hyes := Lib.hid (show wild d p.data.toList s.data.toList = true by rw [hfin.out, hst'.out, hdr.out]; exact star_yes _ _ _ _ (by rw [← hdr.out]; exact hv))
                clear hv
                go_wp2
                go_quiet (fail)
                go_wp2_with (go_at_call 43; refine (hcall.out _).mono ?_; rintro e w4 ⟨rfl, hb4⟩)
                go_ret
                refine ⟨?_, hb4⟩
                show Ending.returned (Value.bool true) = _
                rw [hyes.out]
              | false =>
                have hnext := Lib.hid (show star (wild d R.data.toList) (stopOf c d) T.data.toList = star (wild d R.data.toList) (stopOf c d) (T.data.toList.drop (k + 1)) by rw [hst'.out, hdr.out]; exact star_go _ _ _ _ hso (by rw [← hdr.out]; exact hv))
                clear hv
                go_wp2
                go_quiet (fail)
                go_wp2_with (go_at_call 43; refine (hcall.out _).mono ?_; rintro e w4 ⟨rfl, hb4⟩)
                exact ⟨⟨k + 1, by omega, rfl, hb4, hnext.out⟩, by simp [intOf]; omega⟩
        · have hend := Lib.hid (show wild d R.data.toList (T.extract k T.size).data.toList = wild d p.data.toList s.data.toList by
            rw [hfin.out, hst'.out, ext_end, List.drop_of_length_le (by rw [← size_list]; omega)]; rfl)
          have hcall := Lib.hid ((ih'.out (T.extract k T.size) wr (by rw [ext_size]; omega) (ascii_ext _ _ _ haT.out) hcr).mono (R' := fun e w' => e = .returned (.bool (wild d p.data.toList s.data.toList)) ∧ Below wr.heap.size wr w') (by rintro e w' ⟨rfl, h⟩; exact ⟨by rw [hend.out], h⟩))
          obtain ⟨v, hv⟩ : ∃ v : Bool, v = wild d p.data.toList s.data.toList := ⟨_, rfl⟩
          rw [← hv] at hcall
          have hv' := Lib.hid hv
          clear hv
          go_wp2_with (go_at_call 43; refine hcall.out.mono ?_; rintro e w4 ⟨rfl, hb4⟩)
          go_ret
          refine ⟨?_, hbr'.out.trans (hb4.mono hbr'.out.size)⟩
          show Ending.returned (Value.bool v) = _
          rw [hv'.out]

theorem match_any (d : UInt8) (hd : d.toNat < 128) (g : Nat) : ∀ (k : Nat) (p s : ByteArray) (w : World), p.size ≤ k → p.size ≤ 100 → s.size ≤ 100 → Ascii p → Ascii s → w.cell? ⟨g, 1, none⟩ = some (.string ⟨#[d]⟩) →
    Calls Try.prog 43 #[.pointer (some ⟨g, 0, none⟩), .string s, .string p] w (MatchPost d p s w) := by
  intro k
  induction k with
  | zero =>
    intro p s w hk hp hs ap az hc
    rcases anyIdx_cases p with ⟨h1, h2⟩ | ⟨i, c, h1, h2, h3, h4⟩
    · exact match_none d g p s w hp hs ap h1 h2
    · have := lt_of_some h2
      rw [← size_list] at this
      omega
  | succ k ih =>
    intro p s w hk hp hs ap az hc
    rcases anyIdx_cases p with ⟨h1, h2⟩ | ⟨i, c, h1, h2, h3, h4⟩
    · exact match_none d g p s w hp hs ap h1 h2
    · refine match_wild d hd g p s w hp hs ap az hc i c h1 h2 h3 h4 ?_
      rintro q t W rfl ht at' hcc
      have := lt_of_some h2
      rw [← size_list] at this
      exact ih _ t W (by rw [ext_size]; omega) (by rw [ext_size]; omega) ht (ascii_ext _ _ _ ap) at' hcc

/-- Match: a reference and a pattern, a delimiter of one sign. -/
def trimD (d : UInt8) (p : ByteArray) : ByteArray := ⟨(Lib.trimPrefix p.data.toList [d]).toArray⟩
def refOf (d : UInt8) (ref pat : ByteArray) : ByteArray := if Lib.hasPrefix pat.data.toList [d] then ByteArray.empty else if ref.size = 0 then ref else if Lib.hasSuffix ref.data.toList [d] then ref else ref ++ ⟨#[d]⟩
def fits (d : UInt8) (name ref pat : ByteArray) : Bool :=
  Lib.hasPrefix name.data.toList (refOf d ref pat).data.toList && wild d (trimD d pat).data.toList (Lib.trimPrefix name.data.toList (refOf d ref pat).data.toList)
end Go.Proofs.Ytnokeaiemiiicaa.Own
