/- spec.Fits9 by hand: for a delimiter of one sign it answers what fits says. -/
import Derived.Test.YtnokeaiemiiicaaMatch3
import Derived.Test.YtnokeaiemiiicaaWild9
import Derived.Deep.DeepCutAuto
namespace Go.Proofs.Ytnokeaiemiiicaa.Own
open Go.RowKit
set_option linter.unusedVariables false
set_option linter.unusedSimpArgs false

theorem hp_one (p : ByteArray) (d : UInt8) (h : 0 < p.size) : ((p.extract 0 1).toList == [d]) = Lib.hasPrefix p.data.toList [d] := by
  rw [Lib.toList_data, ext_list]
  cases hl : p.data.toList with
  | nil => rw [size_list, hl] at h; cases h
  | cons c q =>
    simp only [List.drop_zero, Nat.sub_zero, List.take_succ_cons, List.take_zero, Lib.hasPrefix, List.isPrefixOf_cons_cons, List.isPrefixOf_nil_left, Bool.and_true]
    rw [Bool.eq_iff_iff, beq_iff_eq, beq_iff_eq]
    constructor
    · intro h; exact (List.cons.inj h).1.symm
    · rintro rfl; rfl

set_option maxHeartbeats 2000000 in
theorem Fits9_pref (d : UInt8) (name ref pat : ByteArray) (w : World) (hn : name.size ≤ 100) (hr : ref.size ≤ 90) (hp : pat.size ≤ 100) (h1 : Lib.hasPrefix pat.data.toList [d] = true) :
    Calls Try.prog 22 #[.string name, .string ⟨#[d]⟩, .string ref, .string pat] w (FitPost (fits d name ref pat) w) := by
  have h0 : 0 < pat.size := by
    rcases Nat.eq_zero_or_pos pat.size with h | h
    · rw [size_list, List.length_eq_zero_iff] at h; rw [h] at h1; cases h1
    · exact h
  have hq : ((pat.extract 0 1).toList == [d]) = true := by rw [hp_one pat d h0, h1]
  have hfit : fits d name ref pat = wild d (pat.extract 1 pat.size).data.toList name.data.toList := by
    have e1 : refOf d ref pat = ByteArray.empty := by unfold refOf; rw [if_pos h1]
    have e2 : (trimD d pat).data.toList = (pat.extract 1 pat.size).data.toList := by
      show Lib.trimPrefix pat.data.toList [d] = _
      unfold Lib.trimPrefix; rw [if_pos h1, ext_end]; rfl
    unfold fits
    rw [e1, e2]
    simp [Lib.hasPrefix, Lib.trimPrefix]
  have k3 := Lib.hid (fun W (hb : Below w.heap.size w W) => (wild9_any d (pat.extract 1 pat.size) name W (by rw [ext_size]; omega) hn).mono (R' := FitPost (fits d name ref pat) w) (by rintro e w' ⟨rfl, h⟩; exact ⟨by rw [hfit], hb.trans (h.mono hb.size)⟩))
  obtain ⟨v, hv⟩ : ∃ v, v = fits d name ref pat := ⟨_, rfl⟩
  rw [← hv] at k3 ⊢
  clear hfit hv h1
  go_enter Try.func22, Try.ntmps22
  go_wp2
  go_quiet (fail)
  go_wp2_with (go_at_call 35; refine (k3.out _ (below_drewN (Below.refl _ _) _)).mono ?_; rintro e w1 ⟨rfl, hb⟩)
  go_ret
  exact ⟨rfl, hb⟩

set_option maxHeartbeats 2000000 in
theorem Fits9_bare (d : UInt8) (name pat : ByteArray) (w : World) (hn : name.size ≤ 100) (hp : pat.size ≤ 100) (h1 : Lib.hasPrefix pat.data.toList [d] = false) :
    Calls Try.prog 22 #[.string name, .string ⟨#[d]⟩, .string ⟨#[]⟩, .string pat] w (FitPost (fits d name ⟨#[]⟩ pat) w) := by
  have hfit : fits d name ⟨#[]⟩ pat = wild d pat.data.toList name.data.toList := by
    have e1 : refOf d ⟨#[]⟩ pat = ⟨#[]⟩ := by unfold refOf; rw [if_neg (by rw [h1]; decide)]; exact if_pos rfl
    have e2 : (trimD d pat).data.toList = pat.data.toList := by
      show Lib.trimPrefix pat.data.toList [d] = _
      unfold Lib.trimPrefix; rw [if_neg (by rw [h1]; decide)]
    unfold fits
    rw [e1, e2]
    simp [Lib.hasPrefix, Lib.trimPrefix]
  have k3 := Lib.hid ((wild9_any d pat name w hp hn).mono (R' := FitPost (fits d name ⟨#[]⟩ pat) w) (by rintro e w' ⟨rfl, h⟩; exact ⟨by rw [hfit], h⟩))
  obtain ⟨v, hv⟩ : ∃ v, v = fits d name ⟨#[]⟩ pat := ⟨_, rfl⟩
  rw [← hv] at k3 ⊢
  by_cases h0 : 0 < pat.size
  · have hq : ((pat.extract 0 1).toList == [d]) = false := by rw [hp_one pat d h0, h1]
    clear hfit hv h1
    go_enter Try.func22, Try.ntmps22
    go_wp2_with (go_at_call 35; refine k3.out.mono ?_; rintro e w1 ⟨rfl, hb⟩)
    go_ret
    exact ⟨rfl, hb⟩
  · clear hfit hv h1
    go_enter Try.func22, Try.ntmps22
    go_wp2_with (go_at_call 35; refine k3.out.mono ?_; rintro e w1 ⟨rfl, hb⟩)
    go_ret
    exact ⟨rfl, hb⟩

theorem last_one (s : ByteArray) (d : UInt8) (h : s.size ≠ 0) : ((s.extract (s.size - 1) s.size).toList == [d]) = Lib.hasSuffix s.data.toList [d] := by
  have := Lib.hasSuffix_raw s ⟨#[d]⟩
  rw [show (⟨#[d]⟩ : ByteArray).size = 1 from rfl] at this
  rw [← show Lib.hasSuffix s.data.toList (⟨#[d]⟩ : ByteArray).data.toList = Lib.hasSuffix s.data.toList [d] from rfl, ← this]
  rw [show decide (1 ≤ s.size) = true from decide_eq_true (by omega), Bool.true_and]
  rw [Lib.toList_data (⟨#[d]⟩ : ByteArray)]

set_option maxHeartbeats 4000000 in
theorem Fits9_ref (d : UInt8) (name ref pat : ByteArray) (w : World) (hn : name.size ≤ 100) (hr : ref.size ≤ 90) (hp : pat.size ≤ 100) (h1 : Lib.hasPrefix pat.data.toList [d] = false) (h0 : ref.size ≠ 0) :
    Calls Try.prog 22 #[.string name, .string ⟨#[d]⟩, .string ref, .string pat] w (FitPost (fits d name ref pat) w) := by
  obtain ⟨r, hr'⟩ : ∃ r, r = if Lib.hasSuffix ref.data.toList [d] then ref else ref ++ ⟨#[d]⟩ := ⟨_, rfl⟩
  have hfit := fits_ref d name ref pat r h1 h0 hr'
  have hls := last_one ref d h0
  have hrs : r.size ≤ 100 := by
    rw [hr']; split
    · omega
    · simp [ByteArray.size_append]; show ref.size + 1 ≤ 100; omega
  have hne : (ref.toList == []) = false := by
    rw [Lib.toList_data, beq_eq_false_iff_ne]
    intro e
    apply h0
    rw [size_list, e]; rfl
  have h0' : 0 < ref.size := by omega
  clear h0
  obtain ⟨v, hv⟩ : ∃ v, v = fits d name ref pat := ⟨_, rfl⟩
  rw [← hv] at hfit ⊢
  have hpc : (pat.size = 0) ∨ (0 < pat.size ∧ ((pat.extract 0 1).toList == [d]) = false) := by
    rcases Nat.eq_zero_or_pos pat.size with h | h
    · exact Or.inl h
    · exact Or.inr ⟨h, by rw [hp_one pat d h, h1]⟩
  have hraw := Lib.hasPrefix_raw name r
  rw [← hraw] at hfit
  have hfit' := Lib.hid hfit
  have k3 := Lib.hid (fun (T : ByteArray) (hT : T.size ≤ 100) => wild9_any d pat T w hp hT)
  have htr : Lib.hasPrefix name.data.toList r.data.toList = true → Lib.trimPrefix name.data.toList r.data.toList = (name.extract r.size name.size).data.toList := fun h => by
    unfold Lib.trimPrefix; rw [if_pos h, ext_end, size_list]
  have htr' := Lib.hid htr
  have hv' := Lib.hid hv
  clear hfit hv h1 htr hraw
  cases hb : Lib.hasSuffix ref.data.toList [d] with
  | true =>
    rw [hb] at hls hr'
    obtain rfl : r = ref := hr'
    clear hb
    rcases hpc with hpc | ⟨hp1, hp2⟩
    all_goals
      go_enter Try.func22, Try.ntmps22
      go_upto_region 6 with (fail)
      by_cases hsz : r.size ≤ name.size
      · cases heq : ((name.extract 0 r.size).toList == r.toList) with
        | true =>
          have hvv := Lib.hid (show wild d pat.data.toList (name.extract r.size name.size).data.toList = v by
            have e := hfit'.out
            rw [heq, decide_eq_true hsz] at e
            rw [e, htr'.out (by rw [← Lib.hasPrefix_raw, heq, decide_eq_true hsz]; rfl)]; rfl)
          have k4 := Lib.hid ((k3.out (name.extract r.size name.size) (by rw [ext_size]; omega)).mono (R' := FitPost v w) (by rintro e w' ⟨rfl, h⟩; exact ⟨by rw [hvv.out], h⟩))
          have hsz1 : (r.size : Int) ≤ (name.size : Int) := by omega
          have hsz2 : ¬ (name.size : Int) < (r.size : Int) := by omega
          go_wp2_with (go_at_call 35; refine k4.out.mono ?_; rintro e w1 ⟨rfl, hb⟩)
          go_ret
          exact ⟨rfl, hb⟩
        | false =>
          have hvv := Lib.hid (show v = false by
            have e := hfit'.out
            rw [heq, Bool.and_false] at e
            exact e)
          have hsz1 : (r.size : Int) ≤ (name.size : Int) := by omega
          have hsz2 : ¬ (name.size : Int) < (r.size : Int) := by omega
          go_wp2
          go_ret
          refine ⟨?_, Below.refl _ _⟩
          show Ending.returned (Value.bool false) = _
          rw [hvv.out]
      · have hvv := Lib.hid (show v = false by
          have e := hfit'.out
          rw [decide_eq_false hsz, Bool.false_and] at e
          exact e)
        have hsz1 : (name.size : Int) < (r.size : Int) := by omega
        go_wp2
        go_ret
        refine ⟨?_, Below.refl _ _⟩
        show Ending.returned (Value.bool false) = _
        rw [hvv.out]
  | false =>
    rw [hb] at hls hr'
    replace hr' : r = ref ++ ⟨#[d]⟩ := hr'
    have hr2 := Lib.hid hr'
    clear hb hr'
    rcases hpc with hpc | ⟨hp1, hp2⟩
    all_goals
      go_enter Try.func22, Try.ntmps22
      go_upto_region 6 with (fail)
      rw [← hr2.out]
      clear hr2 hls hne h0'
      by_cases hsz : r.size ≤ name.size
      · cases heq : ((name.extract 0 r.size).toList == r.toList) with
        | true =>
          have hvv := Lib.hid (show wild d pat.data.toList (name.extract r.size name.size).data.toList = v by
            have e := hfit'.out
            rw [heq, decide_eq_true hsz] at e
            rw [e, htr'.out (by rw [← Lib.hasPrefix_raw, heq, decide_eq_true hsz]; rfl)]; rfl)
          have k4 := Lib.hid ((k3.out (name.extract r.size name.size) (by rw [ext_size]; omega)).mono (R' := FitPost v w) (by rintro e w' ⟨rfl, h⟩; exact ⟨by rw [hvv.out], h⟩))
          have hsz1 : (r.size : Int) ≤ (name.size : Int) := by omega
          have hsz2 : ¬ (name.size : Int) < (r.size : Int) := by omega
          go_wp2_with (go_at_call 35; refine k4.out.mono ?_; rintro e w1 ⟨rfl, hb⟩)
          go_ret
          exact ⟨rfl, hb⟩
        | false =>
          have hvv := Lib.hid (show v = false by
            have e := hfit'.out
            rw [heq, Bool.and_false] at e
            exact e)
          have hsz1 : (r.size : Int) ≤ (name.size : Int) := by omega
          have hsz2 : ¬ (name.size : Int) < (r.size : Int) := by omega
          go_wp2
          go_ret
          refine ⟨?_, Below.refl _ _⟩
          show Ending.returned (Value.bool false) = _
          rw [hvv.out]
      · have hvv := Lib.hid (show v = false by
          have e := hfit'.out
          rw [decide_eq_false hsz, Bool.false_and] at e
          exact e)
        have hsz1 : (name.size : Int) < (r.size : Int) := by omega
        go_wp2
        go_ret
        refine ⟨?_, Below.refl _ _⟩
        show Ending.returned (Value.bool false) = _
        rw [hvv.out]

theorem Fits9_any (d : UInt8) (name ref pat : ByteArray) (w : World) (hn : name.size ≤ 100) (hr : ref.size ≤ 90) (hp : pat.size ≤ 100) :
    Calls Try.prog 22 #[.string name, .string ⟨#[d]⟩, .string ref, .string pat] w (FitPost (fits d name ref pat) w) := by
  cases h1 : Lib.hasPrefix pat.data.toList [d] with
  | true => exact Fits9_pref d name ref pat w hn hr hp h1
  | false =>
    by_cases h0 : ref.size = 0
    · obtain rfl : ref = ⟨#[]⟩ := by
        apply ba_ext
        rw [size_list] at h0
        exact List.length_eq_zero_iff.1 h0
      exact Fits9_bare d name pat w hn hp h1
    · exact Fits9_ref d name ref pat w hn hr hp h1 h0
/-- In the print's form. -/
def spec_Fits9.f (a0 a1 a2 a3 : ByteArray) : Option Bool :=
  if a1.size = 1 ∧ a0.size ≤ 100 ∧ a2.size ≤ 90 ∧ a3.size ≤ 100 then some (fits (a1.data.toList.headD 0) a0 a2 a3) else none
theorem spec_Fits9.calls (a0 a1 a2 a3 : ByteArray) (r : Bool) (w : World) (h : spec_Fits9.f a0 a1 a2 a3 = some r) :
    Calls Try.prog 22 #[.string a0, .string a1, .string a2, .string a3] w fun e w' => e = .returned (.bool r) ∧ Below w.heap.size w w' := by
  unfold spec_Fits9.f at h
  split at h
  · rename_i hc
    obtain ⟨h1, h3, h4, h5⟩ := hc
    cases h
    obtain ⟨d, rfl⟩ := one_of a1 h1
    exact Fits9_any d a0 a2 a3 w h3 h4 h5
  · cases h
end Go.Proofs.Ytnokeaiemiiicaa.Own
