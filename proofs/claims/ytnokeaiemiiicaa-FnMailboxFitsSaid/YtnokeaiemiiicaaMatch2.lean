/- MailboxInfo.Match by hand: a reference and a pattern, a delimiter of one sign. -/
import Derived.Test.YtnokeaiemiiicaaMatch
namespace Go.Proofs.Ytnokeaiemiiicaa.Own
open Go.RowKit
set_option linter.unusedVariables false
set_option linter.unusedSimpArgs false

theorem hp_any (s p : ByteArray) (b : Bool) (h : Lib.hasPrefix s.data.toList p.data.toList = b) (hs : s.size ≤ 1000) (hp : p.size ≤ 1000) (w : World) :
    Calls Try.prog 41 #[.string s, .string p] w fun e w' => e = .returned (.bool b) ∧ w = w' := by
  have := hasPrefix_any s p w (by unfold maxLen; omega) (by unfold maxLen; omega)
  rw [h] at this
  exact this
theorem hs_any (s p : ByteArray) (b : Bool) (h : Lib.hasSuffix s.data.toList p.data.toList = b) (hs : s.size ≤ 1000) (hp : p.size ≤ 1000) (w : World) :
    Calls Try.prog 38 #[.string s, .string p] w fun e w' => e = .returned (.bool b) ∧ w = w' := by
  have := hasSuffix_any s p w (by unfold maxLen; omega) (by unfold maxLen; omega)
  rw [h] at this
  exact this
theorem tp_any (s p r : ByteArray) (h : (Lib.trimPrefix s.data.toList p.data.toList) = r.data.toList) (hs : s.size ≤ 1000) (hp : p.size ≤ 1000) (w : World) :
    Calls Try.prog 42 #[.string s, .string p] w fun e w' => e = .returned (.string r) ∧ w = w' := by
  have := trimPrefix_any s p w (by unfold maxLen; omega) (by unfold maxLen; omega)
  rw [h] at this
  exact this
theorem trim_size (s p : List UInt8) (r : ByteArray) (h : Lib.trimPrefix s p = r.data.toList) : r.size ≤ s.length := by
  rw [size_list, ← h]; exact Lib.trimPrefix_le s p
theorem trim_mem {s p : List UInt8} {c : UInt8} (h : c ∈ Lib.trimPrefix s p) : c ∈ s := by
  unfold Lib.trimPrefix at h
  split at h
  · exact List.mem_of_mem_drop h
  · exact h
theorem ascii_mem (s : ByteArray) : Ascii s ↔ ∀ c ∈ s.data.toList, c.toNat < 128 := by
  constructor
  · intro h c hc
    obtain ⟨i, hi, rfl⟩ := List.mem_iff_getElem.1 hc
    exact h i (by rw [size_list]; exact hi)
  · intro h i hi
    exact h _ (List.mem_of_getElem? (byte_get s i hi))
theorem trim_ascii (s r : ByteArray) (p : List UInt8) (h : Lib.trimPrefix s.data.toList p = r.data.toList) (ha : Ascii s) : Ascii r := by
  rw [ascii_mem] at ha ⊢
  intro c hc
  rw [← h] at hc
  exact ha c (trim_mem hc)
theorem mk_of (l : List UInt8) : ∃ r : ByteArray, l = r.data.toList := ⟨⟨l.toArray⟩, rfl⟩
def FitPost (v : Bool) (w : World) (e : Ending) (w' : World) : Prop := e = .returned (.bool v) ∧ Below w.heap.size w w'

set_option maxHeartbeats 2000000 in
theorem Match_pref (d : UInt8) (hd : d.toNat < 128) (g : Nat) (name ref pat : ByteArray) (w : World) (hn : name.size ≤ 100) (hr : ref.size ≤ 90) (hp : pat.size ≤ 100) (an : Ascii name) (ap : Ascii pat)
    (c1 : w.cell? ⟨g, 1, none⟩ = some (.string ⟨#[d]⟩)) (c2 : w.cell? ⟨g, 2, none⟩ = some (.string name)) (h1 : Lib.hasPrefix pat.data.toList [d] = true) :
    Calls Try.prog 34 #[.pointer (some ⟨g, 0, none⟩), .string ref, .string pat] w (FitPost (fits d name ref pat) w) := by
  obtain ⟨T, hT⟩ := mk_of (Lib.trimPrefix pat.data.toList [d])
  have hTs := trim_size _ _ T hT
  rw [← size_list] at hTs
  have k1 := Lib.hid (fun W => hp_any pat ⟨#[d]⟩ true h1 (by omega) (by show 1 ≤ 1000; omega) W)
  have k2 := Lib.hid (fun W => tp_any pat ⟨#[d]⟩ T hT (by omega) (by show 1 ≤ 1000; omega) W)
  have hfit : fits d name ref pat = wild d T.data.toList name.data.toList := by
    have e1 : refOf d ref pat = ByteArray.empty := by unfold refOf; rw [if_pos h1]
    have e2 : (trimD d pat).data.toList = T.data.toList := hT
    unfold fits
    rw [e1, e2]
    simp [Lib.hasPrefix, Lib.trimPrefix]
  have k3 := Lib.hid ((match_any d hd g T.size T name w (Nat.le_refl _) (by omega) hn (trim_ascii _ _ _ hT ap) an c1).mono (R' := FitPost (fits d name ref pat) w) (by rintro e w' ⟨rfl, h⟩; exact ⟨by rw [hfit], h⟩))
  obtain ⟨v, hv⟩ : ∃ v, v = fits d name ref pat := ⟨_, rfl⟩
  rw [← hv] at k3 ⊢
  clear hT hfit hv h1
  go_enter Try.func34, Try.ntmps34
  go_wp2_with (first | (go_at_call 41; refine (k1.out _).mono ?_; rintro e w1 ⟨rfl, rfl⟩) | (go_at_call 42; refine (k2.out _).mono ?_; rintro e w1 ⟨rfl, rfl⟩) | (go_at_call 43; refine k3.out.mono ?_; rintro e w1 ⟨rfl, hb⟩))
  go_ret
  exact ⟨rfl, hb⟩

set_option maxHeartbeats 2000000 in
theorem Match_bare (d : UInt8) (hd : d.toNat < 128) (g : Nat) (name pat : ByteArray) (w : World) (hn : name.size ≤ 100) (hp : pat.size ≤ 100) (an : Ascii name) (ap : Ascii pat)
    (c1 : w.cell? ⟨g, 1, none⟩ = some (.string ⟨#[d]⟩)) (c2 : w.cell? ⟨g, 2, none⟩ = some (.string name)) (h1 : Lib.hasPrefix pat.data.toList [d] = false) :
    Calls Try.prog 34 #[.pointer (some ⟨g, 0, none⟩), .string ⟨#[]⟩, .string pat] w (FitPost (fits d name ⟨#[]⟩ pat) w) := by
  have k1 := Lib.hid (fun W => hp_any pat ⟨#[d]⟩ false h1 (by omega) (by show 1 ≤ 1000; omega) W)
  have hfit : fits d name ⟨#[]⟩ pat = wild d pat.data.toList name.data.toList := by
    have e1 : refOf d ⟨#[]⟩ pat = ⟨#[]⟩ := by unfold refOf; rw [if_neg (by rw [h1]; decide)]; exact if_pos rfl
    have e2 : (trimD d pat).data.toList = pat.data.toList := by
      show Lib.trimPrefix pat.data.toList [d] = _
      unfold Lib.trimPrefix; rw [if_neg (by rw [h1]; decide)]
    unfold fits
    rw [e1, e2]
    simp [Lib.hasPrefix, Lib.trimPrefix]
  have k3 := Lib.hid ((match_any d hd g pat.size pat name w (Nat.le_refl _) (by omega) hn ap an c1).mono (R' := FitPost (fits d name ⟨#[]⟩ pat) w) (by rintro e w' ⟨rfl, h⟩; exact ⟨by rw [hfit], h⟩))
  obtain ⟨v, hv⟩ : ∃ v, v = fits d name ⟨#[]⟩ pat := ⟨_, rfl⟩
  rw [← hv] at k3 ⊢
  clear hfit hv h1
  go_enter Try.func34, Try.ntmps34
  go_wp2_with (first | (go_at_call 41; refine (k1.out _).mono ?_; rintro e w1 ⟨rfl, rfl⟩) | (go_at_call 43; refine k3.out.mono ?_; rintro e w1 ⟨rfl, hb⟩))
  go_ret
  exact ⟨rfl, hb⟩

theorem fits_ref (d : UInt8) (name ref pat r : ByteArray) (h1 : Lib.hasPrefix pat.data.toList [d] = false) (h0 : ref.size ≠ 0) (hr : r = if Lib.hasSuffix ref.data.toList [d] then ref else ref ++ ⟨#[d]⟩) :
    fits d name ref pat = (Lib.hasPrefix name.data.toList r.data.toList && wild d pat.data.toList (Lib.trimPrefix name.data.toList r.data.toList)) := by
  have e1 : refOf d ref pat = r := by unfold refOf; rw [if_neg (by rw [h1]; decide), if_neg h0, hr]
  have e2 : (trimD d pat).data.toList = pat.data.toList := by
    show Lib.trimPrefix pat.data.toList [d] = _
    unfold Lib.trimPrefix; rw [if_neg (by rw [h1]; decide)]
  unfold fits
  rw [e1, e2]

set_option maxHeartbeats 4000000 in
theorem Match_ref (d : UInt8) (hd : d.toNat < 128) (g : Nat) (name ref pat : ByteArray) (w : World) (hn : name.size ≤ 100) (hr : ref.size ≤ 90) (hp : pat.size ≤ 100) (an : Ascii name) (ap : Ascii pat)
    (c1 : w.cell? ⟨g, 1, none⟩ = some (.string ⟨#[d]⟩)) (c2 : w.cell? ⟨g, 2, none⟩ = some (.string name)) (h1 : Lib.hasPrefix pat.data.toList [d] = false) (h0 : ref.size ≠ 0) :
    Calls Try.prog 34 #[.pointer (some ⟨g, 0, none⟩), .string ref, .string pat] w (FitPost (fits d name ref pat) w) := by
  have k1 := Lib.hid (fun W => hp_any pat ⟨#[d]⟩ false h1 (by omega) (by show 1 ≤ 1000; omega) W)
  obtain ⟨b, hb0⟩ : ∃ b, Lib.hasSuffix ref.data.toList [d] = b := ⟨_, rfl⟩
  have k2 := Lib.hid (fun W => hs_any ref ⟨#[d]⟩ b hb0 (by omega) (by show 1 ≤ 1000; omega) W)
  obtain ⟨r, hr'⟩ : ∃ r, r = if Lib.hasSuffix ref.data.toList [d] then ref else ref ++ ⟨#[d]⟩ := ⟨_, rfl⟩
  have hfit := fits_ref d name ref pat r h1 h0 hr'
  rw [hb0] at hr'
  have hrs : r.size ≤ 100 := by
    rw [hr']; cases b
    · simp [ByteArray.size_append]; show ref.size + 1 ≤ 100; omega
    · simp; omega
  have hne : (ref.toList == []) = false := by
    rw [Lib.toList_data, beq_eq_false_iff_ne]
    intro e
    apply h0
    rw [size_list, e]; rfl
  cases hpf : Lib.hasPrefix name.data.toList r.data.toList with
  | false =>
    have k3 := Lib.hid (fun W => hp_any name r false hpf (by omega) (by omega) W)
    have hv : fits d name ref pat = false := by rw [hfit, hpf]; rfl
    rw [hv]
    clear hpf hfit hv h1 hb0
    have h0' := Lib.hid h0
    clear h0
    cases b with
    | true =>
      obtain rfl : r = ref := hr'
      go_enter Try.func34, Try.ntmps34
      go_wp2_with (first | (go_at_call 41; refine (k1.out _).mono ?_; rintro e w1 ⟨rfl, rfl⟩) | (go_at_call 38; refine (k2.out _).mono ?_; rintro e w1 ⟨rfl, rfl⟩) | (go_at_call 41; refine (k3.out _).mono ?_; rintro e w1 ⟨rfl, rfl⟩))
      go_ret
      exact ⟨rfl, Below.refl _ _⟩
    | false =>
      obtain rfl : r = ref ++ ⟨#[d]⟩ := hr'
      go_enter Try.func34, Try.ntmps34
      go_wp2_with (first | (go_at_call 41; refine (k1.out _).mono ?_; rintro e w1 ⟨rfl, rfl⟩) | (go_at_call 38; refine (k2.out _).mono ?_; rintro e w1 ⟨rfl, rfl⟩) | (go_at_call 41; refine (k3.out _).mono ?_; rintro e w1 ⟨rfl, rfl⟩))
      go_ret
      exact ⟨rfl, Below.refl _ _⟩
  | true =>
    have k3 := Lib.hid (fun W => hp_any name r true hpf (by omega) (by omega) W)
    obtain ⟨T, hT⟩ := mk_of (Lib.trimPrefix name.data.toList r.data.toList)
    have hTs := trim_size _ _ T hT
    rw [← size_list] at hTs
    have k4 := Lib.hid (fun W => tp_any name r T hT (by omega) (by omega) W)
    rw [hpf, hT, Bool.true_and] at hfit
    have k5 := Lib.hid ((match_any d hd g pat.size pat T w (Nat.le_refl _) hp (by omega) ap (trim_ascii _ _ _ hT an) c1).mono (R' := FitPost (fits d name ref pat) w) (by rintro e w' ⟨rfl, h⟩; exact ⟨by rw [hfit], h⟩))
    obtain ⟨v, hv⟩ : ∃ v, v = fits d name ref pat := ⟨_, rfl⟩
    rw [← hv] at k5 ⊢
    clear hpf hfit hv h1 hb0 hT
    have h0' := Lib.hid h0
    clear h0
    cases b with
    | true =>
      obtain rfl : r = ref := hr'
      go_enter Try.func34, Try.ntmps34
      go_wp2_with (first | (go_at_call 41; refine (k1.out _).mono ?_; rintro e w1 ⟨rfl, rfl⟩) | (go_at_call 38; refine (k2.out _).mono ?_; rintro e w1 ⟨rfl, rfl⟩) | (go_at_call 41; refine (k3.out _).mono ?_; rintro e w1 ⟨rfl, rfl⟩) | (go_at_call 42; refine (k4.out _).mono ?_; rintro e w1 ⟨rfl, rfl⟩) | (go_at_call 43; refine k5.out.mono ?_; rintro e w1 ⟨rfl, hb⟩))
      go_ret
      exact ⟨rfl, hb⟩
    | false =>
      obtain rfl : r = ref ++ ⟨#[d]⟩ := hr'
      go_enter Try.func34, Try.ntmps34
      go_wp2_with (first | (go_at_call 41; refine (k1.out _).mono ?_; rintro e w1 ⟨rfl, rfl⟩) | (go_at_call 38; refine (k2.out _).mono ?_; rintro e w1 ⟨rfl, rfl⟩) | (go_at_call 41; refine (k3.out _).mono ?_; rintro e w1 ⟨rfl, rfl⟩) | (go_at_call 42; refine (k4.out _).mono ?_; rintro e w1 ⟨rfl, rfl⟩) | (go_at_call 43; refine k5.out.mono ?_; rintro e w1 ⟨rfl, hb⟩))
      go_ret
      exact ⟨rfl, hb⟩

theorem Match_any (d : UInt8) (hd : d.toNat < 128) (g : Nat) (name ref pat : ByteArray) (w : World) (hn : name.size ≤ 100) (hr : ref.size ≤ 90) (hp : pat.size ≤ 100) (an : Ascii name) (ap : Ascii pat)
    (c1 : w.cell? ⟨g, 1, none⟩ = some (.string ⟨#[d]⟩)) (c2 : w.cell? ⟨g, 2, none⟩ = some (.string name)) :
    Calls Try.prog 34 #[.pointer (some ⟨g, 0, none⟩), .string ref, .string pat] w (FitPost (fits d name ref pat) w) := by
  cases h1 : Lib.hasPrefix pat.data.toList [d] with
  | true => exact Match_pref d hd g name ref pat w hn hr hp an ap c1 c2 h1
  | false =>
    by_cases h0 : ref.size = 0
    · obtain rfl : ref = ⟨#[]⟩ := by
        apply ba_ext
        rw [size_list] at h0
        exact List.length_eq_zero_iff.1 h0
      exact Match_bare d hd g name pat w hn hp an ap c1 c2 h1
    · exact Match_ref d hd g name ref pat w hn hr hp an ap c1 c2 h1 h0
end Go.Proofs.Ytnokeaiemiiicaa.Own
