/- Plain words: spec.Path tells paths alone. No law of the program is proved here. Plain words: what spec.Path is sure of is a path. No law of the program is proved here. -/
import Derived.Test.YtldiamldbpobgaaGreatDoorPPathx2
import Derived.Test.YtldiamldbpobgaaGreatDoorMC
import Derived.Test.YtldiamldbpobgaaGreatDoorMF
namespace Go.Proofs.YtldiamldbpobgaaGreatDoor.Own
open Go.RowKit Go.Proofs.YtldiamldbpobgaaGreatDoor.PPath Go.Proofs.YtldiamldbpobgaaGreatDoorW.PrintWords Go.Proofs.YtldiamldbpobgaaGreatDoorW.PrintLast Go.Lib
set_option linter.unusedVariables false
set_option linter.unusedSimpArgs false

def DomC (c : Int) : Prop := (97 ≤ c ∧ c ≤ 122) ∨ (65 ≤ c ∧ c ≤ 90) ∨ (48 ≤ c ∧ c ≤ 57) ∨ c = 45 ∨ c = 46 ∨ c = 91 ∨ c = 93 ∨ c = 58
set_option maxHeartbeats 2000000 in
theorem domain_step (x : ByteArray) (i : Nat) (c : Int) (hi : i < x.size) (hx : x.size ≤ 1000000) (hc : bt x (i : Int) = c) :
    (DomC c → ∀ k, spec_domain.l0 (k + 1) x (i : Int) = spec_domain.l0 k x ((i + 1 : Nat) : Int)) ∧ (¬ DomC c → ∀ k, spec_domain.l0 (k + 1) x (i : Int) = some false) := by
  have hw : wrap64 ((i : Int) + 1) = ((i + 1 : Nat) : Int) := wrap_succ (by omega)
  refine ⟨fun hd k => ?_, fun hd k => ?_⟩
  · rw [spec_domain.l0, if_pos (by omega), if_pos (by omega), hc, hw]
    generalize spec_domain.l0 k x ((i + 1 : Nat) : Int) = R
    unfold DomC at hd
    repeat' split
    all_goals first | rfl | (exfalso; omega)
  · rw [spec_domain.l0, if_pos (by omega), if_pos (by omega), hc, hw]
    generalize spec_domain.l0 k x ((i + 1 : Nat) : Int) = R
    unfold DomC at hd
    repeat' split
    all_goals first | rfl | (exfalso; omega)
theorem domC_domB (c : UInt8) (h : DomC (c.toNat : Int)) : domB c = true := by
  unfold DomC at h
  unfold domB
  simp only [Bool.and_eq_true, bne_iff_ne]
  have hne : ∀ n : UInt8, ((n.toNat : Int) = 32 ∨ (n.toNat : Int) = 9 ∨ (n.toNat : Int) = 62 ∨ (n.toNat : Int) = 64) → c ≠ n := fun n hn h0 => by rw [h0] at h; omega
  exact ⟨⟨⟨hne 32 (by decide), hne 9 (by decide)⟩, hne 62 (by decide)⟩, hne 64 (by decide)⟩
theorem domain_tells (x : ByteArray) (hx : x.size ≤ 1000000) : ∀ (d i : Nat), i + d = x.size → ∃ b, Ev (fun k => spec_domain.l0 k x (i : Int)) b ∧ (b = true → ∀ (j : Nat) (c : UInt8), i ≤ j → x.data.toList[j]? = some c → domB c = true)
  | 0, i, hd => ⟨true, Ev.one fun k => by rw [spec_domain.l0, if_neg (by omega)], fun _ j c hj hc => by
      rw [List.getElem?_eq_none (by rw [← size_list]; omega)] at hc; cases hc⟩
  | d + 1, i, hd => by
    have hi : i < x.data.toList.length := by rw [← size_list]; omega
    obtain ⟨c, hc⟩ : ∃ c, x.data.toList[i]? = some c := ⟨_, List.getElem?_eq_getElem hi⟩
    have hst := domain_step x i (c.toNat : Int) (by omega) hx (bt_some x i c hc)
    by_cases hD : DomC (c.toNat : Int)
    · obtain ⟨b, hb, hb2⟩ := domain_tells x hx d (i + 1) (by omega)
      refine ⟨b, Ev.step (hst.1 hD) hb, fun ht j c' hj hc' => ?_⟩
      by_cases e : j = i
      · subst e
        rw [hc] at hc'
        cases hc'
        exact domC_domB c hD
      · exact hb2 ht j c' (by omega) hc'
    · exact ⟨false, Ev.one (hst.2 hD), fun h => by cases h⟩
end Go.Proofs.YtldiamldbpobgaaGreatDoor.Own

namespace Go.Proofs.YtldiamldbpobgaaGreatDoor.Own
open Go.RowKit Go.Proofs.YtldiamldbpobgaaGreatDoor.PPath Go.Proofs.YtldiamldbpobgaaGreatDoorW.PrintWords Go.Proofs.YtldiamldbpobgaaGreatDoorW.PrintLast Go.Lib
set_option linter.unusedVariables false
set_option linter.unusedSimpArgs false

abbrev PR := ByteArray × ByteArray × Bool
def badR : PR := (⟨#[]⟩, ⟨#[]⟩, false)
/-- If it is sure, it is a path. -/
def Good (L : List UInt8) (r : PR) : Prop := r.2.2 = true → (∃ rest, r.2.1 = ⟨rest.toArray⟩ ∧ (∃ n, rest = L.drop n) ∧ ((∃ mb, r.1 = ⟨mb.toArray⟩ ∧ mb ≠ [] ∧ PathIs L mb rest) ∨ (r.1 = ⟨#[]⟩ ∧ L = 60 :: 62 :: rest)))
theorem good_bad (L : List UInt8) : Good L badR := fun h => by cases h
theorem list_cut (L : List UInt8) (f t : Nat) (c : UInt8) (h1 : f ≤ t) (h2 : L[t]? = some c) : L.drop f = (L.drop f).take (t - f) ++ c :: L.drop (t + 1) := by
  have ht : t < L.length := (List.getElem?_eq_some_iff.1 h2).1
  have e1 := (List.take_append_drop (t - f) (L.drop f)).symm
  rw [List.drop_drop, show f + (t - f) = t by omega, List.drop_eq_getElem_cons ht] at e1
  rw [List.getElem?_eq_getElem ht] at h2
  rw [Option.some.inj h2] at e1
  exact e1
theorem l2_tells (s : ByteArray) (hs : s.size ≤ 1000) (l' loc : List UInt8) (hl : s.data.toList = 60 :: l') (hne : loc ≠ []) (hll : loc.length ≤ 1000) (fr : Nat) (hloc : LocIs l' loc (64 :: s.data.toList.drop fr)) :
    ∀ (d i : Nat), i + d = s.size → fr ≤ i → ∃ r, Ev (fun k => spec_Path.l2 k s (i : Int) ⟨loc.toArray⟩ (fr : Int)) r ∧ Good s.data.toList r
  | 0, i, hd, hf => by
    refine ⟨badR, Ev.one fun k => ?_, good_bad _⟩
    rw [spec_Path.l2, if_neg (by omega)]
    by_cases h1 : (i : Int) = (fr : Int)
    · rw [if_pos h1]; rfl
    · rw [if_neg h1, if_pos (by omega)]; rfl
  | d + 1, i, hd, hf => by
    have hi : i < s.data.toList.length := by rw [← size_list]; omega
    obtain ⟨c, hc⟩ : ∃ c, s.data.toList[i]? = some c := ⟨_, List.getElem?_eq_getElem hi⟩
    have hb := bt_some s i c hc
    have hw : wrap64 ((i : Int) + 1) = ((i + 1 : Nat) : Int) := wrap_succ (by omega)
    by_cases h32 : (c.toNat : Int) = 32
    · refine ⟨badR, Ev.one fun k => ?_, good_bad _⟩
      rw [spec_Path.l2, if_pos (by omega), if_pos (by omega), hb, if_pos h32]
      by_cases h1 : (i : Int) = (fr : Int)
      · rw [if_pos h1]; rfl
      · rw [if_neg h1, if_neg (by omega), if_neg (by omega)]; rfl
    · by_cases h62 : (c.toNat : Int) = 62
      · by_cases h1 : (i : Int) = (fr : Int)
        · refine ⟨badR, Ev.one fun k => ?_, good_bad _⟩
          rw [spec_Path.l2, if_pos (by omega), if_pos (by omega), hb, if_neg h32, if_pos h62, if_pos h1]; rfl
        · have hx : (s.extract fr i).data.toList = (s.data.toList.drop fr).take (i - fr) := by rw [ext_list]
          obtain ⟨b, hbd, hb2⟩ := domain_tells (s.extract fr i) (by rw [ext_size]; omega) (s.extract fr i).size 0 (by omega)
          have hstep : ∀ k, spec_Path.l2 (k + 1) s (i : Int) ⟨loc.toArray⟩ (fr : Int) = (spec_domain.f k (s.extract fr i)).bind fun t => if t = true then (some ((⟨loc.toArray⟩ ++ (⟨#[64]⟩ : ByteArray)) ++ s.extract fr i, s.extract (i + 1) s.size, true)) else some badR := fun k => by
            rw [spec_Path.l2, if_pos (by omega), if_pos (by omega), hb, if_neg h32, if_pos h62, if_neg h1, if_neg (by omega), if_pos (by omega), if_pos (by omega), if_pos (by omega), Int.toNat_natCast, Int.toNat_natCast]
            congr 1
            funext t
            cases t
            · rfl
            · have z1 : (⟨loc.toArray⟩ : ByteArray).size = loc.length := rfl
              have z2 : ((⟨loc.toArray⟩ : ByteArray) ++ (⟨#[64]⟩ : ByteArray)).size = loc.length + 1 := by rw [app_bytes loc [64]]; simp [ByteArray.size]
              rw [if_pos rfl, if_pos rfl, if_pos (by omega), if_pos (by rw [z2, ext_size]; omega), hw, if_pos (by omega), if_pos (by omega), Int.toNat_natCast]
          refine ⟨if b = true then ((⟨loc.toArray⟩ ++ (⟨#[64]⟩ : ByteArray)) ++ s.extract fr i, s.extract (i + 1) s.size, true) else badR, Ev.step hstep (Ev.bind hbd ?_), ?_⟩
          · cases b
            · exact Ev.now _
            · exact Ev.now _
          · cases b
            · exact good_bad _
            · intro _
              have h62' : c = 62 := UInt8.toNat_inj.1 (by show c.toNat = 62; omega)
              have hcut := list_cut s.data.toList fr i c hf hc
              rw [h62'] at hcut
              obtain ⟨dom, hdom⟩ : ∃ dom, dom = (s.data.toList.drop fr).take (i - fr) := ⟨_, rfl⟩
              rw [← hdom] at hcut hx
              have hdl : dom.length = i - fr := by rw [hdom, List.length_take, List.length_drop]; omega
              have hes : s.extract fr i = ⟨dom.toArray⟩ := ba_ext (by rw [hx])
              refine ⟨s.data.toList.drop (i + 1), ?_, ⟨i + 1, rfl⟩, Or.inl ⟨loc ++ 64 :: dom, ?_, by simp, l', loc, dom, hl, ⟨?_, hne, ?_, ?_⟩, rfl, ?_⟩⟩
              · show s.extract (i + 1) s.size = _
                exact ba_ext (by rw [ext_end])
              · show ((⟨loc.toArray⟩ : ByteArray) ++ (⟨#[64]⟩ : ByteArray)) ++ s.extract fr i = _
                rw [hes, app_bytes loc [64], app_bytes]
                simp
              · rw [← hcut]; exact hloc
              · intro h0; rw [h0] at hdl; simp at hdl; omega
              · intro x hx2
                obtain ⟨j, hj⟩ := List.mem_iff_getElem?.1 hx2
                exact hb2 rfl j x (Nat.zero_le _) (by rw [hx]; exact hj)
              · have : s.size ≤ 1000 := hs
                omega
      · obtain ⟨r, hr, hg⟩ := l2_tells s hs l' loc hl hne hll fr hloc d (i + 1) (by omega) (by omega)
        refine ⟨r, Ev.step (fun k => ?_) hr, hg⟩
        rw [spec_Path.l2, if_pos (by omega), if_pos (by omega), hb, if_neg h32, if_neg h62, hw]
theorem j4_tells (s : ByteArray) (hs : s.size ≤ 1000) (l' loc : List UInt8) (hl : s.data.toList = 60 :: l') (hll : loc.length ≤ 1000) (i : Nat) (hi1 : i ≤ 1001)
    (hloc : s.data.toList[i]? = some 64 → LocIs l' loc (64 :: s.data.toList.drop (i + 1))) : ∃ r, Ev (fun k => spec_Path.j4 k s (i : Int) ⟨loc.toArray⟩) r ∧ Good s.data.toList r := by
  have htl : (⟨loc.toArray⟩ : ByteArray).toList = loc := by rw [ByteArray.toList_eq]
  have hbad : ∀ k, spec_Path.j5 (k + 1) s (i : Int) ⟨loc.toArray⟩ true = some badR := fun k => by rw [spec_Path.j5, if_pos rfl]; rfl
  have hbadE : Ev (fun k => spec_Path.j5 k s (i : Int) ⟨loc.toArray⟩ true) badR := Ev.one hbad
  by_cases h0 : loc = []
  · exact ⟨badR, Ev.step (fun k => by rw [spec_Path.j4, htl, if_pos h0]) hbadE, good_bad _⟩
  · by_cases h1 : i < s.size
    · obtain ⟨c, hc⟩ : ∃ c, s.data.toList[i]? = some c := ⟨_, List.getElem?_eq_getElem (by rw [← size_list]; exact h1)⟩
      have hb := bt_some s i c hc
      by_cases h64 : c = 64
      · subst h64
        have hw : wrap64 ((i : Int) + 1) = ((i + 1 : Nat) : Int) := wrap_succ (by omega)
        obtain ⟨r, hr, hg⟩ := l2_tells s hs l' loc hl h0 hll (i + 1) (hloc hc) (s.size - (i + 1)) (i + 1) (by omega) (Nat.le_refl _)
        refine ⟨r, Ev.step (fun k => ?_) (Ev.step (g := fun k => spec_Path.j5 k s (i : Int) ⟨loc.toArray⟩ false) (fun k => ?_) hr), hg⟩
        · rw [spec_Path.j4, htl, if_neg h0, if_neg (by omega), if_pos (by omega), if_pos (by omega), hb]
          rfl
        · rw [spec_Path.j5, if_neg (by decide), hw]
      · refine ⟨badR, Ev.step (fun k => ?_) hbadE, good_bad _⟩
        have : (((c.toNat : Int)) != 64) = true := by
          rw [bne_iff_ne]; intro h; exact h64 (UInt8.toNat_inj.1 (by show c.toNat = 64; omega))
        rw [spec_Path.j4, htl, if_neg h0, if_neg (by omega), if_pos (by omega), if_pos (by omega), hb, this]
    · exact ⟨badR, Ev.step (fun k => by rw [spec_Path.j4, htl, if_neg h0, if_pos (by omega)]) hbadE, good_bad _⟩
theorem ext1 (s : ByteArray) (i : Nat) (c : UInt8) (h : s.data.toList[i]? = some c) : s.extract i (i + 1) = ⟨[c].toArray⟩ := by
  apply ba_ext
  rw [ext_list]
  have hi := (List.getElem?_eq_some_iff.1 h).1
  rw [List.drop_eq_getElem_cons hi]
  rw [List.getElem?_eq_getElem hi] at h
  rw [Option.some.inj h]
  simp
theorem drop_cons (L : List UInt8) (i : Nat) (c : UInt8) (h : L[i]? = some c) : L.drop i = c :: L.drop (i + 1) := by
  have hi := (List.getElem?_eq_some_iff.1 h).1
  rw [List.drop_eq_getElem_cons hi]
  rw [List.getElem?_eq_getElem hi] at h
  rw [Option.some.inj h]
theorem spZ_range (c : UInt8) : Own.spec_special.f (c.toNat : Int) = some (specB (c.toNat : Int)) := rfl
theorem room_one (done : List UInt8) (c : UInt8) (h : done.length ≤ 2000) : (⟨done.toArray⟩ : ByteArray).size + (⟨[c].toArray⟩ : ByteArray).size ≤ 9223372036854775807 := by
  have z1 : (⟨done.toArray⟩ : ByteArray).size = done.length := rfl
  have z2 : (⟨[c].toArray⟩ : ByteArray).size = 1 := rfl
  rw [z1, z2]
  omega
theorem l1_tellsP (s : ByteArray) (hs : s.size ≤ 1000) (l' : List UInt8) (hl : s.data.toList = 60 :: l') :
    ∀ (d i : Nat) (done : List UInt8), i + d = s.size → i = done.length + 1 → l' = done ++ s.data.toList.drop i → (∀ c ∈ done, dotB c = true) → ∃ r, Ev (fun k => spec_Path.l1 k s (i : Int) ⟨done.toArray⟩) r ∧ Good s.data.toList r
  | 0, i, done, hd, hi, hle, hdot => by
    obtain ⟨r, hr, hg⟩ := j4_tells s hs l' done hl (by omega) i (by omega) (fun h => by
      rw [List.getElem?_eq_none (by rw [← size_list]; omega)] at h; cases h)
    exact ⟨r, Ev.step (fun k => by rw [spec_Path.l1, if_neg (by omega)]) hr, hg⟩
  | d + 1, i, done, hd, hi, hle, hdot => by
    have hil : i < s.data.toList.length := by rw [← size_list]; omega
    obtain ⟨c, hc⟩ : ∃ c, s.data.toList[i]? = some c := ⟨_, List.getElem?_eq_getElem hil⟩
    have hb := bt_some s i c hc
    have hw : wrap64 ((i : Int) + 1) = ((i + 1 : Nat) : Int) := wrap_succ (by omega)
    have hdr := drop_cons _ i c hc
    by_cases h64 : c = 64
    · subst h64
      obtain ⟨r, hr, hg⟩ := j4_tells s hs l' done hl (by omega) i (by omega) (fun _ => Or.inr ⟨s.data.toList.drop (i + 1), rfl, by rw [hle, hdr], hdot⟩)
      exact ⟨r, Ev.step (fun k => by rw [spec_Path.l1, if_pos (by omega), if_pos (by omega), hb, if_pos (show ((UInt8.toNat 64 : Nat) : Int) = 64 from rfl)]) hr, hg⟩
    · have hb64 : ¬ (c.toNat : Int) = 64 := fun h => h64 (UInt8.toNat_inj.1 (by show c.toNat = 64; omega))
      by_cases hsp : specB (c.toNat : Int) = true
      · obtain ⟨r, hr, hg⟩ := j4_tells s hs l' done hl (by omega) i (by omega) (fun h => by rw [hc] at h; exact absurd (Option.some.inj h) h64)
        exact ⟨r, Ev.step (fun k => by rw [spec_Path.l1, if_pos (by omega), if_pos (by omega), hb, if_neg hb64, spZ_range, Option.bind_some, if_pos hsp]) hr, hg⟩
      · have hdc : dotB c = true := by
          unfold dotB
          rw [Bool.and_eq_true, bne_iff_ne]
          exact ⟨h64, by simpa using hsp⟩
        obtain ⟨r, hr, hg⟩ := l1_tellsP s hs l' hl d (i + 1) (done ++ [c]) (by omega) (by simp; omega) (by rw [hle, hdr]; simp) (fun x hx => by
          rcases List.mem_append.1 hx with h | h
          · exact hdot x h
          · rw [List.mem_singleton.1 h]; exact hdc)
        refine ⟨r, Ev.step (fun k => ?_) hr, hg⟩
        have z : (⟨done.toArray⟩ : ByteArray).size = done.length := rfl
        rw [spec_Path.l1, if_pos (by omega), if_pos (by omega), hb, if_neg hb64, spZ_range, Option.bind_some, if_neg hsp, hw, if_pos (by omega), if_pos (by omega), Int.toNat_natCast, Int.toNat_natCast, ext1 s i c hc, if_pos (room_one done _ (by omega)), app_bytes done [c]]
theorem l0_go (s : ByteArray) (i : Nat) (done : List UInt8) (c : UInt8) (hi : i < s.size) (hc : s.data.toList[i]? = some c) (h34 : c ≠ 34) (k : Nat) : spec_Path.l0 (k + 1) s (i : Int) ⟨done.toArray⟩ = spec_Path.j2 k s (i : Int) ⟨done.toArray⟩ true := by
  have hb := bt_some s i c hc
  have hne : (((c.toNat : Int)) != 34) = true := by
    rw [bne_iff_ne]; intro h; exact h34 (UInt8.toNat_inj.1 (by show c.toNat = 34; omega))
  rw [spec_Path.l0, if_pos (by omega), if_pos (by omega), hb, hne]
theorem l0_end (s : ByteArray) (i : Nat) (done : List UInt8) (hi : i < s.size) (hc : s.data.toList[i]? = some 34) (k : Nat) : spec_Path.l0 (k + 1) s (i : Int) ⟨done.toArray⟩ = spec_Path.j2 k s (i : Int) ⟨done.toArray⟩ false := by
  have hb := bt_some s i 34 hc
  have h34 : (((34 : UInt8).toNat : Int)) = 34 := rfl
  rw [h34] at hb
  have hne : ((34 : Int) != 34) = false := by decide
  rw [spec_Path.l0, if_pos (by omega), if_pos (by omega), hb, hne]
theorem l0_out (s : ByteArray) (i : Nat) (done : List UInt8) (hi : ¬ i < s.size) (k : Nat) : spec_Path.l0 (k + 1) s (i : Int) ⟨done.toArray⟩ = spec_Path.j2 k s (i : Int) ⟨done.toArray⟩ false := by
  rw [spec_Path.l0, if_neg (by omega)]
theorem j2_stop (s : ByteArray) (i : Nat) (done : List UInt8) (hi : i ≤ 1000) (k : Nat) : spec_Path.j2 (k + 1) s (i : Int) ⟨done.toArray⟩ false = spec_Path.j4 k s ((i + 1 : Nat) : Int) ⟨done.toArray⟩ := by
  have hw : wrap64 ((i : Int) + 1) = ((i + 1 : Nat) : Int) := wrap_succ (by omega)
  rw [spec_Path.j2, if_neg (by decide), hw]
theorem j2_one (s : ByteArray) (hs : s.size ≤ 1000) (i : Nat) (done : List UInt8) (c : UInt8) (hi : i < s.size) (hd : done.length ≤ 2000) (hc : s.data.toList[i]? = some c) (h92 : c ≠ 92) (k : Nat) : spec_Path.j2 (k + 1) s (i : Int) ⟨done.toArray⟩ true = spec_Path.l0 k s ((i + 1 : Nat) : Int) ⟨(done ++ [c]).toArray⟩ := by
  have hb := bt_some s i c hc
  have hw : wrap64 ((i : Int) + 1) = ((i + 1 : Nat) : Int) := wrap_succ (by omega)
  have hb92 : ¬ (c.toNat : Int) = 92 := fun h => h92 (UInt8.toNat_inj.1 (by show c.toNat = 92; omega))
  have hroom := room_one done c hd
  rw [spec_Path.j2, if_pos rfl, if_pos (by omega), if_pos (by omega), hb, if_neg hb92, if_neg (by omega), hw, if_pos (by omega), if_pos (by omega), Int.toNat_natCast, Int.toNat_natCast, ext1 s i c hc, if_pos hroom, app_bytes done [c]]
theorem j2_esc (s : ByteArray) (hs : s.size ≤ 1000) (i : Nat) (done : List UInt8) (c2 : UInt8) (hi : i + 1 < s.size) (hd : done.length ≤ 2000) (hc : s.data.toList[i]? = some 92) (hc2 : s.data.toList[i + 1]? = some c2) (k : Nat) : spec_Path.j2 (k + 1) s (i : Int) ⟨done.toArray⟩ true = spec_Path.l0 k s ((i + 1 + 1 : Nat) : Int) ⟨(done ++ [c2]).toArray⟩ := by
  have hb := bt_some s i 92 hc
  have h92 : (((92 : UInt8).toNat : Int)) = 92 := rfl
  rw [h92] at hb
  have hw : wrap64 ((i : Int) + 1) = ((i + 1 : Nat) : Int) := wrap_succ (by omega)
  have hw2 : wrap64 (((i + 1 : Nat) : Int) + 1) = ((i + 1 + 1 : Nat) : Int) := wrap_succ (by omega)
  have hroom := room_one done c2 hd
  have hext := ext1 s (i + 1) c2 hc2
  rw [spec_Path.j2, if_pos rfl, if_pos (by omega), if_pos (by omega), hb, if_pos rfl, hw]
  generalize hj : i + 1 = j at hw2 hext hi ⊢
  rw [if_neg (by omega), if_pos (by omega), hw2, if_pos (by omega), if_pos (by omega), Int.toNat_natCast, Int.toNat_natCast, hext, if_pos hroom, app_bytes done [c2]]
theorem j2_out (s : ByteArray) (hs : s.size ≤ 1000) (i : Nat) (done : List UInt8) (hi : i < s.size) (hi2 : ¬ i + 1 < s.size) (hc : s.data.toList[i]? = some 92) (k : Nat) : spec_Path.j2 (k + 1) s (i : Int) ⟨done.toArray⟩ true = some badR := by
  have hb := bt_some s i 92 hc
  have h92 : (((92 : UInt8).toNat : Int)) = 92 := rfl
  rw [h92] at hb
  have hw : wrap64 ((i : Int) + 1) = ((i + 1 : Nat) : Int) := wrap_succ (by omega)
  rw [spec_Path.j2, if_pos rfl, if_pos (by omega), if_pos (by omega), hb, if_pos rfl, hw, if_pos (by omega)]
  rfl
theorem l0_tellsP (s : ByteArray) (hs : s.size ≤ 1000) (t : List UInt8) (hl : s.data.toList = 60 :: 34 :: t) (d : Nat) :
    ∀ (i : Nat) (done : List UInt8), s.size - i ≤ d → i ≤ s.size → done.length ≤ i → (quo (s.data.toList.drop i)).map (fun q => (done ++ q.1, q.2)) = quo t → ∃ r, Ev (fun k => spec_Path.l0 k s (i : Int) ⟨done.toArray⟩) r ∧ Good s.data.toList r := by
  induction d with
  | zero =>
    intro i done hd hi hdl hq
    obtain ⟨r, hr, hg⟩ := j4_tells s hs (34 :: t) done hl (by omega) (i + 1) (by omega) (fun h => by
      rw [List.getElem?_eq_none (by rw [← size_list]; omega)] at h; cases h)
    exact ⟨r, Ev.step (l0_out s i done (by omega)) (Ev.step (g := fun k => spec_Path.j2 k s (i : Int) ⟨done.toArray⟩ false) (j2_stop s i done (by omega)) hr), hg⟩
  | succ d ih =>
    intro i done hd hi hdl hq
    by_cases hlt : i < s.size
    · have hil : i < s.data.toList.length := by rw [← size_list]; omega
      obtain ⟨c, hc⟩ : ∃ c, s.data.toList[i]? = some c := ⟨_, List.getElem?_eq_getElem hil⟩
      have hdr := drop_cons _ i c hc
      by_cases h34 : c = 34
      · subst h34
        rw [hdr, quo_end] at hq
        obtain ⟨r, hr, hg⟩ := j4_tells s hs (34 :: t) done hl (by omega) (i + 1) (by omega) (fun h => Or.inl ⟨t, rfl, by
          rw [← hq, ← drop_cons _ (i + 1) 64 h]
          simp⟩)
        exact ⟨r, Ev.step (l0_end s i done hlt hc) (Ev.step (g := fun k => spec_Path.j2 k s (i : Int) ⟨done.toArray⟩ false) (j2_stop s i done (by omega)) hr), hg⟩
      · by_cases h92 : c = 92
        · subst h92
          by_cases hlt2 : i + 1 < s.size
          · obtain ⟨c2, hc2⟩ : ∃ c, s.data.toList[i + 1]? = some c := ⟨_, List.getElem?_eq_getElem (by rw [← size_list]; exact hlt2)⟩
            rw [hdr, drop_cons _ (i + 1) c2 hc2, quo_esc] at hq
            obtain ⟨r, hr, hg⟩ := ih (i + 1 + 1) (done ++ [c2]) (by omega) (by omega) (by simp; omega) (by
              rw [← hq, Option.map_map]
              congr 1
              funext q
              simp)
            exact ⟨r, Ev.step (l0_go s i done 92 hlt hc (by decide)) (Ev.step (g := fun k => spec_Path.j2 k s (i : Int) ⟨done.toArray⟩ true) (j2_esc s hs i done c2 hlt2 (by omega) hc hc2) hr), hg⟩
          · exact ⟨badR, Ev.step (l0_go s i done 92 hlt hc (by decide)) (Ev.one (g := fun k => spec_Path.j2 k s (i : Int) ⟨done.toArray⟩ true) (j2_out s hs i done hlt hlt2 hc)), good_bad _⟩
        · rw [hdr, quo_one c _ h34 h92] at hq
          obtain ⟨r, hr, hg⟩ := ih (i + 1) (done ++ [c]) (by omega) (by omega) (by simp; omega) (by
            rw [← hq, Option.map_map]
            congr 1
            funext q
            simp)
          exact ⟨r, Ev.step (l0_go s i done c hlt hc h34) (Ev.step (g := fun k => spec_Path.j2 k s (i : Int) ⟨done.toArray⟩ true) (j2_one s hs i done c hlt (by omega) hc h92) hr), hg⟩
    · obtain ⟨r, hr, hg⟩ := j4_tells s hs (34 :: t) done hl (by omega) (i + 1) (by omega) (fun h => by
        rw [List.getElem?_eq_none (by rw [← size_list]; omega)] at h; cases h)
      exact ⟨r, Ev.step (l0_out s i done hlt) (Ev.step (g := fun k => spec_Path.j2 k s (i : Int) ⟨done.toArray⟩ false) (j2_stop s i done (by omega)) hr), hg⟩
theorem j0_bad (s : ByteArray) (k : Nat) : spec_Path.j0 (k + 1) s true = some badR := by rw [spec_Path.j0, if_pos rfl]; rfl
theorem j0_some (s : ByteArray) (c d : UInt8) (t : List UInt8) (hl : s.data.toList = c :: d :: t) (k : Nat) : spec_Path.j0 (k + 1) s false = if (d.toNat : Int) = 62 then some (⟨#[]⟩, s.extract 2 s.size, true) else if (d.toNat : Int) = 34 then spec_Path.l0 k s ((2 : Nat) : Int) ⟨([] : List UInt8).toArray⟩ else spec_Path.l1 k s ((1 : Nat) : Int) ⟨([] : List UInt8).toArray⟩ := by
  have hz : s.size = t.length + 2 := by rw [size_list, hl]; simp
  have hb := bt_some s 1 d (by rw [hl]; rfl)
  have hb1 : bt s 1 = (d.toNat : Int) := hb
  rw [spec_Path.j0, if_neg (by decide), if_pos (by omega), hb1, if_pos (show (2 : Int) ≤ (s.size : Int) by omega)]
  rfl
theorem path_tells (s : ByteArray) (hs : s.size ≤ 1000) : ∃ r, Ev (fun k => spec_Path.f k s) r ∧ Good s.data.toList r := by
  by_cases h2 : s.size < 2
  · refine ⟨badR, Ev.congr (f := fun k => spec_Path.j0 k s true) (fun k => ?_) (Ev.one (j0_bad s)), good_bad _⟩
    unfold spec_Path.f
    rw [if_pos (by omega)]
  · obtain ⟨c, d, t, hl⟩ : ∃ c d t, s.data.toList = c :: d :: t := by
      match h : s.data.toList with
      | [] => have hz : s.size = 0 := by rw [size_list, h]; rfl
              omega
      | [a] => have hz : s.size = 1 := by rw [size_list, h]; rfl
               omega
      | a :: b :: u => exact ⟨a, b, u, rfl⟩
    have hb : bt s 0 = (c.toNat : Int) := bt_some s 0 c (by rw [hl]; rfl)
    have hf : ∀ k, spec_Path.f k s = spec_Path.j0 k s ((c.toNat : Int) != 60) := fun k => by
      unfold spec_Path.f
      rw [if_neg (by omega), if_pos (by omega), hb]
    by_cases h60 : c = 60
    · subst h60
      have hf0 : ∀ k, spec_Path.f k s = spec_Path.j0 k s false := fun k => hf k
      have hj := j0_some s 60 d t hl
      by_cases h62 : d = 62
      · subst h62
        refine ⟨(⟨#[]⟩, s.extract 2 s.size, true), Ev.congr hf0 (Ev.one (g := fun k => spec_Path.j0 k s false) fun k => ?_), fun _ => ?_⟩
        · rw [hj k, if_pos (show ((UInt8.toNat 62 : Nat) : Int) = 62 from rfl)]
        · refine ⟨s.data.toList.drop 2, ba_ext (by rw [ext_end]), ⟨2, rfl⟩, Or.inr ⟨rfl, ?_⟩⟩
          rw [hl]
          rfl
      · have hd62 : ¬ (d.toNat : Int) = 62 := fun h => h62 (UInt8.toNat_inj.1 (by show d.toNat = 62; omega))
        by_cases h34 : d = 34
        · subst h34
          obtain ⟨r, hr, hg⟩ := l0_tellsP s hs t hl s.size 2 [] (by omega) (by omega) (by simp) (by
            rw [hl]
            show (quo t).map _ = quo t
            simp)
          refine ⟨r, Ev.congr hf0 (Ev.step (g := fun k => spec_Path.j0 k s false) (fun k => ?_) hr), hg⟩
          rw [hj k, if_neg hd62, if_pos (show ((UInt8.toNat 34 : Nat) : Int) = 34 from rfl)]
        · have hd34 : ¬ (d.toNat : Int) = 34 := fun h => h34 (UInt8.toNat_inj.1 (by show d.toNat = 34; omega))
          obtain ⟨r, hr, hg⟩ := l1_tellsP s hs (d :: t) hl (s.size - 1) 1 [] (by omega) (by simp) (by rw [hl]; rfl) (fun x hx => by cases hx)
          refine ⟨r, Ev.congr hf0 (Ev.step (g := fun k => spec_Path.j0 k s false) (fun k => ?_) hr), hg⟩
          rw [hj k, if_neg hd62, if_neg hd34]
    · have hne : ((c.toNat : Int) != 60) = true := by
        rw [bne_iff_ne]; intro h; exact h60 (UInt8.toNat_inj.1 (by show c.toNat = 60; omega))
      refine ⟨badR, Ev.congr (f := fun k => spec_Path.j0 k s true) (fun k => ?_) (Ev.one (j0_bad s)), good_bad _⟩
      rw [hf, hne]
end Go.Proofs.YtldiamldbpobgaaGreatDoor.Own
