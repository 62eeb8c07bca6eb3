/- The code units of a shift as characters: the reference's and the package's. Plain Lean alone: no law of the program is proved here. The reference's units9, whole, against what the package makes of a shift. Plain Lean alone: no law of the program is proved here. -/
import Derived.Test.YtbjhmmiijebehaaDoorME
namespace Go.Proofs.YtbjhmmiijebehaaDoor.Own
open Go.RowKit Go.Lib Go.Proofs.YtbjhmmiijebehaaDoorW.PrintWords Go.Proofs.YtbjhmmiijebehaaDoorW.PrintMore
set_option linter.unusedVariables false
set_option linter.unusedSimpArgs false

def runesU : List Nat → Option (List Nat)
  | [] => some []
  | [u] => if 32 ≤ u ∧ u ≤ 126 then none else if 55296 ≤ u ∧ u < 57344 then none else some [u]
  | u :: v :: t =>
    if 32 ≤ u ∧ u ≤ 126 then none
    else if 55296 ≤ u ∧ u < 57344 then (if u < 56320 ∧ 56320 ≤ v ∧ v < 57344 then (runesU t).map ((65536 + (u - 55296) * 1024 + (v - 56320)) :: ·) else none)
    else (runesU (v :: t)).map (u :: ·)
theorem un_ub (u : Nat) (h : u < 65536) : un (UInt8.ofNat (u / 256)) (UInt8.ofNat u) = u := by
  unfold un
  rw [UInt8.toNat_ofNat', UInt8.toNat_ofNat']
  omega
theorem runesU_plain (u : Nat) (t : List Nat) (h1 : ¬ (55296 ≤ u ∧ u < 57344)) : runesU (u :: t) = if 32 ≤ u ∧ u ≤ 126 then none else (runesU t).map (u :: ·) := by
  cases t with
  | nil =>
    conv => lhs; rw [runesU]
    rw [if_neg h1]
    split <;> simp [runesU]
  | cons v t =>
    conv => lhs; rw [runesU]
    rw [if_neg h1]
theorem runesU_one (u : Nat) (h1 : 55296 ≤ u ∧ u < 57344) : runesU [u] = none := by
  rw [runesU, if_neg (by omega), if_pos h1]
theorem runesU_two (u v : Nat) (t : List Nat) (h1 : 55296 ≤ u ∧ u < 57344) : runesU (u :: v :: t) = if u < 56320 ∧ 56320 ≤ v ∧ v < 57344 then (runesU t).map ((65536 + (u - 55296) * 1024 + (v - 56320)) :: ·) else none := by
  rw [runesU, if_neg (by omega), if_pos h1]
set_option maxRecDepth 100000 in
theorem u16_runes : ∀ (us : List Nat), (∀ u ∈ us, u < 65536) → u16 (us.flatMap ub) = (runesU us).map fun rs => rs.flatMap enc8
  | [], _ => by simp [runesU, u16]
  | u :: t, h => by
    have hu := h u (by simp)
    have e1 : (u :: t).flatMap ub = UInt8.ofNat (u / 256) :: UInt8.ofNat u :: t.flatMap ub := by simp [ub]
    rw [e1]
    by_cases hs : 55296 ≤ u ∧ u < 57344
    · match t, h with
      | [], h => rw [runesU_one u hs]; exact u16_sur1 _ _ (by rw [un_ub u hu]; exact hs)
      | v :: t, h =>
        have hv := h v (by simp)
        have e2 : (v :: t).flatMap ub = UInt8.ofNat (v / 256) :: UInt8.ofNat v :: t.flatMap ub := by simp [ub]
        rw [e2, runesU_two u v t hs, u16_sur2 _ _ _ _ _ (by rw [un_ub u hu]; exact hs), un_ub u hu, un_ub v hv, u16_runes t (fun x hx => h x (by simp [hx]))]
        split
        · cases runesU t <;> simp
        · rfl
    · rw [u16_cons _ _ _ (by rw [un_ub u hu]; exact hs), un_ub u hu, runesU_plain u t hs, u16_runes t (fun x hx => h x (by simp [hx]))]
      split
      · rfl
      · cases runesU t <;> simp
theorem runesU_chr : ∀ (us rs : List Nat), (∀ u ∈ us, u < 65536) → runesU us = some rs → ∀ r ∈ rs, Chr r
  | [], rs, _, h => by cases h; simp
  | u :: t, rs, hu, h => by
    have hul := hu u (by simp)
    by_cases hs : 55296 ≤ u ∧ u < 57344
    · match t, hu, h with
      | [], hu, h => rw [runesU_one u hs] at h; cases h
      | v :: t, hu, h =>
        rw [runesU_two u v t hs] at h
        split at h
        · rename_i hc
          have hX : Chr (65536 + (u - 55296) * 1024 + (v - 56320)) := by unfold Chr; obtain ⟨c1, c2, c3⟩ := hc; omega
          generalize 65536 + (u - 55296) * 1024 + (v - 56320) = X at h hX
          rcases hr : runesU t with _ | r
          · rw [hr] at h; cases h
          · rw [hr] at h
            cases h
            intro x hx
            rcases List.mem_cons.1 hx with rfl | hx
            · exact hX
            · exact runesU_chr t r (fun x hx => hu x (by simp [hx])) hr x hx
        · cases h
    · rw [runesU_plain u t hs] at h
      split at h
      · cases h
      · rcases hr : runesU t with _ | r
        · rw [hr] at h; cases h
        · rw [hr] at h
          cases h
          intro x hx
          rcases List.mem_cons.1 hx with rfl | hx
          · unfold Chr; omega
          · exact runesU_chr t r (fun x hx => hu x (by simp [hx])) hr x hx
theorem runesU_ne (us rs : List Nat) (h : runesU us = some rs) (hne : us ≠ []) : rs ≠ [] := by
  intro h0
  subst h0
  match us, hne, h with
  | u :: t, _, h =>
    by_cases hs : 55296 ≤ u ∧ u < 57344
    · match t, h with
      | [], h => rw [runesU_one u hs] at h; cases h
      | v :: t, h =>
        rw [runesU_two u v t hs] at h
        split at h
        · rcases hr : runesU t with _ | r
          · rw [hr] at h; cases h
          · rw [hr] at h; simp at h
        · cases h
    · rw [runesU_plain u t hs] at h
      split at h
      · cases h
      · rcases hr : runesU t with _ | r
        · rw [hr] at h; cases h
        · rw [hr] at h; simp at h
theorem enc8_ne (r : Nat) : enc8 r ≠ [] := by
  unfold enc8 Lib.encodeRune
  intro h
  have := (Lib.encodeRuneZ_length (r : Int)).1
  have h2 := congrArg List.length h
  rw [List.length_map] at h2
  simp at h2
  rw [h2] at this
  simp at this
theorem valid_chr (r : Nat) (h : Chr r) : Utf8.valid (r : Int) = true := by
  unfold Chr at h
  unfold Utf8.valid
  simp
  omega
theorem encode_chr (r : Nat) (h : Chr r) : (Utf8.encode (r : Int)).data.toList = enc8 r := by
  have hv := valid_chr r h
  unfold Utf8.encode
  simp only [hv, if_true, Int.toNat_natCast]
  unfold Chr at h
  by_cases h1 : r < 128
  · rw [if_pos h1, enc8_1 r (by omega)]
  · rw [if_neg h1]
    by_cases h2 : r < 2048
    · rw [if_pos h2, enc8_2 r (by omega) (by omega)]
    · rw [if_neg h2]
      by_cases h3 : r < 65536
      · rw [if_pos h3, enc8_3 r (by omega)]
      · rw [if_neg h3, enc8_4 r (by omega) (by omega)]
theorem runes_fold : ∀ (rs : List Nat) (acc : ByteArray), (∀ r ∈ rs, Chr r) → ((ints rs).foldl (fun r n => r ++ Utf8.encode n) acc).data.toList = acc.data.toList ++ rs.flatMap enc8
  | [], acc, _ => by simp [ints]
  | r :: t, acc, h => by
    show ((ints t).foldl (fun r n => r ++ Utf8.encode n) (acc ++ Utf8.encode (r : Int))).data.toList = _
    rw [runes_fold t _ (fun x hx => h x (by simp [hx]))]
    have e : (acc ++ Utf8.encode (r : Int)).data.toList = acc.data.toList ++ enc8 r := by
      rw [← encode_chr r (h r (by simp))]
      simp
    rw [e]
    simp
theorem runesBytes_eq (rs : List Nat) (h : ∀ r ∈ rs, Chr r) : runesBytes (ints rs) = ⟨(rs.flatMap enc8).toArray⟩ := by
  apply ByteArray.ext
  apply Array.ext'
  have := runes_fold rs ByteArray.empty h
  unfold runesBytes
  rw [this]
  simp
end Go.Proofs.YtbjhmmiijebehaaDoor.Own

namespace Go.Proofs.YtbjhmmiijebehaaDoor.Own
open Go.RowKit Go.Lib Go.Proofs.YtbjhmmiijebehaaDoorW.PrintWords Go.Proofs.YtbjhmmiijebehaaDoorW.PrintMore
open PFromUtf7Of (spec_plain9.f spec_units9.f spec_units9.l0 spec_units9.l2 spec_units9.j5 spec_units9.j6)
set_option linter.unusedVariables false
set_option linter.unusedSimpArgs false

theorem rd_ints (us : List Nat) (i u : Nat) (h : us[i]? = some u) : rd (ints us) (i : Int) = (u : Int) := by
  unfold rd ints
  rw [Int.toNat_natCast, List.getD_eq_getElem?_getD, List.getElem?_map, h]
  rfl
theorem plain9_eq (u : Nat) : spec_plain9.f (u : Int) = some (decide (32 ≤ u ∧ u ≤ 126)) := by
  unfold spec_plain9.f
  by_cases h : 32 ≤ u
  · rw [if_pos (by omega)]
    exact congrArg some (decide_eq_decide.2 (by omega))
  · rw [if_neg (by omega)]
    exact congrArg some (decide_eq_false (by omega)).symm
theorem l2_end (k : Nat) (us : List Nat) (x : List Int) (i : Int) (h : ¬ i < (us.length : Int)) : spec_units9.l2 (k + 1) (ints us) x i = some (x, true) := by
  rw [spec_units9.l2, ints_length, if_neg h]
theorem l2_printable (k : Nat) (us : List Nat) (x : List Int) (i u : Nat) (hu : us[i]? = some u) (h : 32 ≤ u ∧ u ≤ 126) : spec_units9.l2 (k + 1) (ints us) x (i : Int) = spec_units9.j5 k (ints us) x (i : Int) (u : Int) true := by
  have hlt := (List.getElem?_eq_some_iff.1 hu).1
  rw [spec_units9.l2, ints_length, if_pos (by omega), if_pos (by omega), rd_ints us i u hu, plain9_eq, decide_eq_true h]
  rfl
theorem l2_low (k : Nat) (us : List Nat) (x : List Int) (i u : Nat) (hu : us[i]? = some u) (h : ¬ (32 ≤ u ∧ u ≤ 126)) (h2 : u < 56320) : spec_units9.l2 (k + 1) (ints us) x (i : Int) = spec_units9.j5 k (ints us) x (i : Int) (u : Int) false := by
  have hlt := (List.getElem?_eq_some_iff.1 hu).1
  rw [spec_units9.l2, ints_length, if_pos (by omega), if_pos (by omega), rd_ints us i u hu, plain9_eq, decide_eq_false h]
  simp only [Option.bind_some, Bool.false_eq_true, if_false]
  rw [if_neg (by omega)]
theorem l2_high (k : Nat) (us : List Nat) (x : List Int) (i u : Nat) (hu : us[i]? = some u) (h : ¬ (32 ≤ u ∧ u ≤ 126)) (h2 : 56320 ≤ u) : spec_units9.l2 (k + 1) (ints us) x (i : Int) = spec_units9.j5 k (ints us) x (i : Int) (u : Int) (decide (u ≤ 57343)) := by
  have hlt := (List.getElem?_eq_some_iff.1 hu).1
  rw [spec_units9.l2, ints_length, if_pos (by omega), if_pos (by omega), rd_ints us i u hu, plain9_eq, decide_eq_false h]
  simp only [Option.bind_some, Bool.false_eq_true, if_false]
  rw [if_pos (by omega)]
  exact congrArg _ (decide_eq_decide.2 (by omega))
theorem j5_true (k : Nat) (us x : List Int) (i u : Int) : spec_units9.j5 (k + 1) us x i u true = some ([], false) := by
  rw [spec_units9.j5, if_pos rfl]
theorem j5_high (k : Nat) (us x : List Int) (i : Int) (u : Nat) (h : 55296 ≤ u) : spec_units9.j5 (k + 1) us x i (u : Int) false = spec_units9.j6 k us x i (u : Int) (decide (u ≤ 56319)) := by
  rw [spec_units9.j5, if_neg (by decide), if_pos (by omega)]
  exact congrArg _ (decide_eq_decide.2 (by omega))
theorem j5_low (k : Nat) (us x : List Int) (i : Int) (u : Nat) (h : u < 55296) : spec_units9.j5 (k + 1) us x i (u : Int) false = spec_units9.j6 k us x i (u : Int) false := by
  rw [spec_units9.j5, if_neg (by decide), if_neg (by omega)]
theorem wi (i : Nat) (h : i ≤ 100000) : wrap64 ((i : Int) + 1) = ((i + 1 : Nat) : Int) := by unfold wrap64; omega
theorem j6_false (k : Nat) (us : List Int) (rs : List Nat) (i u : Nat) (hi : i ≤ 100000) (hr : rs.length ≤ 100000) (hu : u < 65536) : spec_units9.j6 (k + 1) us (ints rs) (i : Int) (u : Int) false = spec_units9.l2 k us (ints (rs ++ [u])) ((i + 1 : Nat) : Int) := by
  rw [spec_units9.j6, if_neg (by decide), if_pos (by rw [ints_length]; omega), wi i hi, ints_append]
  have : wrap32 (u : Int) = (u : Int) := by unfold wrap32; omega
  rw [this]
  rfl
theorem j6_end (k : Nat) (us : List Nat) (x : List Int) (i : Nat) (u : Int) (hi : i ≤ 100000) (h : i + 1 = us.length) : spec_units9.j6 (k + 1) (ints us) x (i : Int) u true = some ([], false) := by
  rw [spec_units9.j6, if_pos rfl, wi i hi, ints_length, if_pos (by omega)]
theorem j6_bad (k : Nat) (us : List Nat) (x : List Int) (i v : Nat) (u : Int) (hi : i ≤ 100000) (hv : us[i + 1]? = some v) (h : ¬ (56320 ≤ v ∧ v < 57344)) : spec_units9.j6 (k + 1) (ints us) x (i : Int) u true = some ([], false) := by
  have hlt := (List.getElem?_eq_some_iff.1 hv).1
  rw [spec_units9.j6, if_pos rfl, wi i hi, ints_length, if_neg (by omega), if_pos (by omega), if_pos (by omega), rd_ints us (i + 1) v hv]
  by_cases h1 : v < 56320
  · rw [if_pos (by omega)]
  · rw [if_neg (by omega), if_pos (by omega)]
set_option maxRecDepth 100000 in
theorem j6_pair (k : Nat) (us rs : List Nat) (i u v : Nat) (hi : i ≤ 99999) (hr : rs.length ≤ 100000) (hu : 55296 ≤ u ∧ u < 56320) (hv : us[i + 1]? = some v) (h : 56320 ≤ v ∧ v < 57344) : spec_units9.j6 (k + 1) (ints us) (ints rs) (i : Int) (u : Int) true =
    spec_units9.l2 k (ints us) (ints (rs ++ [65536 + (u - 55296) * 1024 + (v - 56320)])) ((i + 2 : Nat) : Int) := by
  have hlt := (List.getElem?_eq_some_iff.1 hv).1
  rw [spec_units9.j6, if_pos rfl, wi i (by omega), ints_length, if_neg (by omega), if_pos (by omega), if_pos (by omega), rd_ints us (i + 1) v hv, if_neg (by omega), if_neg (by omega), if_pos (by rw [ints_length]; omega), wi (i + 1) (by omega), ints_append]
  have : wrap32 (((65536 + (((((u : Int) - 55296) % 4294967296) * 1024) % 4294967296)) % 4294967296 + (((v : Int) - 56320) % 4294967296)) % 4294967296) = ((65536 + (u - 55296) * 1024 + (v - 56320) : Nat) : Int) := by
    unfold wrap32
    omega
  rw [this]
  rfl
theorem l2_run (us : List Nat) (hus : us.length ≤ 1000) (hlt : ∀ u ∈ us, u < 65536) (v : List Int × Bool) : ∀ (n : Nat) (l : List Nat) (i : Nat) (rs : List Nat), l.length ≤ n → us.drop i = l → i ≤ us.length → rs.length ≤ i →
    (match runesU l with
      | none => v = ([], false)
      | some r => v = (ints (rs ++ r), true)) → Ev (fun k => spec_units9.l2 k (ints us) (ints rs) (i : Int)) v := by
  intro n
  induction n with
  | zero =>
    intro l i rs hl hd hi hr h
    have hle : l = [] := List.eq_nil_of_length_eq_zero (by omega)
    subst hle
    have hie : i = us.length := by have := congrArg List.length hd; simp at this; omega
    have hv : v = (ints rs, true) := by simpa [runesU] using h
    rw [hv]
    exact Ev.const fun k => l2_end k us (ints rs) i (by omega)
  | succ n ih =>
    intro l i rs hl hd hi hr h
    match l, hl, hd, h with
    | [], hl, hd, h =>
      have hie : i = us.length := by have := congrArg List.length hd; simp at this; omega
      have hv : v = (ints rs, true) := by simpa [runesU] using h
      rw [hv]
      exact Ev.const fun k => l2_end k us (ints rs) i (by omega)
    | u :: t, hl, hd, h =>
      have hil : i < us.length := by have := congrArg List.length hd; simp at this; omega
      have hui : us[i]? = some u := by have := congrArg (·[0]?) hd; simpa using this
      have hu16 := hlt u (List.mem_of_getElem? hui)
      have hd2 : us.drop (i + 1) = t := by rw [← List.drop_drop, hd]; rfl
      by_cases hp : 32 ≤ u ∧ u ≤ 126
      · have hv : v = ([], false) := by
          rw [runesU_plain u t (by omega), if_pos hp] at h; exact h
        rw [hv]
        exact (show Ev (fun k => spec_units9.j5 k (ints us) (ints rs) (i : Int) (u : Int) true) ([], false) from Ev.const fun k => j5_true k (ints us) (ints rs) i u).of fun k => l2_printable k us (ints rs) i u hui hp
      · by_cases hs : 55296 ≤ u ∧ u < 57344
        · by_cases hlow : u < 56320
          · have hj6 : Ev (fun k => spec_units9.j6 k (ints us) (ints rs) (i : Int) (u : Int) true) v := by
              match t, hd2, h, hl with
              | [], hd2, h, hl =>
                have hv : v = ([], false) := by rw [runesU_one u hs] at h; exact h
                rw [hv]
                have hie : i + 1 = us.length := by have := congrArg List.length hd2; simp at this; omega
                exact Ev.const fun k => j6_end k us (ints rs) i u (by omega) hie
              | w :: t2, hd2, h, hl =>
                have hw : us[i + 1]? = some w := by have := congrArg (·[0]?) hd2; simpa using this
                have hd3 : us.drop (i + 2) = t2 := by rw [show i + 2 = (i + 1) + 1 by omega, ← List.drop_drop, hd2]; rfl
                have hil2 := (List.getElem?_eq_some_iff.1 hw).1
                rw [runesU_two u w t2 hs] at h
                by_cases hwv : 56320 ≤ w ∧ w < 57344
                · rw [if_pos ⟨hlow, hwv⟩] at h
                  refine (ih t2 (i + 2) (rs ++ [65536 + (u - 55296) * 1024 + (w - 56320)]) (by simp at hl; omega) hd3 (by omega) (by simp; omega) ?_).of fun k => j6_pair k us rs i u w (by omega) (by omega) ⟨hs.1, hlow⟩ hw hwv
                  generalize 65536 + (u - 55296) * 1024 + (w - 56320) = X at h ⊢
                  rcases hr2 : runesU t2 with _ | r
                  · rw [hr2] at h; exact h
                  · rw [hr2] at h
                    have h' : v = (ints (rs ++ X :: r), true) := h
                    show v = (ints (rs ++ [X] ++ r), true)
                    rw [h']; simp
                · rw [if_neg (fun hc => hwv hc.2)] at h
                  have hv : v = ([], false) := h
                  rw [hv]
                  exact Ev.const fun k => j6_bad k us (ints rs) i w u (by omega) hw hwv
            have hj5 : Ev (fun k => spec_units9.j5 k (ints us) (ints rs) (i : Int) (u : Int) false) v := hj6.of fun k => by
              rw [j5_high k (ints us) (ints rs) i u hs.1, decide_eq_true (by omega)]
            exact hj5.of fun k => l2_low k us (ints rs) i u hui hp hlow
          · have hv : v = ([], false) := by
              match t, h with
              | [], h => rw [runesU_one u hs] at h; exact h
              | w :: t2, h => rw [runesU_two u w t2 hs, if_neg (fun hc => hlow hc.1)] at h; exact h
            rw [hv]
            refine (show Ev (fun k => spec_units9.j5 k (ints us) (ints rs) (i : Int) (u : Int) true) ([], false) from Ev.const fun k => j5_true k (ints us) (ints rs) i u).of fun k => ?_
            rw [l2_high k us (ints rs) i u hui hp (by omega), decide_eq_true (by omega)]
        · rw [runesU_plain u t hs, if_neg hp] at h
          have hl2 : Ev (fun k => spec_units9.l2 k (ints us) (ints (rs ++ [u])) ((i + 1 : Nat) : Int)) v := by
            refine ih t (i + 1) (rs ++ [u]) (by simp at hl; omega) hd2 (by omega) (by simp; omega) ?_
            rcases hr2 : runesU t with _ | r
            · rw [hr2] at h; exact h
            · rw [hr2] at h
              have h' : v = (ints (rs ++ u :: r), true) := h
              show v = (ints (rs ++ [u] ++ r), true)
              rw [h']; simp
          have hj6 : Ev (fun k => spec_units9.j6 k (ints us) (ints rs) (i : Int) (u : Int) false) v := hl2.of fun k => j6_false k (ints us) rs i u (by omega) (by omega) hu16
          by_cases hh : 57344 ≤ u
          · have hj5 : Ev (fun k => spec_units9.j5 k (ints us) (ints rs) (i : Int) (u : Int) false) v := hj6.of fun k => by
              rw [j5_high k (ints us) (ints rs) i u (by omega), decide_eq_false (by omega)]
            exact hj5.of fun k => by rw [l2_high k us (ints rs) i u hui hp (by omega), decide_eq_false (by omega)]
          · have hj5 : Ev (fun k => spec_units9.j5 k (ints us) (ints rs) (i : Int) (u : Int) false) v := hj6.of fun k => j5_low k (ints us) (ints rs) i u (by omega)
            exact hj5.of fun k => l2_low k us (ints rs) i u hui hp (by omega)
end Go.Proofs.YtbjhmmiijebehaaDoor.Own
