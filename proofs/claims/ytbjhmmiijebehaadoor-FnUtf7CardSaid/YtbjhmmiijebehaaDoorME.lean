/- The reference's units9: the code units of a shift's letters. Plain Lean alone: no law of the program is proved here. The reference's units9: its loop over the letters. Plain Lean alone: no law of the program is proved here. The letters of a shift: the reference's code units are the package's bytes. Plain Lean alone: no law of the program is proved here. The letters of a shift, whole: the reference's code units are the package's bytes. Plain Lean alone: no law of the program is proved here. -/
import Derived.Test.YtbjhmmiijebehaaDoorMD
import Derived.Test.YtbjhmmiijebehaaDoorPFromUtf7Ofx2
namespace Go.Proofs.YtbjhmmiijebehaaDoor.Own
open Go.RowKit Go.Lib Go.Proofs.YtbjhmmiijebehaaDoorW.PrintWords Go.Proofs.YtbjhmmiijebehaaDoorW.PrintMore
set_option linter.unusedVariables false
set_option linter.unusedSimpArgs false

/-- From some fuel on. -/
def Ev {α : Type} (f : Nat → Option α) (v : α) : Prop := ∃ n, ∀ k, n ≤ k → f k = some v
theorem Ev.of {α : Type} {f g : Nat → Option α} {v : α} (h : Ev g v) (hs : ∀ k, f (k + 1) = g k) : Ev f v := by
  obtain ⟨n, hn⟩ := h
  refine ⟨n + 1, fun k hk => ?_⟩
  obtain ⟨j, rfl⟩ : ∃ j, k = j + 1 := ⟨k - 1, by omega⟩
  rw [hs]; exact hn j (by omega)
theorem Ev.const {α : Type} {f : Nat → Option α} {v : α} (hs : ∀ k, f (k + 1) = some v) : Ev f v := by
  refine ⟨1, fun k hk => ?_⟩
  obtain ⟨j, rfl⟩ : ∃ j, k = j + 1 := ⟨k - 1, by omega⟩
  exact hs j
def ints (l : List Nat) : List Int := l.map fun (n : Nat) => (n : Int)
theorem ints_append (a b : List Nat) : ints (a ++ b) = ints a ++ ints b := by simp [ints]
theorem ints_length (a : List Nat) : (ints a).length = a.length := by simp [ints]
/-- A letter's number; 64 if it is none. -/
def idx (c : UInt8) : Nat := if (dm c).toNat < 64 then (dm c).toNat else 64
theorem idx_good (c : UInt8) (h : good c) : idx c = (dm c).toNat ∧ idx c < 64 := by
  have h' : (dm c).toNat < 64 := h
  unfold idx; rw [if_pos h']; exact ⟨rfl, h'⟩
theorem idx_bad (c : UInt8) (h : ¬ good c) : idx c = 64 := by
  have h' : ¬ (dm c).toNat < 64 := h
  unfold idx; rw [if_neg h']
theorem idx_all : ∀ n : Fin 256, (∀ m : Fin 64, m.val < idx (UInt8.ofNat n.val) → (alpha9.data.toList.getD m.val 0).toNat ≠ n.val) ∧ (idx (UInt8.ofNat n.val) < 64 → (alpha9.data.toList.getD (idx (UInt8.ofNat n.val)) 0).toNat = n.val) := by decide +kernel
theorem bt_alpha (m : Nat) (h : m < 64) : bt (⟨#[65, 66, 67, 68, 69, 70, 71, 72, 73, 74, 75, 76, 77, 78, 79, 80, 81, 82, 83, 84, 85, 86, 87, 88, 89, 90, 97, 98, 99, 100, 101, 102, 103, 104, 105, 106, 107, 108, 109, 110, 111, 112, 113, 114, 115, 116, 117, 118, 119, 120, 121, 122, 48, 49, 50, 51, 52, 53, 54, 55, 56, 57, 43, 44]⟩ : ByteArray) (m : Int) = ((alpha9.data.toList.getD m 0).toNat : Int) := by
  have h0 : m < alpha9.size := h
  show bt alpha9 (m : Int) = _
  rw [← bt_at alpha9 (m : Int) h0]
  have := enc_letter ⟨m, h⟩ h0
  exact congrArg (fun c : UInt8 => ((c.toNat : Nat) : Int)) this
theorem bt_list (T : ByteArray) (i : Nat) (c : UInt8) (h : T.data.toList[i]? = some c) : bt T (i : Int) = (c.toNat : Int) := by
  have hlt := (List.getElem?_eq_some_iff.1 h).1
  have hi : i < T.size := by simpa using hlt
  rw [← bt_at T (i : Int) hi]
  have : T[i]'hi = c := by
    have h2 := (List.getElem?_eq_some_iff.1 h).2
    show T.data[i] = c
    simpa using h2
  show ((T[i]'hi).toNat : Int) = _
  rw [this]
/-- The search for a letter. -/
theorem l1_search (T : ByteArray) (U : List Int) (b many i : Int) (x13 : Int) (c : UInt8) (hi0 : 0 ≤ i) (hi1 : i < (T.size : Int)) (hbt : bt T i = (c.toNat : Int)) (v : List Int × Bool) (x14 : Int)
    (h : Ev (fun k => PFromUtf7Of.spec_units9.j2 k T U b many (idx c : Int) x13 x14) v) : ∀ d m : Nat, m + d = idx c → Ev (fun k => PFromUtf7Of.spec_units9.l1 k T U b many i (m : Int) x13 x14) v := by
  have hall := idx_all ⟨c.toNat, UInt8.toNat_lt c⟩
  have hcc : UInt8.ofNat c.toNat = c := UInt8.ofNat_toNat
  simp only [hcc] at hall
  have h64 : idx c ≤ 64 := by unfold idx; split <;> omega
  intro d
  induction d with
  | zero =>
    intro m hm
    obtain rfl : m = idx c := by omega
    by_cases hlt : idx c < 64
    · refine h.of fun k => ?_
      rw [PFromUtf7Of.spec_units9.l1, if_pos (by omega), if_pos (by omega), if_pos hi0, if_pos hi1, bt_alpha _ hlt, hbt, hall.2 hlt, if_pos rfl]
    · refine h.of fun k => ?_
      rw [PFromUtf7Of.spec_units9.l1, if_neg (by omega)]
  | succ d ih =>
    intro m hm
    have hne : (alpha9.data.toList.getD m 0).toNat ≠ c.toNat := hall.1 ⟨m, by omega⟩ (by show m < _; omega)
    refine (ih (m + 1) (by omega)).of fun k => ?_
    rw [PFromUtf7Of.spec_units9.l1, if_pos (by omega), if_pos (by omega), if_pos hi0, if_pos hi1, bt_alpha _ (by omega), hbt, if_neg (by omega)]
    congr 1
    unfold wrap64
    omega
theorem shl_all : ∀ s : Nat, s < 16 → (shl .u32 1 (s : Int) - 1) % 4294967296 = ((2 ^ s - 1 : Nat) : Int) := by decide +kernel
theorem mask_and (v s : Nat) (hv : v < 4294967296) (hs : s < 16) : Go.bits .and .u32 (v : Int) ((shl .u32 1 (s : Int) - 1) % 4294967296) = ((v % 2 ^ s : Nat) : Int) := by
  have h2 : 2 ^ s ≤ 2 ^ 15 := Nat.pow_le_pow_right (by decide) (by omega)
  have h1 : 2 ^ s - 1 < 4294967296 := by omega
  rw [shl_all s hs, u32_and_nat v (2 ^ s - 1) hv h1, Nat.and_two_pow_sub_one_eq_mod]
theorem shr_nat (v s : Nat) (hs : s < 16) : shr .u32 (v : Int) (s : Int) = ((v / 2 ^ s : Nat) : Int) := by
  unfold shr
  rw [Int.toNat_natCast, Nat.min_eq_left (by show s ≤ 32; omega)]
  simp
theorem or_letter (b m : Nat) (hb : b < 65536) (hm : m < 64) : Go.bits .or .u32 (((b : Int) * 64) % 4294967296) ((m : Int) % 4294967296) = ((b * 64 + m : Nat) : Int) := by
  have hw : ∀ n : Int, 0 ≤ n → n < 2 ^ 32 → IntKind.u32.wrap n = n := fun n h0 h1 => by rw [IntKind.wrap_u32']; omega
  obtain ⟨A, hA⟩ : ∃ A : Int, A = (b : Int) * 64 := ⟨_, rfl⟩
  rw [← hA, show A % 4294967296 = A by omega, show (m : Int) % 4294967296 = (m : Int) by omega]
  rw [bits_join .u32 32 (by decide) hw 6 A (m : Int) (by omega) (by omega) (by omega) (by omega) (by omega) (by omega)]
  omega
theorem and_65535 (x : Nat) (h : x < 4294967296) : Go.bits .and .u32 (x : Int) 65535 = ((x % 65536 : Nat) : Int) := by
  have h1 := u32_and_nat x 65535 h (by omega)
  have h2 : x &&& 65535 = x % 65536 := Nat.and_two_pow_sub_one_eq_mod x 16
  rw [h2] at h1
  exact h1
/-- One letter more. -/
def stp (st : List Nat × Nat × Nat) (m : Nat) : List Nat × Nat × Nat :=
  if 16 ≤ st.2.2 + 6 then (st.1 ++ [(st.2.1 * 64 + m) / 2 ^ (st.2.2 + 6 - 16) % 65536], (st.2.1 * 64 + m) % 2 ^ (st.2.2 + 6 - 16), st.2.2 + 6 - 16)
  else (st.1, (st.2.1 * 64 + m) % 2 ^ (st.2.2 + 6), st.2.2 + 6)
def runL (st : List Nat × Nat × Nat) : List UInt8 → Option (List Nat × Nat × Nat)
  | [] => some st
  | c :: t => if good c then runL (stp st (dm c).toNat) t else none
def Fin9 (U : List Nat) (m : Nat) (v : List Int × Bool) : Prop := if 6 ≤ m ∨ U = [] then v = ([], false) else Ev (fun k => PFromUtf7Of.spec_units9.l2 k (ints U) [] 0) v
theorem ev_fin (U : List Nat) (m : Nat) (v : List Int × Bool) (h : Fin9 U m v) (f : Nat → Option (List Int × Bool)) (hf : ∀ k, f (k + 1) = if (m : Int) ≥ 6 then PFromUtf7Of.spec_units9.j3 k (ints U) true else PFromUtf7Of.spec_units9.j3 k (ints U) (((ints U).length : Int) == 0)) : Ev f v := by
  unfold Fin9 at h
  by_cases h6 : 6 ≤ m
  · rw [if_pos (.inl h6)] at h
    subst h
    refine Ev.of (g := fun k => PFromUtf7Of.spec_units9.j3 k (ints U) true) (Ev.const fun k => ?_) fun k => by rw [hf, if_pos (by omega)]
    rw [PFromUtf7Of.spec_units9.j3, if_pos rfl]
  · refine Ev.of (g := fun k => PFromUtf7Of.spec_units9.j3 k (ints U) (((ints U).length : Int) == 0)) ?_ fun k => by rw [hf, if_neg (by omega)]
    by_cases hU : U = []
    · rw [if_pos (.inr hU)] at h
      subst h
      subst hU
      exact Ev.const fun k => by rw [PFromUtf7Of.spec_units9.j3, if_pos (by rfl)]
    · rw [if_neg (by intro h; rcases h with h | h; exact h6 h; exact hU h)] at h
      refine h.of fun k => ?_
      have hne : (((ints U).length : Int) == 0) = false := by
        rw [beq_eq_false_iff_ne, ints_length]
        intro h0
        exact hU (List.eq_nil_of_length_eq_zero (by omega))
      rw [PFromUtf7Of.spec_units9.j3, hne, if_neg (by decide)]
theorem stp_bound (U : List Nat) (b many m : Nat) (hm : many ≤ 15) : (stp (U, b, many) m).2.1 < 65536 ∧ (stp (U, b, many) m).2.2 ≤ 15 ∧ (stp (U, b, many) m).1.length ≤ U.length + 1 := by
  unfold stp
  simp only
  split
  · refine ⟨?_, by simp only; omega, by simp⟩
    have h2 : 2 ^ (many + 6 - 16) ≤ 2 ^ 5 := Nat.pow_le_pow_right (by decide) (by omega)
    have h3 := Nat.mod_lt (b * 64 + m) (Nat.two_pow_pos (many + 6 - 16))
    simp only
    omega
  · refine ⟨?_, by simp only; omega, by simp⟩
    have h2 : 2 ^ (many + 6) ≤ 2 ^ 15 := Nat.pow_le_pow_right (by decide) (by omega)
    have h3 := Nat.mod_lt (b * 64 + m) (Nat.two_pow_pos (many + 6))
    simp only
    omega
end Go.Proofs.YtbjhmmiijebehaaDoor.Own

namespace Go.Proofs.YtbjhmmiijebehaaDoor.Own
open Go.RowKit Go.Lib Go.Proofs.YtbjhmmiijebehaaDoorW.PrintWords Go.Proofs.YtbjhmmiijebehaaDoorW.PrintMore
set_option linter.unusedVariables false
set_option linter.unusedSimpArgs false

theorem j2_bad (k : Nat) (T : ByteArray) (U : List Int) (b many s i : Int) : PFromUtf7Of.spec_units9.j2 (k + 1) T U b many 64 s i = some ([], false) := by
  rw [PFromUtf7Of.spec_units9.j2, if_pos rfl]
theorem j2_good (k : Nat) (T : ByteArray) (U : List Nat) (b many m i : Nat) (s : Int) (hb : b < 65536) (hm : many ≤ 15) (hmm : m < 64) (hi : i ≤ 100000) (hU : U.length ≤ 100000) :
    PFromUtf7Of.spec_units9.j2 (k + 1) T (ints U) (b : Int) (many : Int) (m : Int) s (i : Int) = PFromUtf7Of.spec_units9.l0 k T (ints (stp (U, b, many) m).1) ((stp (U, b, many) m).2.1 : Int) ((stp (U, b, many) m).2.2 : Int) s ((i + 1 : Nat) : Int) := by
  have hw6 : wrap64 ((many : Int) + 6) = ((many + 6 : Nat) : Int) := by unfold wrap64; omega
  have hwi : wrap64 ((i : Int) + 1) = ((i + 1 : Nat) : Int) := by unfold wrap64; omega
  have hv : b * 64 + m < 4294967296 := by omega
  rw [PFromUtf7Of.spec_units9.j2, if_neg (by omega), hw6, hwi, or_letter b m hb hmm]
  by_cases h16 : 16 ≤ many + 6
  · have hst : stp (U, b, many) m = (U ++ [(b * 64 + m) / 2 ^ (many + 6 - 16) % 65536], (b * 64 + m) % 2 ^ (many + 6 - 16), many + 6 - 16) := by unfold stp; exact if_pos h16
    have hws : wrap64 (((many + 6 : Nat) : Int) - 16) = ((many + 6 - 16 : Nat) : Int) := by unfold wrap64; omega
    have h1 : (b * 64 + m) / 2 ^ (many + 6 - 16) < 4294967296 := Nat.lt_of_le_of_lt (Nat.div_le_self _ _) hv
    rw [hst, if_pos (by omega), hws, if_pos (by omega), if_pos (by rw [ints_length]; omega), mask_and _ _ hv (by omega), shr_nat _ _ (by omega), and_65535 _ h1, ints_append]
    rfl
  · have hst : stp (U, b, many) m = (U, (b * 64 + m) % 2 ^ (many + 6), many + 6) := by unfold stp; exact if_neg h16
    rw [hst, if_neg (by omega), if_pos (by omega), mask_and _ _ hv (by omega)]
theorem l0_more (k : Nat) (T : ByteArray) (U : List Int) (b many s i : Int) (h : i < s) : PFromUtf7Of.spec_units9.l0 (k + 1) T U b many s i = PFromUtf7Of.spec_units9.l1 k T U b many i 0 s i := by
  rw [PFromUtf7Of.spec_units9.l0, if_pos h]
theorem l0_end (k : Nat) (T : ByteArray) (U : List Int) (b many s i : Int) (h : ¬ i < s) : PFromUtf7Of.spec_units9.l0 (k + 1) T U b many s i = if many ≥ 6 then PFromUtf7Of.spec_units9.j3 k U true else PFromUtf7Of.spec_units9.j3 k U ((U.length : Int) == 0) := by
  rw [PFromUtf7Of.spec_units9.l0, if_neg h]
theorem runL_nil (st : List Nat × Nat × Nat) : runL st [] = some st := rfl
theorem runL_good (st : List Nat × Nat × Nat) (c : UInt8) (t : List UInt8) (h : good c) : runL st (c :: t) = runL (stp st (dm c).toNat) t := by rw [runL, if_pos h]
theorem runL_bad (st : List Nat × Nat × Nat) (c : UInt8) (t : List UInt8) (h : ¬ good c) : runL st (c :: t) = none := by rw [runL, if_neg h]
def Out9 (v : List Int × Bool) : Option (List Nat × Nat × Nat) → Prop
  | none => v = ([], false)
  | some st => Fin9 st.1 st.2.2 v
theorem l0_run (T : ByteArray) (hT : T.size ≤ 1000) (v : List Int × Bool) : ∀ (l : List UInt8) (i : Nat) (U : List Nat) (b many : Nat), T.data.toList.drop i = l → i ≤ T.size → b < 65536 → many ≤ 15 → U.length ≤ i →
    Out9 v (runL (U, b, many) l) → Ev (fun k => PFromUtf7Of.spec_units9.l0 k T (ints U) (b : Int) (many : Int) (T.size : Int) (i : Int)) v := by
  intro l
  induction l with
  | nil =>
    intro i U b many hd hi hb hm hU h
    have hie : i = T.size := by have := congrArg List.length hd; simp at this; omega
    rw [runL_nil] at h
    exact ev_fin U many v h _ fun k => l0_end k T (ints U) b many T.size i (by omega)
  | cons c t ih =>
    intro i U b many hd hi hb hm hU h
    have hlt : i < T.size := by have := congrArg List.length hd; simp at this; omega
    have hc : T.data.toList[i]? = some c := by have := congrArg (·[0]?) hd; simpa using this
    have hd2 : T.data.toList.drop (i + 1) = t := by rw [← List.drop_drop, hd]; rfl
    have hbt := bt_list T i c hc
    have hj2 : Ev (fun k => PFromUtf7Of.spec_units9.j2 k T (ints U) (b : Int) (many : Int) (idx c : Int) (T.size : Int) (i : Int)) v := by
      by_cases hg : good c
      · rw [runL_good _ c t hg] at h
        have hix := idx_good c hg
        have hlt64 := hix.2
        rw [hix.1] at hlt64 ⊢
        have hbd := stp_bound U b many (dm c).toNat hm
        have hI := ih (i + 1) (stp (U, b, many) (dm c).toNat).1 (stp (U, b, many) (dm c).toNat).2.1 (stp (U, b, many) (dm c).toNat).2.2 hd2 (by omega) hbd.1 hbd.2.1 (by omega) h
        exact hI.of fun k => j2_good k T U b many (dm c).toNat i T.size hb hm hlt64 (by omega) (by omega)
      · rw [runL_bad _ c t hg] at h
        have h' : v = ([], false) := h
        rw [h', idx_bad c hg]
        exact Ev.const fun k => j2_bad k T (ints U) b many T.size i
    have hl1 : Ev (fun k => PFromUtf7Of.spec_units9.l1 k T (ints U) (b : Int) (many : Int) (i : Int) ((0 : Nat) : Int) (T.size : Int) (i : Int)) v :=
      l1_search T (ints U) b many i T.size c (by omega) (by omega) hbt v i hj2 (idx c) 0 (by omega)
    exact hl1.of fun k => l0_more k T (ints U) b many T.size i (by omega)
end Go.Proofs.YtbjhmmiijebehaaDoor.Own

namespace Go.Proofs.YtbjhmmiijebehaaDoor.Own
open Go.RowKit Go.Lib
set_option linter.unusedVariables false
set_option linter.unusedSimpArgs false

theorem runL_none : ∀ (l : List UInt8) (st : List Nat × Nat × Nat), (∃ c ∈ l, ¬ good c) → runL st l = none
  | [], st, h => by obtain ⟨c, hc, _⟩ := h; simp at hc
  | c :: t, st, h => by
    by_cases hg : good c
    · rw [runL_good st c t hg]
      refine runL_none t _ ?_
      obtain ⟨x, hx, hb⟩ := h
      rcases List.mem_cons.1 hx with rfl | hx
      · exact absurd hg hb
      · exact ⟨x, hx, hb⟩
    · exact runL_bad st c t hg
def mn (c : UInt8) : Nat := (dm c).toNat
def ub (u : Nat) : List UInt8 := [UInt8.ofNat (u / 256), UInt8.ofNat u]
def q4 (a b c d : Nat) : Nat := a * 262144 + b * 4096 + c * 64 + d
theorem stp0 (U : List Nat) (a : Nat) (ha : a < 64) : stp (U, 0, 0) a = (U, a, 6) := by
  unfold stp; simp; omega
theorem stp6 (U : List Nat) (b a : Nat) (ha : a < 64) (hb : b < 64) : stp (U, b, 6) a = (U, b * 64 + a, 12) := by
  unfold stp; simp; omega
theorem stp12 (U : List Nat) (b a : Nat) (ha : a < 64) (hb : b < 4096) : stp (U, b, 12) a = (U ++ [(b * 64 + a) / 4], (b * 64 + a) % 4, 2) := by
  unfold stp; simp; omega
theorem stp2 (U : List Nat) (b a : Nat) (ha : a < 64) (hb : b < 4) : stp (U, b, 2) a = (U, b * 64 + a, 8) := by
  unfold stp; simp; omega
theorem stp8 (U : List Nat) (b a : Nat) (ha : a < 64) (hb : b < 256) : stp (U, b, 8) a = (U, b * 64 + a, 14) := by
  unfold stp; simp; omega
theorem stp14 (U : List Nat) (b a : Nat) (ha : a < 64) (hb : b < 16384) : stp (U, b, 14) a = (U ++ [(b * 64 + a) / 16], (b * 64 + a) % 16, 4) := by
  unfold stp; simp; omega
theorem stp4 (U : List Nat) (b a : Nat) (ha : a < 64) (hb : b < 16) : stp (U, b, 4) a = (U, b * 64 + a, 10) := by
  unfold stp; simp; omega
theorem stp10 (U : List Nat) (b a : Nat) (ha : a < 64) (hb : b < 1024) : stp (U, b, 10) a = (U ++ [b * 64 + a], 0, 0) := by
  unfold stp; simp; omega
theorem run3 (U : List Nat) (a b c : UInt8) (t : List UInt8) (ha : good a) (hb : good b) (hc : good c) :
    runL (U, 0, 0) (a :: b :: c :: t) = runL (U ++ [((mn a * 64 + mn b) * 64 + mn c) / 4], ((mn a * 64 + mn b) * 64 + mn c) % 4, 2) t := by
  have ha' : mn a < 64 := ha
  have hb' : mn b < 64 := hb
  have hc' : mn c < 64 := hc
  rw [runL_good _ a _ ha, runL_good _ b _ hb, runL_good _ c _ hc]
  show runL (stp (stp (stp (U, 0, 0) (mn a)) (mn b)) (mn c)) t = _
  rw [stp0 U _ ha', stp6 U _ _ hb' ha', stp12 U _ _ hc' (by omega)]
theorem run6 (U : List Nat) (r : Nat) (hr : r < 4) (a b c : UInt8) (t : List UInt8) (ha : good a) (hb : good b) (hc : good c) :
    runL (U, r, 2) (a :: b :: c :: t) = runL (U ++ [(((r * 64 + mn a) * 64 + mn b) * 64 + mn c) / 16], (((r * 64 + mn a) * 64 + mn b) * 64 + mn c) % 16, 4) t := by
  have ha' : mn a < 64 := ha
  have hb' : mn b < 64 := hb
  have hc' : mn c < 64 := hc
  rw [runL_good _ a _ ha, runL_good _ b _ hb, runL_good _ c _ hc]
  show runL (stp (stp (stp (U, r, 2) (mn a)) (mn b)) (mn c)) t = _
  rw [stp2 U _ _ ha' hr, stp8 U _ _ hb' (by omega), stp14 U _ _ hc' (by omega)]
theorem run8 (U : List Nat) (r : Nat) (hr : r < 16) (a b : UInt8) (t : List UInt8) (ha : good a) (hb : good b) :
    runL (U, r, 4) (a :: b :: t) = runL (U ++ [(r * 64 + mn a) * 64 + mn b], 0, 0) t := by
  have ha' : mn a < 64 := ha
  have hb' : mn b < 64 := hb
  rw [runL_good _ a _ ha, runL_good _ b _ hb]
  show runL (stp (stp (U, r, 4) (mn a)) (mn b)) t = _
  rw [stp4 U _ _ ha' hr, stp10 U _ _ hb' (by omega)]
/-- Units and bytes agree, or neither side takes the letters. -/
def Rel (U : List Nat) (T : List UInt8) : Prop :=
  (∃ us b' m', runL (U, 0, 0) T = some (U ++ us, b', m') ∧ m' < 6 ∧ dec64 (padT T) = some (us.flatMap ub) ∧ (T ≠ [] → us ≠ []) ∧ ∀ u ∈ us, u < 65536) ∨
  ((runL (U, 0, 0) T = none ∨ ∃ st, runL (U, 0, 0) T = some st ∧ 6 ≤ st.2.2) ∧ (dec64 (padT T) = none ∨ ∃ bs, dec64 (padT T) = some bs ∧ bs.length % 2 = 1))
theorem bytes_eq (a b c d : UInt8) : qb0 (q3 a b c d) = UInt8.ofNat (q4 (mn a) (mn b) (mn c) (mn d) / 65536) := rfl
theorem u8_congr (a b : Nat) (h : a % 256 = b % 256) : UInt8.ofNat a = UInt8.ofNat b := by
  apply UInt8.toNat.inj
  rw [UInt8.toNat_ofNat', UInt8.toNat_ofNat']
  exact h
theorem padT_8 (a b c d e f g h : UInt8) (t : List UInt8) : padT (a :: b :: c :: d :: e :: f :: g :: h :: t) = a :: b :: c :: d :: e :: f :: g :: h :: padT t := by
  have h4 : (a :: b :: c :: d :: e :: f :: g :: h :: t).length % 4 = t.length % 4 := by simp only [List.length_cons]; omega
  unfold padT
  simp only [h4, List.cons_append]
theorem qd_bad_mid (a b c d : UInt8) (t : List UInt8) (ht : t ≠ []) (h : ¬ (good a ∧ good b ∧ good c ∧ good d)) : qd (a :: b :: c :: d :: t) = none := by
  unfold qd
  simp [h, ht]
theorem qd_bad_last (a b c d : UInt8) (hd : d ≠ 61) (h : ¬ (good a ∧ good b ∧ good c ∧ good d)) : qd [a, b, c, d] = none := by
  unfold qd
  simp [h, hd]
theorem mul_bytes (q : Nat) (u v w : Nat) (h1 : u % 256 = q / 65536 % 256) (h2 : v % 256 = q / 256 % 256) (h3 : w % 256 = q % 256) : [qb0 q, qb1 q, qb2 q] = [UInt8.ofNat u, UInt8.ofNat v, UInt8.ofNat w] := by
  unfold qb0 qb1 qb2
  rw [u8_congr u (q / 65536) h1, u8_congr v (q / 256) h2, u8_congr w q h3]
theorem eight (A B C D E F G H S1 S2 S3 : Nat) (la : A < 64) (lb : B < 64) (lc : C < 64) (ld : D < 64) (le : E < 64) (lf : F < 64) (lg : G < 64) (lh : H < 64)
    (h1 : S1 = (A * 64 + B) * 64 + C) (h2 : S2 = ((S1 % 4 * 64 + D) * 64 + E) * 64 + F) (h3 : S3 = (S2 % 16 * 64 + G) * 64 + H) :
    ub (S1 / 4) ++ ub (S2 / 16) ++ ub S3 = [qb0 (q4 A B C D), qb1 (q4 A B C D), qb2 (q4 A B C D)] ++ [qb0 (q4 E F G H), qb1 (q4 E F G H), qb2 (q4 E F G H)] := by
  unfold q4
  rw [mul_bytes (A * 262144 + B * 4096 + C * 64 + D) (S1 / 4 / 256) (S1 / 4) (S2 / 16 / 256) (by omega) (by omega) (by omega), mul_bytes (E * 262144 + F * 4096 + G * 64 + H) (S2 / 16) (S3 / 256) S3 (by omega) (by omega) (by omega)]
  rfl
theorem rel_step (U : List Nat) (a b c d e f g h : UInt8) (t : List UInt8) (hl : t = [] → h ≠ 61)
    (ih : ∀ U', Rel U' t) : Rel U (a :: b :: c :: d :: e :: f :: g :: h :: t) := by
  by_cases h1 : good a ∧ good b ∧ good c ∧ good d
  · by_cases h2 : good e ∧ good f ∧ good g ∧ good h
    · obtain ⟨ga, gb, gc, gd⟩ := h1
      obtain ⟨ge, gf, gg, gh⟩ := h2
      have la : mn a < 64 := ga
      have lb : mn b < 64 := gb
      have lc : mn c < 64 := gc
      have ld : mn d < 64 := gd
      have le : mn e < 64 := ge
      have lf : mn f < 64 := gf
      have lg : mn g < 64 := gg
      have lh : mn h < 64 := gh
      have hrun : runL (U, 0, 0) (a :: b :: c :: d :: e :: f :: g :: h :: t) = runL (U ++ [((mn a * 64 + mn b) * 64 + mn c) / 4] ++ [(((((mn a * 64 + mn b) * 64 + mn c) % 4 * 64 + mn d) * 64 + mn e) * 64 + mn f) / 16] ++ [((((((mn a * 64 + mn b) * 64 + mn c) % 4 * 64 + mn d) * 64 + mn e) * 64 + mn f) % 16 * 64 + mn g) * 64 + mn h], 0, 0) t := by
        rw [run3 U a b c _ ga gb gc, run6 _ _ (Nat.mod_lt _ (by decide)) d e f _ gd ge gf, run8 _ _ (Nat.mod_lt _ (by decide)) g h t gg gh]
      have hdec : dec64 (padT (a :: b :: c :: d :: e :: f :: g :: h :: t)) = (dec64 (padT t)).map fun x => ub (((mn a * 64 + mn b) * 64 + mn c) / 4) ++ ub ((((((mn a * 64 + mn b) * 64 + mn c) % 4 * 64 + mn d) * 64 + mn e) * 64 + mn f) / 16) ++ ub (((((((mn a * 64 + mn b) * 64 + mn c) % 4 * 64 + mn d) * 64 + mn e) * 64 + mn f) % 16 * 64 + mn g) * 64 + mn h) ++ x := by
        rw [padT_8, dec64_some a b c d _ _ (qd_4 a b c d _ ga gb gc gd), dec64_some e f g h _ _ (qd_4 e f g h _ ge gf gg gh)]
        have hA : ub (((mn a * 64 + mn b) * 64 + mn c) / 4) ++ ub ((((((mn a * 64 + mn b) * 64 + mn c) % 4 * 64 + mn d) * 64 + mn e) * 64 + mn f) / 16) ++ ub (((((((mn a * 64 + mn b) * 64 + mn c) % 4 * 64 + mn d) * 64 + mn e) * 64 + mn f) % 16 * 64 + mn g) * 64 + mn h) = [qb0 (q3 a b c d), qb1 (q3 a b c d), qb2 (q3 a b c d)] ++ [qb0 (q3 e f g h), qb1 (q3 e f g h), qb2 (q3 e f g h)] := by
          exact eight (mn a) (mn b) (mn c) (mn d) (mn e) (mn f) (mn g) (mn h) _ _ _ la lb lc ld le lf lg lh rfl rfl rfl
        rw [hA]
        cases dec64 (padT t) <;> simp
      have hlt : ((mn a * 64 + mn b) * 64 + mn c) / 4 < 65536 ∧ (((((mn a * 64 + mn b) * 64 + mn c) % 4 * 64 + mn d) * 64 + mn e) * 64 + mn f) / 16 < 65536 ∧ ((((((mn a * 64 + mn b) * 64 + mn c) % 4 * 64 + mn d) * 64 + mn e) * 64 + mn f) % 16 * 64 + mn g) * 64 + mn h < 65536 := by omega
      generalize ((mn a * 64 + mn b) * 64 + mn c) / 4 = x1 at hrun hdec hlt
      generalize (((((mn a * 64 + mn b) * 64 + mn c) % 4 * 64 + mn d) * 64 + mn e) * 64 + mn f) / 16 = x2 at hrun hdec hlt
      generalize ((((((mn a * 64 + mn b) * 64 + mn c) % 4 * 64 + mn d) * 64 + mn e) * 64 + mn f) % 16 * 64 + mn g) * 64 + mn h = x3 at hrun hdec hlt
      unfold Rel
      rw [hrun, hdec]
      rcases ih (U ++ [x1] ++ [x2] ++ [x3]) with ⟨us, b', m', r1, r2, r3, r4, r5⟩ | ⟨r1, r2⟩
      · refine .inl ⟨[x1, x2, x3] ++ us, b', m', by rw [r1]; simp, r2, by rw [r3]; simp, by simp, ?_⟩
        intro u hu
        simp only [List.cons_append, List.nil_append, List.mem_cons] at hu
        rcases hu with rfl | rfl | rfl | hu
        · exact hlt.1
        · exact hlt.2.1
        · exact hlt.2.2
        · exact r5 u hu
      · refine .inr ⟨r1, ?_⟩
        rcases r2 with r2 | ⟨bs, r2, r3⟩
        · exact .inl (by rw [r2]; rfl)
        · exact .inr ⟨_, by rw [r2]; rfl, by simp [ub]; omega⟩
    · refine .inr ⟨.inl (runL_none _ _ ?_), .inl ?_⟩
      · by_cases g1 : good e
        · by_cases g2 : good f
          · by_cases g3 : good g
            · exact ⟨h, by simp, fun g4 => h2 ⟨g1, g2, g3, g4⟩⟩
            · exact ⟨g, by simp, g3⟩
          · exact ⟨f, by simp, g2⟩
        · exact ⟨e, by simp, g1⟩
      · rw [padT_8, dec64_some a b c d _ _ (qd_4 a b c d _ h1.1 h1.2.1 h1.2.2.1 h1.2.2.2)]
        have hq : qd (e :: f :: g :: h :: padT t) = none := by
          by_cases ht : t = []
          · have hp : padT t = [] := by rw [ht]; rfl
            rw [hp]
            exact qd_bad_last e f g h (hl ht) h2
          · exact qd_bad_mid e f g h _ (by unfold padT; simp [ht]) h2
        rw [dec64_none e f g h _ hq]; rfl
  · refine .inr ⟨.inl (runL_none _ _ ?_), .inl ?_⟩
    · by_cases g1 : good a
      · by_cases g2 : good b
        · by_cases g3 : good c
          · exact ⟨d, by simp, fun g4 => h1 ⟨g1, g2, g3, g4⟩⟩
          · exact ⟨c, by simp, g3⟩
        · exact ⟨b, by simp, g2⟩
      · exact ⟨a, by simp, g1⟩
    · rw [padT_8, dec64_none a b c d _ (qd_bad_mid a b c d _ (by simp) h1)]
end Go.Proofs.YtbjhmmiijebehaaDoor.Own

namespace Go.Proofs.YtbjhmmiijebehaaDoor.Own
open Go.RowKit Go.Lib
set_option linter.unusedVariables false
set_option linter.unusedSimpArgs false

theorem bad_of (l : List UInt8) (h : ¬ ∀ c ∈ l, good c) : ∃ c ∈ l, ¬ good c := by
  by_cases he : ∃ c ∈ l, ¬ good c
  · exact he
  · exact absurd (fun c hc => Decidable.not_not.1 fun hn => he ⟨c, hc, hn⟩) h
theorem rel0 (U : List Nat) : Rel U [] := .inl ⟨[], 0, 0, by simp [runL_nil], by omega, rfl, by simp, by simp⟩
theorem dec64_4 (a b c d : UInt8) : dec64 [a, b, c, d] = qd [a, b, c, d] := by
  rcases hq : qd [a, b, c, d] with _ | bs
  · exact dec64_none a b c d [] hq
  · rw [dec64_some a b c d [] bs hq]
    simp [dec64]
theorem rel1 (U : List Nat) (a : UInt8) : Rel U [a] := by
  refine .inr ⟨?_, .inl ?_⟩
  · by_cases ha : good a
    · have la : (dm a).toNat < 64 := ha
      exact .inr ⟨_, by rw [runL_good _ a _ ha, runL_nil], by rw [stp0 U _ la]; simp⟩
    · exact .inl (runL_none _ _ ⟨a, by simp, ha⟩)
  · show dec64 [a, 61, 61, 0] = none
    rw [dec64_4]
    unfold qd
    simp [good_61]
theorem rel2 (U : List Nat) (a b : UInt8) : Rel U [a, b] := by
  have hp : padT [a, b] = [a, b, 61, 61] := rfl
  by_cases h : good a ∧ good b
  · have la : (dm a).toNat < 64 := h.1
    have lb : (dm b).toNat < 64 := h.2
    refine .inr ⟨.inr ⟨_, by rw [runL_good _ a _ h.1, runL_good _ b _ h.2, runL_nil], by rw [stp0 U _ la, stp6 U _ _ lb la]; simp⟩, .inr ⟨_, by rw [hp, dec64_4, qd_2 a b 61 [] h.1 h.2, if_pos ⟨rfl, rfl⟩], by simp⟩⟩
  · refine .inr ⟨.inl (runL_none _ _ ?_), .inl ?_⟩
    · by_cases ha : good a
      · exact ⟨b, by simp, fun hb => h ⟨ha, hb⟩⟩
      · exact ⟨a, by simp, ha⟩
    · rw [hp, dec64_4]
      unfold qd
      simp [good_61]
      intro ha hb
      exact h ⟨ha, hb⟩
theorem three (A B C S : Nat) (la : A < 64) (lb : B < 64) (lc : C < 64) (h1 : S = (A * 64 + B) * 64 + C) : ub (S / 4) = [qb0 (A * 262144 + B * 4096 + C * 64), qb1 (A * 262144 + B * 4096 + C * 64)] := by
  unfold ub qb0 qb1
  rw [u8_congr (S / 4 / 256) ((A * 262144 + B * 4096 + C * 64) / 65536) (by omega), u8_congr (S / 4) ((A * 262144 + B * 4096 + C * 64) / 256) (by omega)]
theorem rel3 (U : List Nat) (a b c : UInt8) (hl : c ≠ 61) : Rel U [a, b, c] := by
  have hp : padT [a, b, c] = [a, b, c, 61] := rfl
  by_cases h : good a ∧ good b ∧ good c
  · have la : mn a < 64 := h.1
    have lb : mn b < 64 := h.2.1
    have lc : mn c < 64 := h.2.2
    refine .inl ⟨[((mn a * 64 + mn b) * 64 + mn c) / 4], _, 2, by rw [run3 U a b c [] h.1 h.2.1 h.2.2, runL_nil], by omega, ?_, by simp, by intro u hu; simp at hu; omega⟩
    rw [hp, dec64_4, qd_3 a b c [] h.1 h.2.1 h.2.2, if_pos rfl]
    have := three (mn a) (mn b) (mn c) _ la lb lc rfl
    simp only [List.flatMap_cons, List.flatMap_nil, List.append_nil]
    rw [this]
    rfl
  · refine .inr ⟨.inl (runL_none _ _ ?_), .inl ?_⟩
    · by_cases ha : good a
      · by_cases hb : good b
        · exact ⟨c, by simp, fun hc => h ⟨ha, hb, hc⟩⟩
        · exact ⟨b, by simp, hb⟩
      · exact ⟨a, by simp, ha⟩
    · rw [hp, dec64_4]
      unfold qd
      have h' : good a → good b → ¬ good c := fun x y z => h ⟨x, y, z⟩
      simp [good_61, hl]
      exact h'
theorem first4_bad (U : List Nat) (a b c d : UInt8) (t : List UInt8) (ht : t ≠ []) (hp : padT (a :: b :: c :: d :: t) = a :: b :: c :: d :: padT t) (h : ¬ (good a ∧ good b ∧ good c ∧ good d)) : Rel U (a :: b :: c :: d :: t) := by
  refine .inr ⟨.inl (runL_none _ _ ?_), .inl ?_⟩
  · by_cases g1 : good a
    · by_cases g2 : good b
      · by_cases g3 : good c
        · exact ⟨d, by simp, fun g4 => h ⟨g1, g2, g3, g4⟩⟩
        · exact ⟨c, by simp, g3⟩
      · exact ⟨b, by simp, g2⟩
    · exact ⟨a, by simp, g1⟩
  · rw [hp]
    exact dec64_none a b c d _ (qd_bad_mid a b c d _ (by unfold padT; simp [ht]) h)
theorem rel4 (U : List Nat) (a b c d : UInt8) (hl : d ≠ 61) : Rel U [a, b, c, d] := by
  have hp : padT [a, b, c, d] = [a, b, c, d] := by simp [padT]
  by_cases h : good a ∧ good b ∧ good c ∧ good d
  · have ld : (dm d).toNat < 64 := h.2.2.2
    refine .inr ⟨.inr ⟨_, by rw [run3 U a b c [d] h.1 h.2.1 h.2.2.1, runL_good _ d _ h.2.2.2, runL_nil], by rw [stp2 _ _ _ ld (Nat.mod_lt _ (by decide))]; simp⟩, .inr ⟨_, by rw [hp, dec64_4, qd_4 a b c d [] h.1 h.2.1 h.2.2.1 h.2.2.2], by simp⟩⟩
  · refine .inr ⟨.inl (runL_none _ _ ?_), .inl (by rw [hp, dec64_4]; exact qd_bad_last a b c d hl h)⟩
    by_cases g1 : good a
    · by_cases g2 : good b
      · by_cases g3 : good c
        · exact ⟨d, by simp, fun g4 => h ⟨g1, g2, g3, g4⟩⟩
        · exact ⟨c, by simp, g3⟩
      · exact ⟨b, by simp, g2⟩
    · exact ⟨a, by simp, g1⟩
theorem rel5 (U : List Nat) (a b c d e : UInt8) : Rel U [a, b, c, d, e] := by
  have hp : padT [a, b, c, d, e] = a :: b :: c :: d :: padT [e] := by simp [padT]
  by_cases h : good a ∧ good b ∧ good c ∧ good d
  · refine .inr ⟨?_, .inl ?_⟩
    · by_cases he : good e
      · have ld : (dm d).toNat < 64 := h.2.2.2
        have le : (dm e).toNat < 64 := he
        have hb : ((mn a * 64 + mn b) * 64 + mn c) % 4 < 4 := Nat.mod_lt _ (by decide)
        exact .inr ⟨_, by rw [run3 U a b c [d, e] h.1 h.2.1 h.2.2.1, runL_good _ d _ h.2.2.2, runL_good _ e _ he, runL_nil], by rw [stp2 _ _ _ ld hb, stp8 _ _ _ le (by omega)]; simp⟩
      · exact .inl (runL_none _ _ ⟨e, by simp, he⟩)
    · rw [hp, dec64_some a b c d _ _ (qd_4 a b c d _ h.1 h.2.1 h.2.2.1 h.2.2.2)]
      have : dec64 (padT [e]) = none := by
        show dec64 [e, 61, 61, 0] = none
        rw [dec64_4]; unfold qd; simp [good_61]
      rw [this]; rfl
  · exact first4_bad U a b c d [e] (by simp) hp h
theorem six (A B C D E F S1 S2 : Nat) (la : A < 64) (lb : B < 64) (lc : C < 64) (ld : D < 64) (le : E < 64) (lf : F < 64)
    (h1 : S1 = (A * 64 + B) * 64 + C) (h2 : S2 = ((S1 % 4 * 64 + D) * 64 + E) * 64 + F) :
    ub (S1 / 4) ++ ub (S2 / 16) = [qb0 (q4 A B C D), qb1 (q4 A B C D), qb2 (q4 A B C D)] ++ [qb0 (E * 262144 + F * 4096)] := by
  unfold q4
  rw [mul_bytes (A * 262144 + B * 4096 + C * 64 + D) (S1 / 4 / 256) (S1 / 4) (S2 / 16 / 256) (by omega) (by omega) (by omega)]
  unfold qb0
  rw [u8_congr ((E * 262144 + F * 4096) / 65536) (S2 / 16) (by omega)]
  rfl
theorem rel6 (U : List Nat) (a b c d e f : UInt8) : Rel U [a, b, c, d, e, f] := by
  have hp : padT [a, b, c, d, e, f] = a :: b :: c :: d :: padT [e, f] := by simp [padT]
  by_cases h : good a ∧ good b ∧ good c ∧ good d
  · by_cases h2 : good e ∧ good f
    · have la : mn a < 64 := h.1
      have lb : mn b < 64 := h.2.1
      have lc : mn c < 64 := h.2.2.1
      have ld : mn d < 64 := h.2.2.2
      have le : mn e < 64 := h2.1
      have lf : mn f < 64 := h2.2
      refine .inl ⟨[((mn a * 64 + mn b) * 64 + mn c) / 4, (((((mn a * 64 + mn b) * 64 + mn c) % 4 * 64 + mn d) * 64 + mn e) * 64 + mn f) / 16], _, 4, by rw [run3 U a b c _ h.1 h.2.1 h.2.2.1, run6 _ _ (Nat.mod_lt _ (by decide)) d e f [] h.2.2.2 h2.1 h2.2, runL_nil, List.append_assoc]; rfl, by omega, ?_, by simp, by intro u hu; simp at hu; omega⟩
      have hs := six (mn a) (mn b) (mn c) (mn d) (mn e) (mn f) _ _ la lb lc ld le lf rfl rfl
      rw [hp, dec64_some a b c d _ _ (qd_4 a b c d _ h.1 h.2.1 h.2.2.1 h.2.2.2)]
      have h3 : dec64 (padT [e, f]) = some [qb0 (mn e * 262144 + mn f * 4096)] := by
        show dec64 [e, f, 61, 61] = _
        rw [dec64_4, qd_2 e f 61 [] h2.1 h2.2, if_pos ⟨rfl, rfl⟩]; rfl
      rw [h3]
      simp only [List.flatMap_cons, List.flatMap_nil, List.append_nil]
      rw [hs]
      rfl
    · refine .inr ⟨.inl (runL_none _ _ ?_), .inl ?_⟩
      · by_cases g1 : good e
        · exact ⟨f, by simp, fun g2 => h2 ⟨g1, g2⟩⟩
        · exact ⟨e, by simp, g1⟩
      · rw [hp, dec64_some a b c d _ _ (qd_4 a b c d _ h.1 h.2.1 h.2.2.1 h.2.2.2)]
        have h3 : dec64 (padT [e, f]) = none := by
          show dec64 [e, f, 61, 61] = none
          have h' : good e → ¬ good f := fun x y => h2 ⟨x, y⟩
          rw [dec64_4]; unfold qd; simp [good_61]; exact h'
        rw [h3]; rfl
  · exact first4_bad U a b c d [e, f] (by simp) hp h
theorem rel7 (U : List Nat) (a b c d e f g : UInt8) (hl : g ≠ 61) : Rel U [a, b, c, d, e, f, g] := by
  have hp : padT [a, b, c, d, e, f, g] = a :: b :: c :: d :: padT [e, f, g] := by simp [padT]
  by_cases h : good a ∧ good b ∧ good c ∧ good d
  · by_cases h2 : good e ∧ good f ∧ good g
    · have lg : (dm g).toNat < 64 := h2.2.2
      refine .inr ⟨.inr ⟨_, by rw [run3 U a b c _ h.1 h.2.1 h.2.2.1, run6 _ _ (Nat.mod_lt _ (by decide)) d e f [g] h.2.2.2 h2.1 h2.2.1, runL_good _ g _ h2.2.2, runL_nil], by rw [stp4 _ _ _ lg (Nat.mod_lt _ (by decide))]; simp⟩, .inr ?_⟩
      rw [hp, dec64_some a b c d _ _ (qd_4 a b c d _ h.1 h.2.1 h.2.2.1 h.2.2.2)]
      have h3 : dec64 (padT [e, f, g]) = some [qb0 ((dm e).toNat * 262144 + (dm f).toNat * 4096 + (dm g).toNat * 64), qb1 ((dm e).toNat * 262144 + (dm f).toNat * 4096 + (dm g).toNat * 64)] := by
        show dec64 [e, f, g, 61] = _
        rw [dec64_4, qd_3 e f g [] h2.1 h2.2.1 h2.2.2, if_pos rfl]
      rw [h3]
      exact ⟨_, rfl, by simp⟩
    · refine .inr ⟨.inl (runL_none _ _ ?_), .inl ?_⟩
      · by_cases g1 : good e
        · by_cases g2 : good f
          · exact ⟨g, by simp, fun g3 => h2 ⟨g1, g2, g3⟩⟩
          · exact ⟨f, by simp, g2⟩
        · exact ⟨e, by simp, g1⟩
      · rw [hp, dec64_some a b c d _ _ (qd_4 a b c d _ h.1 h.2.1 h.2.2.1 h.2.2.2)]
        have h3 : dec64 (padT [e, f, g]) = none := by
          show dec64 [e, f, g, 61] = none
          have h' : good e → good f → ¬ good g := fun x y z => h2 ⟨x, y, z⟩
          rw [dec64_4]; unfold qd; simp [good_61, hl]; exact h'
        rw [h3]; rfl
  · exact first4_bad U a b c d [e, f, g] (by simp) hp h
theorem rel_all : ∀ (n : Nat) (T : List UInt8), T.length ≤ n → T.getLast? ≠ some 61 → ∀ U, Rel U T := by
  intro n
  induction n with
  | zero =>
    intro T hT hl U
    have : T = [] := List.eq_nil_of_length_eq_zero (by omega)
    subst this
    exact rel0 U
  | succ n ih =>
    intro T hT hl U
    match T, hT, hl with
    | [], _, _ => exact rel0 U
    | [a], _, _ => exact rel1 U a
    | [a, b], _, _ => exact rel2 U a b
    | [a, b, c], _, hl => exact rel3 U a b c (by simpa using hl)
    | [a, b, c, d], _, hl => exact rel4 U a b c d (by simpa using hl)
    | [a, b, c, d, e], _, _ => exact rel5 U a b c d e
    | [a, b, c, d, e, f], _, _ => exact rel6 U a b c d e f
    | [a, b, c, d, e, f, g], _, hl => exact rel7 U a b c d e f g (by simpa using hl)
    | a :: b :: c :: d :: e :: f :: g :: h :: t, hT, hl =>
      refine rel_step U a b c d e f g h t ?_ (ih t (by simp at hT; omega) ?_)
      · intro ht; subst ht; simpa using hl
      · intro h0
        apply hl
        cases t with
        | nil => simp at h0
        | cons x y => simpa [List.getLast?_cons_cons] using h0
end Go.Proofs.YtbjhmmiijebehaaDoor.Own
