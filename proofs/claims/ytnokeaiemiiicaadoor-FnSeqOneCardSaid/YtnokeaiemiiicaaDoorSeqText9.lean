/- spec.SeqText9 by hand: how a range is written, plainly. -/
import Derived.Test.YtnokeaiemiiicaaDoorNumber9
import Derived.Test.YtnokeaiemiiicaaDoorSeqStr
import Derived.Deep.QuietTactic
import Derived.BigQuiet
import Derived.Deep.DeepCutAuto
namespace Go.Proofs.YtnokeaiemiiicaaDoor.Own
open Go.RowKit Go.Lib
set_option linter.unusedVariables false
set_option linter.unusedSimpArgs false

def oneL (a : Nat) : List UInt8 := if a = 0 then [42] else Lib.decDigits a
theorem one_any (a : Nat) (ha : a < 4294967296) (w : World) :
    Calls Tryd.prog 36 #[.int .u32 a] w fun e w' => e = .returned (.string ⟨(oneL a).toArray⟩) ∧ Below w.heap.size w w' := by
  unfold oneL
  by_cases h0 : a = 0
  · subst h0
    rw [if_pos rfl]
    go_enter Tryd.func36, Tryd.ntmps36
    go_wp2
    go_ret
    exact ⟨rfl, Below.refl _ _⟩
  · rw [if_neg h0]
    have h0' : ((a : Int) == 0) = false := by rw [beq_eq_false_iff_ne]; omega
    have hw : IntKind.i64.wrap (a : Int) = (a : Int) := by rw [IntKind.wrap_i64]; omega
    have hc := Lib.hid (number9_any a ha w)
    have h1 := Lib.hid h0
    clear h0
    go_enter Tryd.func36, Tryd.ntmps36
    go_wp2_with (go_at_call 37; refine hc.out.mono ?_; rintro e w1 ⟨rfl, hb⟩)
    go_ret
    exact ⟨rfl, hb⟩
theorem extB {w1 X w2 : World} (h : Below w1.heap.size w1 X) (k : Below X.heap.size X w2) : Hid (Below w1.heap.size w1 w2) := Lib.hid (h.trans (k.mono h.size))
theorem str_two (l m : List UInt8) : Value.string ((⟨l.toArray⟩ : ByteArray) ++ (⟨#[58]⟩ : ByteArray) ++ (⟨m.toArray⟩ : ByteArray)) = Value.string ⟨(l ++ 58 :: m).toArray⟩ := by
  congr 1
  apply ba_ext
  rw [app_list, app_list]
  simp
theorem one_len (a : Nat) (ha : a < 4294967296) : (⟨(oneL a).toArray⟩ : ByteArray).size ≤ 20 := by
  rw [size_mk]
  unfold oneL
  split
  · decide
  · rw [Lib.decDigits_length]
    by_cases h1 : 1 ≤ a
    · have := Lib.numDigits_eq a h1 (by omega); split at this <;> omega
    · rw [Lib.nDigits_small (by omega)]; omega
def text9L (a b : Nat) : List UInt8 := if a = b then oneL a else oneL a ++ (58 :: oneL b)

set_option maxRecDepth 100000 in
set_option maxHeartbeats 2000000 in
theorem seqText9_any (a b : Nat) (ha : a < 4294967296) (hb : b < 4294967296) (w : World) :
    Calls Tryd.prog 16 #[.agg #[.int .u32 a, .int .u32 b]] w fun e w' => e = .returned (.string ⟨(text9L a b).toArray⟩) ∧ Below w.heap.size w w' := by
  by_cases hab : a = b
  · subst hab
    have ht : text9L a a = oneL a := by unfold text9L; rw [if_pos rfl]
    rw [ht]
    have hc := Lib.hid (fun W => one_any a ha W)
    clear ht
    go_enter Tryd.func16, Tryd.ntmps16
    go_wp2_with (go_at_call 36; refine (hc.out _).mono ?_; rintro e w1 ⟨rfl, hb1⟩)
    go_ret
    exact ⟨rfl, ((Below.refl _ _).alloc (Nat.le_refl _) _).trans (hb1.mono (by simp))⟩
  · have hab' : ((a : Int) == (b : Int)) = false := by rw [beq_eq_false_iff_ne]; omega
    have ht := Lib.hid (show text9L a b = oneL a ++ (58 :: oneL b) by unfold text9L; rw [if_neg hab])
    clear hab
    go_enter Tryd.func16, Tryd.ntmps16
    go_upto_region 4 with (fail)
    obtain ⟨w1, hw1⟩ : ∃ w1 : World, w1 = w.alloc (.cells #[.int .u32 a, .int .u32 b] 24) := ⟨_, rfl⟩
    have hca : ∀ W, Below w1.heap.size w1 W → W.cell? ⟨w.heap.size, 0, none⟩ = some (.int .u32 a) := fun W hW => (hW.cell (by rw [hw1]; simp)).trans (by rw [hw1]; simp [go_sem])
    have hcb : ∀ W, Below w1.heap.size w1 W → W.cell? ⟨w.heap.size, 1, none⟩ = some (.int .u32 b) := fun W hW => (hW.cell (by rw [hw1]; simp)).trans (by rw [hw1]; simp [go_sem])
    have hb1 := Lib.hid (show Below w.heap.size w w1 by rw [hw1]; exact (Below.refl _ _).alloc (Nat.le_refl _) _)
    rw [← hw1]
    clear hw1
    have ka := Lib.hid (fun W => one_any a ha W)
    have kb := Lib.hid (fun W => one_any b hb W)
    obtain ⟨SA, hSA⟩ : ∃ S : ByteArray, S = ⟨(oneL a).toArray⟩ := ⟨_, rfl⟩
    obtain ⟨SB, hSB⟩ : ∃ S : ByteArray, S = ⟨(oneL b).toArray⟩ := ⟨_, rfl⟩
    have sa : SA.size ≤ 20 := by rw [hSA]; exact one_len a ha
    have sb : SB.size ≤ 20 := by rw [hSB]; exact one_len b hb
    rw [← hSA] at ka
    rw [← hSB] at kb
    have hSA' := Lib.hid hSA
    have hSB' := Lib.hid hSB
    clear hSA hSB
    have c1 := hca w1 (Below.refl _ _)
    have c2 := hcb w1 (Below.refl _ _)
    have hcb' := Lib.hid hcb
    have hca' := Lib.hid hca
    clear hca hcb
    have hB0 := Lib.hid (Below.refl w1.heap.size w1)
    have hsz := hb1.out.size
    go_region_with ((go_at_call 36; first | (refine (ka.out _).mono ?_; rintro e w2 ⟨rfl, hb2⟩; have hBn := extB (by first | exact hBn.out.drew | exact hBn.out | exact hBn.out.drew.drew | exact hB0.out.drew | exact hB0.out | exact hB0.out.drew.drew) hb2; have d1 := hca'.out w2 hBn.out; have d2 := hcb'.out w2 hBn.out; clear hb2) | (refine (kb.out _).mono ?_; rintro e w2 ⟨rfl, hb2⟩; have hBn := extB (by first | exact hBn.out.drew | exact hBn.out | exact hBn.out.drew.drew | exact hB0.out.drew | exact hB0.out | exact hB0.out.drew.drew) hb2; have d1 := hca'.out w2 hBn.out; have d2 := hcb'.out w2 hBn.out; clear hb2)))
    all_goals
      go_wp2
      go_ret
      refine ⟨?_, hb1.out.trans (hBn.out.mono hsz)⟩
      rw [ht.out]
      rw [← str_two (oneL a) (oneL b), ← hSA'.out, ← hSB'.out]
      rfl
end Go.Proofs.YtnokeaiemiiicaaDoor.Own
