/- spec.Flag9 by hand; and the callees of FnCanonical in the print's form. -/
import Derived.Test.YtnokeaiemiiicaaDoorCanon
import Derived.Test.YtnokeaiemiiicaaDoorUpper9
import Derived.Deep.DeepCutAuto
namespace Go.Proofs.YtnokeaiemiiicaaDoor.Own
open Go.RowKit Go.Lib Go.Proofs.YtnokeaiemiiicaaDoorW.PrintWords Go.Proofs.YtnokeaiemiiicaaDoorW.PrintLast Go.Proofs.YtnokeaiemiiicaaDoorW.PrintMore
set_option linter.unusedVariables false
set_option linter.unusedSimpArgs false

theorem knownL_at (k : Nat) (hk : k < 6) : ∃ f, knownCells[k * 2]? = some (.string f) ∧ knownL.drop k = f :: knownL.drop (k + 1) ∧ f.size ≤ 20 := by
  match k, hk with
  | 0, _ => exact ⟨answB, rfl, rfl, by decide⟩
  | 1, _ => exact ⟨deleB, rfl, rfl, by decide⟩
  | 2, _ => exact ⟨drafB, rfl, rfl, by decide⟩
  | 3, _ => exact ⟨flagB, rfl, rfl, by decide⟩
  | 4, _ => exact ⟨receB, rfl, rfl, by decide⟩
  | 5, _ => exact ⟨seenB, rfl, rfl, by decide⟩
theorem low_size (s : ByteArray) : (lowS s).size = s.size := by
  unfold lowS
  show (s.data.toList.map lowB).toArray.size = s.data.size
  rw [List.size_toArray, List.length_map, Array.length_toList]
theorem list_eq_iff (a b : ByteArray) : (a.toList == b.toList) = decide (a = b) := by
  rw [Bool.eq_iff_iff, beq_iff_eq, decide_eq_true_eq]
  constructor
  · intro h
    have := congrArg (fun l : List UInt8 => (⟨l.toArray⟩ : ByteArray)) h
    exact ByteArray.ext (by simpa [ByteArray.toList_eq] using this)
  · intro h; rw [h]
set_option maxHeartbeats 2000000 in
theorem flag9_any (s : ByteArray) (w : World) (hs : s.size ≤ 1000000) :
    Calls Tryd.prog 20 #[.string s] w fun e w' => e = .returned (.string (flag9L knownL s)) ∧ Below w.heap.size w w' := by
  have hk0 := Lib.hid (known_any w)
  obtain ⟨W0, hW0⟩ : ∃ W0, W0 = w.alloc (.cells knownCells 57) := ⟨_, rfl⟩
  have hsz : w.heap.size < W0.heap.size := by rw [hW0]; simp
  have hcell : ∀ k u, knownCells[k]? = some u → W0.cell? ⟨w.heap.size, k, none⟩ = some u := fun k u hu => by rw [hW0]; simp [go_sem, hu]
  have hb0 := Lib.hid (show Below w.heap.size w W0 by rw [hW0]; exact (Below.refl _ _).alloc (Nat.le_refl _) _)
  have hkn : Hid (Calls Tryd.prog 39 #[] w fun e w' => e = .returned (.slice (some ⟨w.heap.size, 0, none⟩) 6 6) ∧ w' = W0) := Lib.hid (by rw [hW0]; exact hk0.out)
  have hcell' := Lib.hid hcell
  have hlow := Lib.hid (fun (f : ByteArray) (hf : f.size ≤ 1000000) (W : World) => low9_any f W (by unfold maxLen; omega))
  clear hcell hW0 hk0
  go_enter Tryd.func20, Tryd.ntmps20
  go_wp2_with (go_at_call 39; refine hkn.out.mono ?_; rintro e w1 ⟨rfl, rfl⟩)
  go_loopw [8] (fun i wr => ∃ k : Nat, k ≤ 6 ∧ i = .int .i64 k ∧ Hid (flag9L (knownL.drop k) s = flag9L knownL s) ∧ Hid (Below w1.heap.size w1 wr)) (fun i _ => 6 - (intOf i).toNat)
  case atStart => exact ⟨0, by omega, rfl, Lib.hid rfl, Lib.hid (Below.refl _ _)⟩
  case round =>
    obtain ⟨k, hk, rfl, hres, hbr⟩ := hrel
    by_cases hlt : k < 6
    · obtain ⟨f, hf1, hf3, hf5⟩ := knownL_at k hlt
      have hc0 := hcell'.out (k * 2) _ hf1
      have hcr : ∀ W, Below w1.heap.size w1 W → W.cell? ⟨w.heap.size, k * 2, none⟩ = some (.string f) := fun W hW => (hW.cell (p := ⟨w.heap.size, k * 2, none⟩) hsz).trans hc0
      have hcr' := Lib.hid hcr
      have hcw := hcr wr hbr.out
      have hf3' := Lib.hid hf3
      have hl1 := Lib.hid (fun W => hlow.out f (by omega) W)
      have hl2 := Lib.hid (fun W => hlow.out s hs W)
      clear hf1 hf3 hc0 hcr
      by_cases hq : lowS f = lowS s
      · have hfin : Hid (flag9L knownL s = f) := Lib.hid (by rw [← hres.out, hf3'.out]; show (if lowS f = lowS s then f else _) = f; rw [if_pos hq])
        have hqb : ((lowS f).toList == (lowS s).toList) = true := by rw [list_eq_iff]; exact decide_eq_true hq
        obtain ⟨L1, hL1⟩ : ∃ x, x = lowS f := ⟨_, rfl⟩
        obtain ⟨L2, hL2⟩ : ∃ x, x = lowS s := ⟨_, rfl⟩
        have s1 : L1.size ≤ 1000000 := by rw [hL1, low_size]; omega
        have s2 : L2.size ≤ 1000000 := by rw [hL2, low_size]; omega
        rw [← hL1, ← hL2] at hqb
        rw [← hL1] at hl1
        rw [← hL2] at hl2
        clear hL1 hL2 hq
        go_wp2_with fail
        refine (hl1.out _).mono ?_
        rintro e w2 ⟨rfl, hb2⟩
        have hbA := Lib.hid (hbr.out.trans (hb2.mono hbr.out.size))
        have hcA := hcr'.out w2 hbA.out
        clear hb2
        go_wp2_with fail
        refine (hl2.out _).mono ?_
        rintro e w3 ⟨rfl, hb3⟩
        have hbB := Lib.hid (hbA.out.trans (hb3.mono hbA.out.size))
        have hcB := hcr'.out w3 hbB.out
        clear hb3
        go_wp2
        go_ret
        rw [hfin.out]
        exact ⟨rfl, hb0.out.trans (hbB.out.mono (by omega))⟩
      · have hres2 : Hid (flag9L (knownL.drop (k + 1)) s = flag9L knownL s) := Lib.hid (by rw [← hres.out, hf3'.out]; show _ = (if lowS f = lowS s then f else _); rw [if_neg hq])
        have hqb : ((lowS f).toList == (lowS s).toList) = false := by rw [list_eq_iff]; exact decide_eq_false hq
        obtain ⟨L1, hL1⟩ : ∃ x, x = lowS f := ⟨_, rfl⟩
        obtain ⟨L2, hL2⟩ : ∃ x, x = lowS s := ⟨_, rfl⟩
        have s1 : L1.size ≤ 1000000 := by rw [hL1, low_size]; omega
        have s2 : L2.size ≤ 1000000 := by rw [hL2, low_size]; omega
        rw [← hL1, ← hL2] at hqb
        rw [← hL1] at hl1
        rw [← hL2] at hl2
        clear hL1 hL2 hq
        go_wp2_with fail
        refine (hl1.out _).mono ?_
        rintro e w2 ⟨rfl, hb2⟩
        have hbA := Lib.hid (hbr.out.trans (hb2.mono hbr.out.size))
        clear hb2
        go_wp2_with fail
        refine (hl2.out _).mono ?_
        rintro e w3 ⟨rfl, hb3⟩
        have hbB := Lib.hid (hbA.out.trans (hb3.mono hbA.out.size))
        clear hb3
        go_wp2
        go_roundw
        case rel => exact ⟨k + 1, by omega, by go_num, hres2, hbB⟩
        case measure => simp [intOf]; omega
    · have hfin : Hid (flag9L knownL s = lowS s) := Lib.hid (by rw [← hres.out, show k = 6 by omega]; rfl)
      have hl2 := Lib.hid (fun W => hlow.out s hs W)
      go_wp2_with (go_at_call 40; refine (hl2.out _).mono ?_; rintro e w3 ⟨rfl, hb3⟩)
      go_ret
      rw [hfin.out]
      exact ⟨rfl, hb0.out.trans ((hbr.out.trans (hb3.mono hbr.out.size)).mono (by omega))⟩
end Go.Proofs.YtnokeaiemiiicaaDoor.Own
