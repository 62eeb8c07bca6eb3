/- utf7.decode: a shift's letters as UTF-8, or nothing. Plain words on the decoder's Transform of modified UTF-7, and the memory that it works on. No law of the program is proved here. The decoder's Transform of modified UTF-7, at the end of its text. utf7.Decode and impl.FromUtf7: the text of bytes in modified UTF-7, or an error. -/
import Derived.Test.YtbjhmmiijebehaaDoorMC
import Derived.Test.YtbjhmmiijebehaaDoorPdecodex1
import Derived.Deep.Cut
import Derived.Lib.SlBytesConst
import Derived.Deep.CutRange
import Derived.Laws.IdiomStrings
namespace Go.Proofs.YtbjhmmiijebehaaDoor.Own
open Go.RowKit Go.Lib
set_option linter.unusedVariables false
set_option linter.unusedSimpArgs false

theorem and3a : ∀ n : Nat, n < 1001 → bits .and .i64 ((0 + n : Nat) : Int) 3 = (((0 + n) % 4 : Nat) : Int) := by decide +kernel
theorem and3b : ∀ n : Nat, n < 1001 → bits .and .i64 ((1000 + n : Nat) : Int) 3 = (((1000 + n) % 4 : Nat) : Int) := by decide +kernel
theorem and3c : ∀ n : Nat, n < 1001 → bits .and .i64 ((2000 + n : Nat) : Int) 3 = (((2000 + n) % 4 : Nat) : Int) := by decide +kernel
theorem and3 (n : Nat) (h : n < 3001) : bits .and .i64 (n : Int) 3 = ((n % 4 : Nat) : Int) := by
  by_cases h1 : n < 1000
  · have := and3a n (by omega); rwa [Nat.zero_add] at this
  · by_cases h2 : n < 2000
    · have := and3b (n - 1000) (by omega); rwa [show 1000 + (n - 1000) = n by omega] at this
    · have := and3c (n - 2000) (by omega); rwa [show 2000 + (n - 2000) = n by omega] at this
theorem and1a : ∀ n : Nat, n < 1001 → bits .and .i64 ((0 + n : Nat) : Int) 1 = (((0 + n) % 2 : Nat) : Int) := by decide +kernel
theorem and1b : ∀ n : Nat, n < 1001 → bits .and .i64 ((1000 + n : Nat) : Int) 1 = (((1000 + n) % 2 : Nat) : Int) := by decide +kernel
theorem and1c : ∀ n : Nat, n < 1001 → bits .and .i64 ((2000 + n : Nat) : Int) 1 = (((2000 + n) % 2 : Nat) : Int) := by decide +kernel
theorem and1 (n : Nat) (h : n < 3001) : bits .and .i64 (n : Int) 1 = ((n % 2 : Nat) : Int) := by
  by_cases h1 : n < 1000
  · have := and1a n (by omega); rwa [Nat.zero_add] at this
  · by_cases h2 : n < 2000
    · have := and1b (n - 1000) (by omega); rwa [show 1000 + (n - 1000) = n by omega] at this
    · have := and1c (n - 2000) (by omega); rwa [show 2000 + (n - 2000) = n by omega] at this
theorem isSur (u : Nat) : Pdecode.utf16_IsSurrogate.f (u : Int) = some (decide (55296 ≤ u ∧ u < 57344)) := by
  unfold Pdecode.utf16_IsSurrogate.f
  by_cases h1 : 55296 ≤ u
  · rw [if_pos (by omega)]
    exact congrArg some (decide_eq_decide.2 (by omega))
  · rw [if_neg (by omega)]
    exact congrArg some (decide_eq_false (by omega)).symm
theorem decRune (u v : Nat) (hu : 55296 ≤ u ∧ u < 57344) : Pdecode.utf16_DecodeRune.f (u : Int) (v : Int) = some (((if u < 56320 ∧ 56320 ≤ v ∧ v < 57344 then 65536 + (u - 55296) * 1024 + (v - 56320) else 65533 : Nat)) : Int) := by
  unfold Pdecode.utf16_DecodeRune.f
  rw [if_pos (by omega)]
  by_cases h1 : u < 56320
  · rw [if_pos (by omega)]
    by_cases h2 : 56320 ≤ v
    · rw [if_pos (by omega)]
      by_cases h3 : v < 57344
      · rw [if_pos (by omega), if_pos ⟨h1, h2, h3⟩]
        have hw : ∀ n : Int, 0 ≤ n → n < 2 ^ 21 → IntKind.i32.wrap n = n := fun n h0 h1 => by unfold IntKind.wrap; simp [IntKind.bits, IntKind.signed]; omega
        have e1 : wrap32 ((u : Int) - 55296) = ((u - 55296 : Nat) : Int) := by unfold wrap32; omega
        have e2 : wrap32 (((u - 55296 : Nat) : Int) * 1024) = (((u - 55296) * 1024 : Nat) : Int) := by unfold wrap32; omega
        have e3 : wrap32 ((v : Int) - 56320) = ((v - 56320 : Nat) : Int) := by unfold wrap32; omega
        rw [e1, e2, e3, bits_join .i32 21 (by decide) hw 10 _ _ (by omega) (by omega) (by omega) (by omega) (by omega) (by omega)]
        refine congrArg some ?_
        unfold wrap32
        omega
      · rw [if_neg (by omega), if_neg (by omega)]; rfl
    · rw [if_neg (by omega), if_neg (by omega)]; rfl
  · rw [if_neg (by omega), if_neg (by omega)]; rfl
def DecR (w w' : World) (e : Ending) : Option (List UInt8) → Prop
  | none => e = .returned (.slice none 0 0)
  | some out => ∃ b o c, e = .returned (.slice (some ⟨b, o, none⟩) out.length c) ∧ w.heap.size ≤ b ∧ ∀ j x, out[j]? = some x → w'.cell? ⟨b, o + j, none⟩ = some (.int .u8 (x.toNat : Int))
set_option maxHeartbeats 4000000 in
set_option maxRecDepth 100000 in
theorem dec_any (w : World) (Bs so cap k : Nat) (T : List UInt8) (hT : T.length = k + 1) (hk : k < 3000) (hcap : k + 1 ≤ cap) (hnl : ∀ x ∈ T, x ≠ 10 ∧ x ≠ 13)
    (hsrc : ∀ i x, T[i]? = some x → w.cell? ⟨Bs, so + i, none⟩ = some (.int .u8 (x.toNat : Int))) :
    Calls Tryd.prog 18 #[.slice (some ⟨Bs, so, none⟩) (k + 1) cap] w fun e w' => Below w.heap.size w w' ∧ DecR w w' e (codeU T) := by
  obtain ⟨z, hz⟩ : ∃ z, T[k]? = some z := ⟨_, List.getElem?_eq_getElem (by omega)⟩
  have hlast : T.getLast? = some z := by rw [List.getLast?_eq_getElem?, hT]; exact hz
  have q0 := hsrc k z hz
  have hsrc' := Lib.hid hsrc
  have hnl' := Lib.hid hnl
  have hlast' := Lib.hid hlast
  clear hsrc hnl hlast hz
  obtain ⟨m4, hm4⟩ : ∃ m, (k + 1) % 4 = m := ⟨_, rfl⟩
  have ha := and3 (k + 1) (by omega)
  rw [hm4] at ha
  have ha1 : bits .and .i64 ((k : Int) + 1) 3 = (m4 : Int) := by rw [← ha]; congr 1
  clear ha
  by_cases h61 : z = 61
  · have n61 : ((z.toNat : Int) == 61) = true := by rw [h61]; rfl
    have h61' := Lib.hid h61
    clear h61
    go_enter Tryd.func18, Tryd.ntmps18
    go_wp2_with fail
    go_ret
    refine ⟨Below.refl _ _, ?_⟩
    have hc : codeU T = none := by unfold codeU; rw [if_pos (by rw [hlast'.out, h61'.out])]
    rw [hc]
    rfl
  have n61 : ((z.toNat : Int) == 61) = false := cell_ne h61
  have h61' := Lib.hid h61
  clear h61
  go_enter Tryd.func18, Tryd.ntmps18
  go_upto_if 19 with fail
  go_cut [0, 3, 4] from 20 to 54 (fun s0 s3 s4 wc => ∃ (Bs2 so2 cap2 B o L R dcap : Nat) (pre rest0 : List UInt8) (v : Value), s0 = .slice (some ⟨Bs2, so2, none⟩) L cap2 ∧ s3 = .slice (some ⟨B, o, none⟩) R dcap ∧ s4 = v ∧
    L % 4 = 0 ∧ 0 < L ∧ L ≤ 3004 ∧ R = 9 * (L / 4) ∧ L ≤ cap2 ∧ R ≤ dcap ∧ w.heap.size ≤ B ∧ Hid ((padT T).length = L) ∧ Hid (rest0.length = R) ∧ Hid (pre.length = o) ∧ Hid (Row0 5 wc B (pre ++ rest0)) ∧ Hid (SrcAt wc B Bs2 so2 (padT T) pre) ∧ Hid (z ≠ 61) ∧ Hid (Below w.heap.size w wc))
  case first =>
    have hcb := Lib.hid (fun W => b64_any W)
    by_cases hm0 : m4 = 0
    · have z0 : ((m4 : Int) == 0) = true := by rw [hm0]; rfl
      go_wp2_with fail
      refine (hcb.out _).mono ?_
      rintro e w1 ⟨rfl, hE1, hb1⟩
      obtain ⟨Q, hQ⟩ : ∃ Q, (k + 1) / 4 * 3 = Q := ⟨_, rfl⟩
      have hdl : Calls Tryd.prog 21 #[.pointer (some ⟨w.heap.size, 0, none⟩), .int .i64 ((k : Int) + 1)] w1 fun e w' => e = .returned (.int .i64 (Q : Int)) ∧ Below w1.heap.size w1 w' := by
        have := decLen_any w1 w.heap.size (k + 1) (by omega) hE1
        rw [hQ] at this
        exact this
      have hdl' := Lib.hid hdl
      have hb1' := Lib.hid hb1
      clear hdl hb1 hE1
      go_wp2_with fail
      refine hdl'.out.mono ?_
      rintro e w2 ⟨rfl, hb2⟩
      have hb2' := Lib.hid (hb1'.out.trans (hb2.mono hb1'.out.size))
      clear hb2 hdl' hb1'
      obtain ⟨R, hR⟩ : ∃ R, Q * 3 = R := ⟨_, rfl⟩
      have hQR : (Q : Int) * 3 = (R : Int) := by omega
      have hmk : ∀ W, (Instr.makeSlice 38 (.int .i64 (R : Int)) (.int .i64 (R : Int))).run Tryd.prog W = .ok (.slice (some ⟨W.heap.size, 0, none⟩) R R) (W.alloc (.cells (madeCells #[.int .u8 0] R) 5)) := make_u8 R (by omega)
      obtain ⟨Z, hZ⟩ : ∃ Z, madeCells #[Value.int .u8 0] R = Z := ⟨_, rfl⟩
      rw [hZ] at hmk
      have hZ' := Lib.hid hZ
      clear hZ
      go_wp2_with fail
      go_meet
      have hrow := row_made w2 R
      rw [hZ'.out] at hrow
      have hpad : padT T = T := by unfold padT; rw [hT, if_pos (by omega), List.append_nil]
      refine ⟨Bs, so, cap, w2.heap.size, 0, k + 1, R, R, [], List.replicate R 0, _, rfl, rfl, rfl, by omega, by omega, by omega, by omega, hcap, Nat.le_refl _, hb2'.out.size, Lib.hid (by rw [hpad, hT]), Lib.hid (by simp), Lib.hid rfl, Lib.hid hrow, Lib.hid (.inl ⟨?_, ?_⟩), h61', Lib.hid (hb2'.out.alloc hb2'.out.size _)⟩
      · have h0 := World.block_lt_of_cell? w _ q0
        have h1 := hb2'.out.size
        simp only at h0
        omega
      · rw [hpad]
        intro i x hx
        have h0 := hsrc'.out i x hx
        have h1 := (hb2'.out.alloc hb2'.out.size (.cells Z 5))
        exact (h1.cell (World.block_lt_of_cell? w _ h0)).trans h0
    · have hmc : m4 = 1 ∨ m4 = 2 ∨ m4 = 3 := by omega
      rcases hmc with rfl | rfl | rfl
      · skip
        have z0 : ((1 : Int) == 0) = false := rfl
        obtain ⟨L, hL⟩ : ∃ L, k + 4 = L := ⟨_, rfl⟩
        have hLk : (k : Int) + 1 + 3 = (L : Int) := by omega
        go_wp2_with fail
        refine (hcb.out _).mono ?_
        rintro e w1 ⟨rfl, hE1, hb1⟩
        obtain ⟨Q, hQ⟩ : ∃ Q, L / 4 * 3 = Q := ⟨_, rfl⟩
        have hdl : Calls Tryd.prog 21 #[.pointer (some ⟨w.heap.size, 0, none⟩), .int .i64 (L : Int)] w1 fun e w' => e = .returned (.int .i64 (Q : Int)) ∧ Below w1.heap.size w1 w' := by
          have := decLen_any w1 w.heap.size L (by omega) hE1
          rw [hQ] at this
          exact this
        have hdl' := Lib.hid hdl
        have hb1' := Lib.hid hb1
        clear hdl hb1 hE1
        go_wp2_with fail
        refine hdl'.out.mono ?_
        rintro e w2 ⟨rfl, hb2⟩
        have hb2' := Lib.hid (hb1'.out.trans (hb2.mono hb1'.out.size))
        clear hb2 hdl' hb1'
        obtain ⟨R, hR⟩ : ∃ R, Q * 3 = R := ⟨_, rfl⟩
        have hQR : (Q : Int) * 3 = (R : Int) := by omega
        obtain ⟨N, hN⟩ : ∃ N, L + R = N := ⟨_, rfl⟩
        have hNR : (L : Int) + (R : Int) = (N : Int) := by omega
        have hmk : ∀ W, (Instr.makeSlice 38 (.int .i64 (N : Int)) (.int .i64 (N : Int))).run Tryd.prog W = .ok (.slice (some ⟨W.heap.size, 0, none⟩) N N) (W.alloc (.cells (madeCells #[.int .u8 0] N) 5)) := make_u8 N (by omega)
        obtain ⟨Z, hZ⟩ : ∃ Z, madeCells #[Value.int .u8 0] N = Z := ⟨_, rfl⟩
        rw [hZ] at hmk
        have hrow := row_made w2 N
        rw [hZ] at hrow
        have hrow' := Lib.hid hrow
        have hZ' := Lib.hid hZ
        clear hZ hrow
        go_wp2_with fail
        obtain ⟨W3, hcp, hr3, hb3⟩ := run_copy_bytes (w2.alloc (.cells Z 5)) w2.heap.size 0 N N Bs so (k + 1) cap [] (List.replicate (k + 1) 0) (List.replicate 3 0 ++ List.replicate R 0) T
          (by have := hrow'.out; rw [List.nil_append, ← List.append_assoc, List.replicate_append_replicate, List.replicate_append_replicate, show k + 1 + 3 + R = N by omega]; exact this) rfl (by rw [List.length_replicate, hT]) (by rw [hT]; exact (Nat.min_eq_left (by omega)).symm)
          (fun i x hx => by
            have h0 := hsrc'.out i x hx
            exact ((hb2'.out.alloc hb2'.out.size (.cells Z 5)).cell (World.block_lt_of_cell? w _ h0)).trans h0)
        rw [hcp]
        have hr3' := Lib.hid hr3
        have hb3' := Lib.hid (hb3.below (hb2'.out.alloc hb2'.out.size _) hb2'.out.size)
        have hb3s := Lib.hid hb3.2.2.2.1
        clear hcp hr3 hb3 hrow'
        rw [hT]
        go_wp2_with fail
        rw [Lib.run_convert_bytes_const (P := Tryd.prog) W3 38 5 #[.int .u8 61, .int .u8 61] 2 2 Tryd.underlying38 (by kernel_rfl)]
        go_wp2_with fail
        have hr4 : Row0 5 (W3.alloc (.cells #[.int .u8 61, .int .u8 61] 5 (2, 3))) w2.heap.size (T ++ List.replicate 2 0 ++ (List.replicate 1 0 ++ List.replicate R 0)) := by
          have := hr3'.out.below ((Below.refl _ _).alloc (Nat.le_refl _) (.cells #[.int .u8 61, .int .u8 61] 5 (2, 3)))
          simpa using this
        have hb4 : Below w.heap.size w (W3.alloc (.cells #[.int .u8 61, .int .u8 61] 5 (2, 3))) := hb3'.out.alloc hb3'.out.size _
        obtain ⟨W4, hcp2, hr5, hb5⟩ := run_copy_bytes (W3.alloc (.cells #[.int .u8 61, .int .u8 61] 5 (2, 3))) w2.heap.size (k + 1) (L - (k + 1)) (N - (k + 1)) W3.heap.size 0 2 2 T (List.replicate 2 0) (List.replicate 1 0 ++ List.replicate R 0) [61, 61]
          hr4 hT (by simp) (by rw [show L - (k + 1) = 3 by omega]; rfl) (fun i x hx => by
            have hh := heap_alloc_new W3 (.cells #[.int .u8 61, .int .u8 61] 5 (2, 3))
            match i, hx with
            | 0, h => cases h; exact (cell_of_row _ _ 0 _ _ _ hh).trans rfl
            | 1, h => cases h; exact (cell_of_row _ _ 1 _ _ _ hh).trans rfl
            | i + 2, h => simp at h)
        rw [hcp2]
        have hb6 := hb5.below hb4 hb2'.out.size
        have hr6 : Row0 5 W4 w2.heap.size (padT T ++ List.replicate R 0) := by
          unfold padT
          rw [hT, hm4]
          simpa using hr5
        have hr6' := Lib.hid hr6
        have hb6' := Lib.hid hb6
        have hpl : (padT T).length = L := by unfold padT; rw [hT, hm4]; simp [hT]; omega
        have hpl' := Lib.hid hpl
        clear hcp2 hr4 hb4 hr5 hb5 hb6 hr6 hpl hr3' hb3' hb3s
        have gL1 : (0 : Int) ≤ (L : Int) := by omega
        have gL2 : (L : Int) ≤ (N : Int) := by omega
        go_wp2_with fail
        go_quiet (fail)
        go_wp2_with fail
        go_meet
        exact ⟨w2.heap.size, 0, N, w2.heap.size, L, L, N - L, N - L, padT T, List.replicate R 0, _, rfl, rfl, rfl, by omega, by omega, by omega, by omega, by omega, Nat.le_refl _, hb2'.out.size, hpl', Lib.hid (by simp; omega), hpl', Lib.hid hr6'.out, Lib.hid (.inr ⟨rfl, rfl, rfl⟩), h61', Lib.hid (hb6'.out.trans ⟨rfl, rfl, rfl, Nat.le_refl _, fun _ _ => rfl⟩)⟩
      · skip
        have z0 : ((2 : Int) == 0) = false := rfl
        obtain ⟨L, hL⟩ : ∃ L, k + 3 = L := ⟨_, rfl⟩
        have hLk : (k : Int) + 1 + 2 = (L : Int) := by omega
        go_wp2_with fail
        refine (hcb.out _).mono ?_
        rintro e w1 ⟨rfl, hE1, hb1⟩
        obtain ⟨Q, hQ⟩ : ∃ Q, L / 4 * 3 = Q := ⟨_, rfl⟩
        have hdl : Calls Tryd.prog 21 #[.pointer (some ⟨w.heap.size, 0, none⟩), .int .i64 (L : Int)] w1 fun e w' => e = .returned (.int .i64 (Q : Int)) ∧ Below w1.heap.size w1 w' := by
          have := decLen_any w1 w.heap.size L (by omega) hE1
          rw [hQ] at this
          exact this
        have hdl' := Lib.hid hdl
        have hb1' := Lib.hid hb1
        clear hdl hb1 hE1
        go_wp2_with fail
        refine hdl'.out.mono ?_
        rintro e w2 ⟨rfl, hb2⟩
        have hb2' := Lib.hid (hb1'.out.trans (hb2.mono hb1'.out.size))
        clear hb2 hdl' hb1'
        obtain ⟨R, hR⟩ : ∃ R, Q * 3 = R := ⟨_, rfl⟩
        have hQR : (Q : Int) * 3 = (R : Int) := by omega
        obtain ⟨N, hN⟩ : ∃ N, L + R = N := ⟨_, rfl⟩
        have hNR : (L : Int) + (R : Int) = (N : Int) := by omega
        have hmk : ∀ W, (Instr.makeSlice 38 (.int .i64 (N : Int)) (.int .i64 (N : Int))).run Tryd.prog W = .ok (.slice (some ⟨W.heap.size, 0, none⟩) N N) (W.alloc (.cells (madeCells #[.int .u8 0] N) 5)) := make_u8 N (by omega)
        obtain ⟨Z, hZ⟩ : ∃ Z, madeCells #[Value.int .u8 0] N = Z := ⟨_, rfl⟩
        rw [hZ] at hmk
        have hrow := row_made w2 N
        rw [hZ] at hrow
        have hrow' := Lib.hid hrow
        have hZ' := Lib.hid hZ
        clear hZ hrow
        go_wp2_with fail
        obtain ⟨W3, hcp, hr3, hb3⟩ := run_copy_bytes (w2.alloc (.cells Z 5)) w2.heap.size 0 N N Bs so (k + 1) cap [] (List.replicate (k + 1) 0) (List.replicate 2 0 ++ List.replicate R 0) T
          (by have := hrow'.out; rw [List.nil_append, ← List.append_assoc, List.replicate_append_replicate, List.replicate_append_replicate, show k + 1 + 2 + R = N by omega]; exact this) rfl (by rw [List.length_replicate, hT]) (by rw [hT]; exact (Nat.min_eq_left (by omega)).symm)
          (fun i x hx => by
            have h0 := hsrc'.out i x hx
            exact ((hb2'.out.alloc hb2'.out.size (.cells Z 5)).cell (World.block_lt_of_cell? w _ h0)).trans h0)
        rw [hcp]
        have hr3' := Lib.hid hr3
        have hb3' := Lib.hid (hb3.below (hb2'.out.alloc hb2'.out.size _) hb2'.out.size)
        have hb3s := Lib.hid hb3.2.2.2.1
        clear hcp hr3 hb3 hrow'
        rw [hT]
        go_wp2_with fail
        rw [Lib.run_convert_bytes_const (P := Tryd.prog) W3 38 5 #[.int .u8 61, .int .u8 61] 2 2 Tryd.underlying38 (by kernel_rfl)]
        go_wp2_with fail
        have hr4 : Row0 5 (W3.alloc (.cells #[.int .u8 61, .int .u8 61] 5 (2, 3))) w2.heap.size (T ++ List.replicate 2 0 ++ (List.replicate 0 0 ++ List.replicate R 0)) := by
          have := hr3'.out.below ((Below.refl _ _).alloc (Nat.le_refl _) (.cells #[.int .u8 61, .int .u8 61] 5 (2, 3)))
          simpa using this
        have hb4 : Below w.heap.size w (W3.alloc (.cells #[.int .u8 61, .int .u8 61] 5 (2, 3))) := hb3'.out.alloc hb3'.out.size _
        obtain ⟨W4, hcp2, hr5, hb5⟩ := run_copy_bytes (W3.alloc (.cells #[.int .u8 61, .int .u8 61] 5 (2, 3))) w2.heap.size (k + 1) (L - (k + 1)) (N - (k + 1)) W3.heap.size 0 2 2 T (List.replicate 2 0) (List.replicate 0 0 ++ List.replicate R 0) [61, 61]
          hr4 hT (by simp) (by rw [show L - (k + 1) = 2 by omega]; rfl) (fun i x hx => by
            have hh := heap_alloc_new W3 (.cells #[.int .u8 61, .int .u8 61] 5 (2, 3))
            match i, hx with
            | 0, h => cases h; exact (cell_of_row _ _ 0 _ _ _ hh).trans rfl
            | 1, h => cases h; exact (cell_of_row _ _ 1 _ _ _ hh).trans rfl
            | i + 2, h => simp at h)
        rw [hcp2]
        have hb6 := hb5.below hb4 hb2'.out.size
        have hr6 : Row0 5 W4 w2.heap.size (padT T ++ List.replicate R 0) := by
          unfold padT
          rw [hT, hm4]
          simpa using hr5
        have hr6' := Lib.hid hr6
        have hb6' := Lib.hid hb6
        have hpl : (padT T).length = L := by unfold padT; rw [hT, hm4]; simp [hT]; omega
        have hpl' := Lib.hid hpl
        clear hcp2 hr4 hb4 hr5 hb5 hb6 hr6 hpl hr3' hb3' hb3s
        have gL1 : (0 : Int) ≤ (L : Int) := by omega
        have gL2 : (L : Int) ≤ (N : Int) := by omega
        go_wp2_with fail
        go_quiet (fail)
        go_wp2_with fail
        go_meet
        exact ⟨w2.heap.size, 0, N, w2.heap.size, L, L, N - L, N - L, padT T, List.replicate R 0, _, rfl, rfl, rfl, by omega, by omega, by omega, by omega, by omega, Nat.le_refl _, hb2'.out.size, hpl', Lib.hid (by simp; omega), hpl', Lib.hid hr6'.out, Lib.hid (.inr ⟨rfl, rfl, rfl⟩), h61', Lib.hid (hb6'.out.trans ⟨rfl, rfl, rfl, Nat.le_refl _, fun _ _ => rfl⟩)⟩
      · skip
        have z0 : ((3 : Int) == 0) = false := rfl
        obtain ⟨L, hL⟩ : ∃ L, k + 2 = L := ⟨_, rfl⟩
        have hLk : (k : Int) + 1 + 1 = (L : Int) := by omega
        go_wp2_with fail
        refine (hcb.out _).mono ?_
        rintro e w1 ⟨rfl, hE1, hb1⟩
        obtain ⟨Q, hQ⟩ : ∃ Q, L / 4 * 3 = Q := ⟨_, rfl⟩
        have hdl : Calls Tryd.prog 21 #[.pointer (some ⟨w.heap.size, 0, none⟩), .int .i64 (L : Int)] w1 fun e w' => e = .returned (.int .i64 (Q : Int)) ∧ Below w1.heap.size w1 w' := by
          have := decLen_any w1 w.heap.size L (by omega) hE1
          rw [hQ] at this
          exact this
        have hdl' := Lib.hid hdl
        have hb1' := Lib.hid hb1
        clear hdl hb1 hE1
        go_wp2_with fail
        refine hdl'.out.mono ?_
        rintro e w2 ⟨rfl, hb2⟩
        have hb2' := Lib.hid (hb1'.out.trans (hb2.mono hb1'.out.size))
        clear hb2 hdl' hb1'
        obtain ⟨R, hR⟩ : ∃ R, Q * 3 = R := ⟨_, rfl⟩
        have hQR : (Q : Int) * 3 = (R : Int) := by omega
        obtain ⟨N, hN⟩ : ∃ N, L + R = N := ⟨_, rfl⟩
        have hNR : (L : Int) + (R : Int) = (N : Int) := by omega
        have hmk : ∀ W, (Instr.makeSlice 38 (.int .i64 (N : Int)) (.int .i64 (N : Int))).run Tryd.prog W = .ok (.slice (some ⟨W.heap.size, 0, none⟩) N N) (W.alloc (.cells (madeCells #[.int .u8 0] N) 5)) := make_u8 N (by omega)
        obtain ⟨Z, hZ⟩ : ∃ Z, madeCells #[Value.int .u8 0] N = Z := ⟨_, rfl⟩
        rw [hZ] at hmk
        have hrow := row_made w2 N
        rw [hZ] at hrow
        have hrow' := Lib.hid hrow
        have hZ' := Lib.hid hZ
        clear hZ hrow
        go_wp2_with fail
        obtain ⟨W3, hcp, hr3, hb3⟩ := run_copy_bytes (w2.alloc (.cells Z 5)) w2.heap.size 0 N N Bs so (k + 1) cap [] (List.replicate (k + 1) 0) (List.replicate 1 0 ++ List.replicate R 0) T
          (by have := hrow'.out; rw [List.nil_append, ← List.append_assoc, List.replicate_append_replicate, List.replicate_append_replicate, show k + 1 + 1 + R = N by omega]; exact this) rfl (by rw [List.length_replicate, hT]) (by rw [hT]; exact (Nat.min_eq_left (by omega)).symm)
          (fun i x hx => by
            have h0 := hsrc'.out i x hx
            exact ((hb2'.out.alloc hb2'.out.size (.cells Z 5)).cell (World.block_lt_of_cell? w _ h0)).trans h0)
        rw [hcp]
        have hr3' := Lib.hid hr3
        have hb3' := Lib.hid (hb3.below (hb2'.out.alloc hb2'.out.size _) hb2'.out.size)
        have hb3s := Lib.hid hb3.2.2.2.1
        clear hcp hr3 hb3 hrow'
        rw [hT]
        go_wp2_with fail
        rw [Lib.run_convert_bytes_const (P := Tryd.prog) W3 38 5 #[.int .u8 61, .int .u8 61] 2 2 Tryd.underlying38 (by kernel_rfl)]
        go_wp2_with fail
        have hr4 : Row0 5 (W3.alloc (.cells #[.int .u8 61, .int .u8 61] 5 (2, 3))) w2.heap.size (T ++ List.replicate 1 0 ++ (List.replicate 0 0 ++ List.replicate R 0)) := by
          have := hr3'.out.below ((Below.refl _ _).alloc (Nat.le_refl _) (.cells #[.int .u8 61, .int .u8 61] 5 (2, 3)))
          simpa using this
        have hb4 : Below w.heap.size w (W3.alloc (.cells #[.int .u8 61, .int .u8 61] 5 (2, 3))) := hb3'.out.alloc hb3'.out.size _
        obtain ⟨W4, hcp2, hr5, hb5⟩ := run_copy_bytes (W3.alloc (.cells #[.int .u8 61, .int .u8 61] 5 (2, 3))) w2.heap.size (k + 1) (L - (k + 1)) (N - (k + 1)) W3.heap.size 0 2 2 T (List.replicate 1 0) (List.replicate 0 0 ++ List.replicate R 0) [61]
          hr4 hT (by simp) (by rw [show L - (k + 1) = 1 by omega]; rfl) (fun i x hx => by
            have hh := heap_alloc_new W3 (.cells #[.int .u8 61, .int .u8 61] 5 (2, 3))
            match i, hx with
            | 0, h => cases h; exact (cell_of_row _ _ 0 _ _ _ hh).trans rfl
    
            | i + 1, h => simp at h)
        rw [hcp2]
        have hb6 := hb5.below hb4 hb2'.out.size
        have hr6 : Row0 5 W4 w2.heap.size (padT T ++ List.replicate R 0) := by
          unfold padT
          rw [hT, hm4]
          simpa using hr5
        have hr6' := Lib.hid hr6
        have hb6' := Lib.hid hb6
        have hpl : (padT T).length = L := by unfold padT; rw [hT, hm4]; simp [hT]; omega
        have hpl' := Lib.hid hpl
        clear hcp2 hr4 hb4 hr5 hb5 hb6 hr6 hpl hr3' hb3' hb3s
        have gL1 : (0 : Int) ≤ (L : Int) := by omega
        have gL2 : (L : Int) ≤ (N : Int) := by omega
        go_wp2_with fail
        go_quiet (fail)
        go_wp2_with fail
        go_meet
        exact ⟨w2.heap.size, 0, N, w2.heap.size, L, L, N - L, N - L, padT T, List.replicate R 0, _, rfl, rfl, rfl, by omega, by omega, by omega, by omega, by omega, Nat.le_refl _, hb2'.out.size, hpl', Lib.hid (by simp; omega), hpl', Lib.hid hr6'.out, Lib.hid (.inr ⟨rfl, rfl, rfl⟩), h61', Lib.hid (hb6'.out.trans ⟨rfl, rfl, rfl, Nat.le_refl _, fun _ _ => rfl⟩)⟩
  case rest =>
    obtain ⟨Bs2, so2, cap2, B, o, L, R, dcap, pre, rest0, v, rfl, rfl, rfl, hL4, hL0, hLm, hRL, hLc, hRd, hwB, hpl, hrl, hpo, hrow, hsr, hz61, hbw⟩ := hcut
    clear n61 q0 ha1
    have hRL' := Lib.hid hRL
    have hLb : R < 1000000 := by omega
    have hLb2 : 2 * L ≤ R := by omega
    clear hRL
    have hcb := Lib.hid (fun W => b64_any W)
    go_wp2_with fail
    refine (hcb.out _).mono ?_
    rintro e w1 ⟨rfl, hE1, hb1⟩
    have hB0 := hrow.out.lt
    have hSrc1 : SrcAt w1 B Bs2 so2 (padT T) pre := by
      rcases hsr.out with ⟨h1, h2⟩ | h
      · exact .inl ⟨h1, fun i x hx => (hb1.cell (World.block_lt_of_cell? _ _ (h2 i x hx))).trans (h2 i x hx)⟩
      · exact .inr h
    have hnlp : ∀ x ∈ padT T, x ≠ 10 ∧ x ≠ 13 := by
      intro x hx
      unfold padT at hx
      rcases List.mem_append.1 hx with h | h
      · exact hnl'.out x h
      · split at h
        · simp at h
        · split at h
          · simp at h; subst h; decide
          · split at h
            · simp at h; subst h; decide
            · simp at h; rcases h with rfl | rfl <;> decide
    have hdc := decode_any w1 B o dcap Bs2 so2 cap2 _ (padT T) pre rest0 (hrow.out.below hb1) hpo.out hSrc1 (by rw [hpl.out]; exact hL4) (by rw [hpl.out]; exact hL0) hnlp hE1 (by omega) (by rw [hpl.out]; exact hLc) (by rw [hrl.out]; exact hRd) (by rw [hpl.out, hrl.out]; exact hLb2) (by rw [hpl.out]; omega) (by rw [hrl.out]; exact hLb)
    rw [hpl.out, hrl.out] at hdc
    have hdc' := Lib.hid hdc
    have hbw1 := Lib.hid (hbw.out.trans (hb1.mono hbw.out.size))
    clear hdc hb1 hE1 hSrc1 hnlp
    go_wp2_with fail
    refine hdc'.out.mono ?_
    clear hdc'
    rintro e w2 ⟨hb2, hD⟩
    have hbw2 := Lib.hid (hb2.below hbw1.out hwB)
    have hnc : (¬ T.getLast? = some 61) := by rw [hlast'.out]; intro h; exact hz61.out (Option.some.inj h)
    rcases hdq : dec64 (padT T) with _ | bs
    · rw [hdq] at hD
      obtain ⟨x, v2, rfl⟩ := hD
      have hcode : codeU T = none := by unfold codeU; rw [if_neg hnc, hdq]
      have hcode' := Lib.hid hcode
      clear hcode hdq hnc hb2
      go_wp2_with fail
      go_ret
      refine ⟨hbw2.out, ?_⟩
      rw [hcode'.out]
      rfl
    · rw [hdq] at hD
      obtain ⟨rfl, y, hy, hyl⟩ := hD
      obtain ⟨n, hn⟩ : ∃ n, bs.length = n := ⟨_, rfl⟩
      rw [hn]
      have hnL := dec64_len _ _ hdq
      rw [hpl.out, hn] at hnL
      have hnR : n ≤ R := by omega
      have hand := and1 n (by omega)
      have hn' := Lib.hid hn
      have hcode0 : codeU T = if n % 2 = 1 then none else u16 bs := by unfold codeU; rw [if_neg hnc, hdq, ← hn]
      have hcode0' := Lib.hid hcode0
      have hpo' := hpo
      by_cases hodd : n % 2 = 1
      · rw [hodd] at hand
        have hand2 : bits .and .i64 (n : Int) 1 = 1 := hand
        have hcode : codeU T = none := by rw [hcode0, if_pos hodd]
        have hcode' := Lib.hid hcode
        clear hcode hcode0 hdq hnc hb2 hy hyl hn hodd hand hnL
        go_wp2_with fail
        go_ret
        refine ⟨hbw2.out, ?_⟩
        rw [hcode'.out]
        rfl
      · rw [show n % 2 = 0 by omega] at hand
        have hand2 : bits .and .i64 (n : Int) 1 = 0 := hand
        have hcode : codeU T = u16 bs := by rw [hcode0, if_neg hodd]
        have hcode' := Lib.hid hcode
        have hU0 : Uinv w w2 B R pre bs [] 0 := ⟨by omega, by omega, by simp, hbw2.out, y, by simpa using hy, by simp; omega, by omega⟩
        have hU0' := Lib.hid hU0
        have hev := Lib.hid (show n % 2 = 0 by omega)
        have gn0 : (0 : Int) ≤ (n : Int) := by omega
        have gn3 : n < dcap := by omega
        have gn4 : ¬ dcap = n := by omega
        have gn1 : (n : Int) ≤ (dcap : Int) := by omega
        have gn2 : (n : Int) ≤ (R : Int) := by omega
        clear hcode hcode0 hcode0' hdq hnc hb2 hy hyl hn hodd hand hnL hU0 hbw2 hbw1
        go_wp2_with fail
        go_quiet (fail)
        have hU1 := Lib.hid (uinv_draw hU0'.out nq)
        generalize w2.drewN nq = w3 at hU1 ⊢
        clear hU0'
        go_wp2_with fail
        go_loopw [8, 9] (fun s8 s9 wr => ∃ (p : Nat) (out : List UInt8), s9 = .int .i64 (p : Int) ∧ s8 = .int .i64 (out.length : Int) ∧ Hid (Uinv w wr B R pre bs out p)) (fun _ s9 _ => n - (RowKit.intOf s9).toNat)
        case atStart => exact ⟨0, [], rfl, rfl, hU1⟩
        case round =>
          obtain ⟨wq, hwq⟩ : ∃ wq : World, wq = wr := ⟨_, rfl⟩
          rw [← hwq] at hrel ⊢
          clear hwq hU1
          obtain ⟨p, out, rfl, rfl, hI⟩ := hrel
          obtain ⟨j, hj⟩ : ∃ j, out.length = j := ⟨_, rfl⟩
          rw [hj]
          have hj' := Lib.hid hj
          obtain ⟨i1, i2, i3, i4, x, i5, i6, i7⟩ := hI.out
          have hjR : j ≤ R - n := by have := hn'.out; omega
          by_cases hpn : p < n
          · have hnn := hn'.out
            have hev2 := hev.out
            have hdl : (bs.drop p).length = n - p := by rw [List.length_drop, hnn]
            obtain ⟨h, l, t, hd⟩ : ∃ h l t, bs.drop p = h :: l :: t := by
              rcases hd : bs.drop p with _ | ⟨h, _ | ⟨l, t⟩⟩
              · rw [hd] at hdl; simp at hdl; omega
              · rw [hd] at hdl; simp at hdl; omega
              · exact ⟨h, l, t, rfl⟩
            have htl : t.length = n - p - 2 := by rw [hd] at hdl; simp at hdl; omega
            have hd2 : bs.drop (p + 2) = t := by rw [← List.drop_drop, hd]; rfl
            have hat : ∀ k c, (bs.drop p)[k]? = some c → wq.cell? ⟨B, o + p + k, none⟩ = some (.int .u8 (c.toNat : Int)) := fun k c hc => by
              rw [List.getElem?_drop] at hc
              refine i5.cell ?_
              have hlt := (List.getElem?_eq_some_iff.1 hc).1
              rw [List.append_assoc, List.append_assoc, List.getElem?_append_right (by rw [hpo.out]; omega), hpo.out, List.getElem?_append_left (by omega), show o + p + k - o = p + k by omega]
              exact hc
            have q0 : wq.cell? ⟨B, o + p, none⟩ = some (.int .u8 (h.toNat : Int)) := hat 0 h (by rw [hd]; rfl)
            have q1 : wq.cell? ⟨B, o + (p + 1), none⟩ = some (.int .u8 (l.toNat : Int)) := by have := hat 1 l (by rw [hd]; rfl); rwa [show o + p + 1 = o + (p + 1) by omega] at this
            have hjlt := Lib.hid (show j < R - n by omega)
            have hor := un_or h l
            have gl : (h.toNat : Int) < 256 := by have := UInt8.toNat_lt h; omega
            have gp : (p : Int) < (n : Int) := by omega
            have gp1 : (p : Int) + 1 < (n : Int) := by omega
            obtain ⟨U, hUe⟩ : ∃ U, un h l = U := ⟨_, rfl⟩
            have hUlt := un_lt h l
            rw [hUe] at hor hUlt
            have hwl : wrap32 (l.toNat : Int) = (l.toNat : Int) := by have := UInt8.toNat_lt l; unfold wrap32; omega
            have hat' := Lib.hid hat
            have hd' := Lib.hid (And.intro hd (And.intro hd2 htl))
            have hUe' := Lib.hid hUe
            clear hat hd hd2 hdl hnn hUe i5 i3 i4 i6 i7 i1 hj
            go_wp2_with fail
            go_quiet (fail)
            have hI2 := Lib.hid (uinv_draw hI.out nq)
            have hat2 := Lib.hid (show ∀ k c, (bs.drop p)[k]? = some c → (wq.drewN nq).cell? ⟨B, o + p + k, none⟩ = some (.int .u8 (c.toNat : Int)) from hat'.out)
            generalize wq.drewN nq = wp at hI2 hat2 ⊢
            clear hI hat' q0 q1
            have hjd : ¬ dcap - n = j := by have := hjlt.out; omega
            by_cases hs : 55296 ≤ U ∧ U < 57344
            · have hsur := Lib.hid (fun W => Pdecode.utf16_IsSurrogate.calls _ true W ((isSur U).trans (by rw [decide_eq_true hs])))
              go_wp2_with fail
              refine (hsur.out _).mono ?_
              rintro e w4 ⟨rfl, hdr⟩
              have hI3 := Lib.hid (uinv_below hI2.out hdr.below)
              have hat3 := Lib.hid (fun k c (hc : (bs.drop p)[k]? = some c) => (hdr.below.cell (World.block_lt_of_cell? _ _ (hat2.out k c hc))).trans (hat2.out k c hc))
              clear hI2 hat2 hdr hsur hwl hor
              by_cases hend : p + 2 = n
              · have ge : ((p : Int) + 2 == (n : Int)) = true := by rw [beq_iff_eq]; omega
                go_wp2_with fail
                go_ret
                obtain ⟨h1, h2, h3, h4, x, h5, h6, h7⟩ := hI3.out
                refine ⟨h4, ?_⟩
                have ht0 : t = [] := List.eq_nil_of_length_eq_zero (by have := hd'.out.2.2; omega)
                rw [hcode'.out, h3, hd'.out.1, ht0, u16_sur1 h l (by rw [hUe'.out]; exact hs)]
                rfl
              · have ge : ((p : Int) + 2 == (n : Int)) = false := by rw [beq_eq_false_iff_ne]; omega
                obtain ⟨h2, l2, t2, ht⟩ : ∃ h2 l2 t2, t = h2 :: l2 :: t2 := by
                  have htl := hd'.out.2.2
                  rcases t with _ | ⟨h2, _ | ⟨l2, t2⟩⟩
                  · simp at htl; omega
                  · simp at htl; omega
                  · exact ⟨h2, l2, t2, rfl⟩
                have q2 : w4.cell? ⟨B, o + (p + 2), none⟩ = some (.int .u8 (h2.toNat : Int)) := by have := hat3.out 2 h2 (by rw [hd'.out.1, ht]; rfl); rwa [show o + p + 2 = o + (p + 2) by omega] at this
                have q3 : w4.cell? ⟨B, o + (p + 2 + 1), none⟩ = some (.int .u8 (l2.toNat : Int)) := by have := hat3.out 3 l2 (by rw [hd'.out.1, ht]; rfl); rwa [show o + p + 3 = o + (p + 2 + 1) by omega] at this
                have hwl2 : wrap32 (l2.toNat : Int) = (l2.toNat : Int) := by have := UInt8.toNat_lt l2; unfold wrap32; omega
                have hor2 := un_or h2 l2
                have gl2 : (h2.toNat : Int) < 256 := by have := UInt8.toNat_lt h2; omega
                have gp2 : (p : Int) + 2 < (n : Int) := by omega
                have gp3 : (p : Int) + 2 + 1 < (n : Int) := by omega
                obtain ⟨V, hVe⟩ : ∃ V, un h2 l2 = V := ⟨_, rfl⟩
                have hVlt := un_lt h2 l2
                rw [hVe] at hor2 hVlt
                have hpc : (bs.drop p) = h :: l :: h2 :: l2 :: t2 := by rw [hd'.out.1, ht]
                have hpd : bs.drop (p + 4) = t2 := by rw [show p + 4 = p + 2 + 2 by omega, ← List.drop_drop, hd'.out.2.1, ht]; rfl
                have htl2 : t2.length = n - p - 4 := by have := hd'.out.2.2; rw [ht] at this; simp at this; omega
                have hu2 := u16_sur2 h l h2 l2 t2 (by rw [hUe'.out]; exact hs)
                rw [hUe'.out, hVe] at hu2
                have hpc' := Lib.hid (And.intro hpc (And.intro hpd hu2))
                have gn5 : p + 4 ≤ n := by omega
                clear hpc hpd htl2 hu2 ht hd' hVe hUe' hat3
                go_wp2_with fail
                go_quiet (fail)
                have hI2 := Lib.hid (uinv_draw hI3.out nq)
                generalize w4.drewN nq = w5 at hI2 ⊢
                clear hI3 q2 q3
                go_wp2_with fail
                have hdr2 := decRune U V hs
                by_cases hv : U < 56320 ∧ 56320 ≤ V ∧ V < 57344
                · rw [if_pos hv] at hdr2
                  obtain ⟨r, hr⟩ : ∃ r, 65536 + (U - 55296) * 1024 + (V - 56320) = r := ⟨_, rfl⟩
                  rw [hr] at hdr2
                  have hrr : 65536 ≤ r ∧ r ≤ 1114111 := by omega
                  refine (Pdecode.utf16_DecodeRune.calls _ _ _ _ hdr2).mono ?_
                  rintro e w6 ⟨rfl, hd6⟩
                  have hI6 := Lib.hid (uinv_below hI2.out hd6.below)
                  have hu4 : u16 (bs.drop p) = (u16 (bs.drop (p + 4))).map (enc8 r ++ ·) := by rw [hpc'.out.1, hpc'.out.2.1, hpc'.out.2.2, if_pos hv, hr]
                  have hu4' := Lib.hid hu4
                  clear hI2 hd6 hdr2 hwl2 hor2 hu4 hpc' hr hv hs hUlt hVlt
                  have hI2 := hI6
                  clear hI6
                  have hne : ((r : Int) == 65533) = false := by rw [beq_eq_false_iff_ne]; omega
                  have hne2 : ¬ (r : Int) ≤ 126 := by omega
                  have hq := stepE (dcap := dcap - n - j) (p' := p + 4) hI2.out hpo.out hn'.out hj'.out hwB (by omega) (by omega) (by omega) (show Chr r by unfold Chr; omega) (by have := (enc8_len r hrr.2).1; omega) hu4'.out
                  have hq' := Lib.hid hq
                  clear hq hI2
                  go_wp2_with fail
                  refine hq'.out.mono ?_
                  clear hq'
                  rintro e1 w4 ⟨kk, out', rfl, hkk, hol, hI4⟩
                  have hI4' := Lib.hid hI4
                  have hol' := Lib.hid hol
                  clear hI4 hol
                  go_wp2_with fail
                  go_roundw
                  case rel => exact ⟨p + 4, out', by congr 1 <;> omega, by rw [hol'.out]; congr 1 <;> omega, hI4'⟩
                  case measure => simp only [RowKit.intOf]; omega
                · rw [if_neg hv] at hdr2
                  refine (Pdecode.utf16_DecodeRune.calls _ _ _ _ hdr2).mono ?_
                  rintro e w6 ⟨rfl, hd6⟩
                  have hI6 := Lib.hid (uinv_below hI2.out hd6.below)
                  have hv' := Lib.hid hv
                  clear hI2 hd6 hdr2 hv
                  go_wp2_with fail
                  go_ret
                  obtain ⟨h1, h2, h3, h4, x, h5, h6, h7⟩ := hI6.out
                  refine ⟨h4, ?_⟩
                  rw [hcode'.out, h3, hpc'.out.1, hpc'.out.2.2, if_neg hv'.out]
                  rfl
            · have hsur := Lib.hid (fun W => Pdecode.utf16_IsSurrogate.calls _ false W ((isSur U).trans (by rw [decide_eq_false hs])))
              go_wp2_with fail
              refine (hsur.out _).mono ?_
              rintro e w4 ⟨rfl, hdr⟩
              have hI3 := Lib.hid (uinv_below hI2.out hdr.below)
              have huc := u16_cons h l t (by rw [hUe'.out]; exact hs)
              rw [hUe'.out] at huc
              have huc' := Lib.hid huc
              clear hI2 hat2 hdr hsur hwl hor huc
              by_cases hpr : 32 ≤ U ∧ U ≤ 126
              · have hp1 : (32 : Int) ≤ (U : Int) := by omega
                have hp2 : (U : Int) ≤ 126 := by omega
                have hpr' := Lib.hid hpr
                clear hpr hs
                go_wp2_with fail
                go_ret
                obtain ⟨h1, h2, h3, h4, x, h5, h6, h7⟩ := hI3.out
                refine ⟨h4, ?_⟩
                rw [hcode'.out, h3, hd'.out.1, huc'.out, if_pos hpr'.out]
                rfl
              · have hI2 := hI3
                have hu4 : u16 (bs.drop p) = (u16 (bs.drop (p + 2))).map (enc8 U ++ ·) := by rw [hd'.out.1, hd'.out.2.1, huc'.out, if_neg hpr]
                have hu4' := Lib.hid hu4
                have hchr : Chr U := by unfold Chr; omega
                have hchr' := Lib.hid hchr
                clear hI3 hu4 huc' hd' hUe' hchr
                by_cases hlo : U < 32
                · have hp1 : ¬ (32 : Int) ≤ (U : Int) := by omega
                  clear hpr hs
                  have hq := stepE (dcap := dcap - n - j) (p' := p + 2) hI2.out hpo.out hn'.out hj'.out hwB (by omega) (by omega) (by omega) hchr'.out (by have := (enc8_len U (by omega)).2 hUlt; omega) hu4'.out
                  have hq' := Lib.hid hq
                  clear hq hI2
                  go_wp2_with fail
                  refine hq'.out.mono ?_
                  clear hq'
                  rintro e1 w4 ⟨kk, out', rfl, hkk, hol, hI4⟩
                  have hI4' := Lib.hid hI4
                  have hol' := Lib.hid hol
                  clear hI4 hol
                  go_wp2_with fail
                  go_roundw
                  case rel => exact ⟨p + 2, out', by congr 1 <;> omega, by rw [hol'.out]; congr 1 <;> omega, hI4'⟩
                  case measure => simp only [RowKit.intOf]; omega
                · have hp1 : (32 : Int) ≤ (U : Int) := by omega
                  have hp2 : ¬ (U : Int) ≤ 126 := by omega
                  clear hpr hs
                  have hq := stepE (dcap := dcap - n - j) (p' := p + 2) hI2.out hpo.out hn'.out hj'.out hwB (by omega) (by omega) (by omega) hchr'.out (by have := (enc8_len U (by omega)).2 hUlt; omega) hu4'.out
                  have hq' := Lib.hid hq
                  clear hq hI2
                  go_wp2_with fail
                  refine hq'.out.mono ?_
                  clear hq'
                  rintro e1 w4 ⟨kk, out', rfl, hkk, hol, hI4⟩
                  have hI4' := Lib.hid hI4
                  have hol' := Lib.hid hol
                  clear hI4 hol
                  go_wp2_with fail
                  go_roundw
                  case rel => exact ⟨p + 2, out', by congr 1 <;> omega, by rw [hol'.out]; congr 1 <;> omega, hI4'⟩
                  case measure => simp only [RowKit.intOf]; omega
          · have hpe : p = n := by have := hn'.out; omega
            have gj : (j : Int) ≤ (dcap : Int) - (n : Int) := by omega
            have gj0 : (0 : Int) ≤ (j : Int) := by omega
            clear i1 i3 i4 i5 i6 i7
            subst hpe
            go_wp2_with fail
            go_ret
            obtain ⟨h1, h2, h3, h4, x, h5, h6, h7⟩ := hI.out
            refine ⟨h4, ?_⟩
            rw [hcode'.out, h3, ← hn'.out, List.drop_length]
            show DecR w wq _ (some (out ++ []))
            rw [List.append_nil]
            rw [← hj'.out]
            refine ⟨B, o + bs.length, dcap - bs.length, rfl, hwB, fun i c hc => ?_⟩
            refine h5.cell ?_
            have hlt := (List.getElem?_eq_some_iff.1 hc).1
            have hpl2 : (pre ++ bs).length = o + bs.length := by simp [hpo.out]
            rw [List.append_assoc (pre ++ bs), List.getElem?_append_right (by omega), List.getElem?_append_left (by omega), hpl2, Nat.add_sub_cancel_left]
            exact hc
end Go.Proofs.YtbjhmmiijebehaaDoor.Own

namespace Go.Proofs.YtbjhmmiijebehaaDoor.Own
open Go.RowKit Go.Lib
set_option linter.unusedVariables false
set_option linter.unusedSimpArgs false

/-- What stands ahead of the first hyphen, and behind it; none if there is none, or a line's end comes first. -/
def cut45 : List UInt8 → Option (List UInt8 × List UInt8)
  | [] => none
  | c :: t => if c = 45 then some ([], t) else if c = 13 ∨ c = 10 then none else (cut45 t).map fun p => (c :: p.1, p.2)
theorem cut45_len : ∀ (l a b : List UInt8), cut45 l = some (a, b) → a.length + b.length + 1 = l.length
  | [], a, b, h => by cases h
  | c :: t, a, b, h => by
    unfold cut45 at h
    split at h
    · cases h; simp
    · split at h
      · cases h
      · rcases hc : cut45 t with _ | ⟨x, y⟩
        · rw [hc] at h; cases h
        · rw [hc] at h
          cases h
          have := cut45_len t x y hc
          simp
          omega
/-- The text of bytes in modified UTF-7, as the code reads them; asc: no shift stands right ahead. -/
def tr (fuel : Nat) (asc : Bool) (l : List UInt8) : Option (List UInt8) :=
  match fuel, l with
  | 0, _ => none
  | _ + 1, [] => some []
  | n + 1, c :: t =>
    if c.toNat < 32 ∨ 126 < c.toNat then none
    else if c ≠ 38 then (tr n true t).map (c :: ·)
    else match cut45 t with
      | none => none
      | some (T, r) =>
        if T = [] then (tr n true r).map (38 :: ·)
        else if asc = false then none
        else match codeU T with
          | none => none
          | some b => if b = [] then none else (tr n false r).map (b ++ ·)
theorem tr_more : ∀ (n m : Nat) (asc : Bool) (l : List UInt8), l.length < n → l.length < m → tr n asc l = tr m asc l
  | 0, m, asc, l, h, _ => by omega
  | n + 1, 0, asc, l, _, h => by omega
  | n + 1, m + 1, asc, [], _, _ => rfl
  | n + 1, m + 1, asc, c :: t, hn, hm => by
    simp only [List.length_cons] at hn hm
    rw [tr, tr]
    rw [tr_more n m true t (by omega) (by omega)]
    rcases hc : cut45 t with _ | ⟨T, r⟩
    · rfl
    · have hl := cut45_len t T r hc
      simp only
      rw [tr_more n m true r (by omega) (by omega), tr_more n m false r (by omega) (by omega)]
def trF (asc : Bool) (l : List UInt8) : Option (List UInt8) := tr (l.length + 1) asc l
theorem trF_nil (asc : Bool) : trF asc [] = some [] := rfl
theorem trF_bad (asc : Bool) (c : UInt8) (t : List UInt8) (h : c.toNat < 32 ∨ 126 < c.toNat) : trF asc (c :: t) = none := by
  unfold trF; rw [tr, if_pos h]
theorem trF_plain (asc : Bool) (c : UInt8) (t : List UInt8) (h : ¬ (c.toNat < 32 ∨ 126 < c.toNat)) (h38 : c ≠ 38) : trF asc (c :: t) = (trF true t).map (c :: ·) := by
  unfold trF; rw [tr]; rw [if_neg h, if_pos h38, List.length_cons]
theorem trF_open (asc : Bool) (t : List UInt8) (h : cut45 t = none) : trF asc (38 :: t) = none := by
  unfold trF; rw [tr, if_neg (by decide), if_neg (by decide), h]
theorem trF_amp (asc : Bool) (t r : List UInt8) (h : cut45 t = some ([], r)) : trF asc (38 :: t) = (trF true r).map (38 :: ·) := by
  have hl := cut45_len _ _ _ h
  unfold trF; rw [tr, if_neg (by decide), if_neg (by decide), h]
  show (if ([] : List UInt8) = [] then Option.map (fun x => 38 :: x) (tr (38 :: t).length true r) else _) = _
  rw [if_pos rfl]
  rw [tr_more _ (r.length + 1) true r (by simp at hl ⊢; omega) (by omega)]
theorem trF_shift0 (t T r : List UInt8) (h : cut45 t = some (T, r)) (hT : T ≠ []) : trF false (38 :: t) = none := by
  unfold trF; rw [tr, if_neg (by decide), if_neg (by decide), h]
  simp [hT]
theorem trF_shift1 (t T r : List UInt8) (h : cut45 t = some (T, r)) (hT : T ≠ []) (hc : codeU T = none ∨ codeU T = some []) : trF true (38 :: t) = none := by
  unfold trF; rw [tr, if_neg (by decide), if_neg (by decide), h]
  rcases hc with hc | hc <;> simp [hT, hc]
theorem trF_shift (t T r b : List UInt8) (h : cut45 t = some (T, r)) (hT : T ≠ []) (hc : codeU T = some b) (hb : b ≠ []) : trF true (38 :: t) = (trF false r).map (b ++ ·) := by
  have hl := cut45_len _ _ _ h
  unfold trF; rw [tr, if_neg (by decide), if_neg (by decide), h]
  simp only [hT, if_false, hc, hb]
  rw [tr_more _ (r.length + 1) false r (by simp at hl ⊢; omega) (by omega)]
  simp
set_option maxRecDepth 100000 in
theorem u16_len : ∀ (bs out : List UInt8), u16 bs = some out → 2 * out.length ≤ 3 * bs.length
  | [], out, h => by cases h; simp
  | [_], out, h => by cases h
  | h :: l :: t, out, ho => by
    by_cases hs : 55296 ≤ un h l ∧ un h l < 57344
    · match t with
      | [] => rw [u16_sur1 h l hs] at ho; cases ho
      | [x] => simp [u16] at ho
      | h2 :: l2 :: t =>
        rw [u16_sur2 h l h2 l2 t hs] at ho
        split at ho
        · rename_i hv
          have hbd : 65536 + (un h l - 55296) * 1024 + (un h2 l2 - 56320) ≤ 1114111 := by
            obtain ⟨h1, h2, h3⟩ := hv
            omega
          have h4 := (enc8_len _ hbd).1
          generalize enc8 (65536 + (un h l - 55296) * 1024 + (un h2 l2 - 56320)) = E at h4 ho
          clear hbd hv hs
          rcases hr : u16 t with _ | r
          · rw [hr] at ho; cases ho
          · rw [hr] at ho
            cases ho
            have ih := u16_len t r hr
            simp
            omega
        · cases ho
    · rw [u16_cons h l t hs] at ho
      split at ho
      · cases ho
      · rcases hr : u16 t with _ | r
        · rw [hr] at ho; cases ho
        · rw [hr] at ho
          cases ho
          have ih := u16_len t r hr
          have hlt := un_lt h l
          have h4 := (enc8_len (un h l) (by omega)).2 hlt
          simp
          omega
theorem codeU_len (T b : List UInt8) (h : codeU T = some b) : b.length ≤ 3 * (T.length + 2) := by
  unfold codeU at h
  split at h
  · cases h
  · rcases hd : dec64 (padT T) with _ | bs
    · rw [hd] at h; cases h
    · rw [hd] at h
      simp only at h
      split at h
      · cases h
      · have h1 := u16_len bs b h
        have h2 := dec64_len _ _ hd
        have h3 : (padT T).length ≤ T.length + 3 := by
          unfold padT
          rw [List.length_append]
          split
          · simp
          · split
            · simp
            · split <;> simp
        omega

/-! ### The memory: the bytes out, the decoder, the bytes in -/
def TS (w : World) (B Dc Bs so : Nat) (S l : List UInt8) (asc : Bool) : Prop :=
  Row0 5 w B l ∧ w.heap[Dc]? = some (.cells #[.bool asc] 42 (0, 0)) ∧ ∀ i c, S[i]? = some c → w.cell? ⟨Bs, so + i, none⟩ = some (.int .u8 (c.toNat : Int))
theorem TS.below {w W : World} {B Dc Bs so : Nat} {S l : List UInt8} {asc : Bool} (h : TS w B Dc Bs so S l asc) (hb : Below w.heap.size w W) : TS W B Dc Bs so S l asc :=
  ⟨h.1.below hb, (hb.block Dc (Array.getElem?_eq_some_iff.1 h.2.1).1).trans h.2.1, fun i c hc => (hb.cell (World.block_lt_of_cell? w _ (h.2.2 i c hc))).trans (h.2.2 i c hc)⟩
theorem TS.put {w : World} {B Dc Bs so : Nat} {S l : List UInt8} {asc : Bool} (h : TS w B Dc Bs so S l asc) (h1 : Dc ≠ B) (h2 : Bs ≠ B) (j : Nat) (c : UInt8) : TS (w.setCell ⟨B, j, none⟩ (.int .u8 (c.toNat : Int))) B Dc Bs so S (l.set j c) asc :=
  ⟨h.1.set j c, ((But.setCell B j w (.int .u8 (c.toNat : Int))).2.2.2.2 Dc (Array.getElem?_eq_some_iff.1 h.2.1).1 h1).trans h.2.1, fun i c' hc => (But.setCell B j w _).cell h2 (h.2.2 i c' hc)⟩
theorem TS.mark {w : World} {B Dc Bs so : Nat} {S l : List UInt8} {asc : Bool} (h : TS w B Dc Bs so S l asc) (h1 : Dc ≠ B) (h2 : Bs ≠ Dc) (v : Bool) : TS (w.setCell ⟨Dc, 0, none⟩ (.bool v)) B Dc Bs so S l v :=
  ⟨h.1.other Dc 0 _ h1, by simp [World.setCell, Array.getElem?_modify, h.2.1], fun i c' hc => (But.setCell Dc 0 w _).cell h2 (h.2.2 i c' hc)⟩
theorem TS.asc {w : World} {B Dc Bs so : Nat} {S l : List UInt8} {asc : Bool} (h : TS w B Dc Bs so S l asc) : w.cell? ⟨Dc, 0, none⟩ = some (.bool asc) ∧ w.frozen? ⟨Dc, 0, none⟩ = false := by
  have h' := h.2.1
  constructor
  · simp [World.cell?, h']
  · simp [World.frozen?, h']
end Go.Proofs.YtbjhmmiijebehaaDoor.Own

namespace Go.Proofs.YtbjhmmiijebehaaDoor.Own
open Go.RowKit Go.Lib
set_option linter.unusedVariables false
set_option linter.unusedSimpArgs false

def Tinv (w wr : World) (b0 B Dc Bs so R : Nat) (S out : List UInt8) (asc : Bool) (i : Nat) : Prop :=
  i ≤ S.length ∧ trF true S = (trF asc (S.drop i)).map (out ++ ·) ∧ out.length ≤ 3 * i ∧ Below b0 w wr ∧ ∃ x, TS wr B Dc Bs so S (out ++ x) asc ∧ out.length + x.length = R
def TrR (w' : World) (e : Ending) (B R : Nat) (ev : Value) : Option (List UInt8) → Prop
  | some out => ∃ m : Int, e = .returned (.tuple #[.int .i64 (out.length : Int), .int .i64 m, .nilIface]) ∧ ∃ x, Row0 5 w' B (out ++ x) ∧ out.length + x.length = R
  | none => ∃ n m : Int, e = .returned (.tuple #[.int .i64 n, .int .i64 m, ev])
/-- Behind k signs of a shift. -/
def Scan (l : List UInt8) (k : Nat) : Prop := k ≤ l.length ∧ cut45 l = (cut45 (l.drop k)).map fun p => (l.take k ++ p.1, p.2)
theorem cut45_nl : ∀ (l a b : List UInt8), cut45 l = some (a, b) → ∀ x ∈ a, x ≠ 10 ∧ x ≠ 13
  | [], a, b, h => by cases h
  | c :: t, a, b, h => by
    unfold cut45 at h
    split at h
    · cases h; simp
    · split at h
      · cases h
      · rename_i h1 h2
        rcases hc : cut45 t with _ | ⟨x, y⟩
        · rw [hc] at h; cases h
        · rw [hc] at h
          cases h
          have ih := cut45_nl t x y hc
          intro z hz
          rcases List.mem_cons.1 hz with rfl | hz
          · exact ⟨fun e => h2 (.inr e), fun e => h2 (.inl e)⟩
          · exact ih z hz
theorem scan_step (l t : List UInt8) (k : Nat) (c : UInt8) (h : Scan l k) (hd : l.drop k = c :: t) (h45 : c ≠ 45) (h13 : c ≠ 13) (h10 : c ≠ 10) : Scan l (k + 1) := by
  obtain ⟨h1, h2⟩ := h
  have hlt : k < l.length := by
    have := congrArg List.length hd
    simp at this
    omega
  refine ⟨hlt, ?_⟩
  have hd2 : l.drop (k + 1) = t := by rw [← List.drop_drop, hd]; rfl
  have hk : l[k]? = some c := by
    have := congrArg (·[0]?) hd
    simpa using this
  rw [h2, hd, cut45, if_neg h45, if_neg (by simp [h13, h10]), hd2, List.take_add_one, hk]
  cases cut45 t <;> simp
set_option maxHeartbeats 8000000 in
set_option maxRecDepth 100000 in
theorem transform_any (w : World) (b0 B Dc Bs so scap R dcap : Nat) (S rest0 : List UInt8) (ev : Value) (hB : b0 ≤ B) (hD : b0 ≤ Dc) (hw : b0 ≤ w.heap.size) (hg : 0 < b0)
    (hev : w.cell? ⟨0, 0, none⟩ = some ev) (hDB : Dc ≠ B) (hSB : Bs ≠ B) (hSD : Bs ≠ Dc) (hTS : TS w B Dc Bs so S rest0 true) (hrl : rest0.length = R) (hroom : 3 * S.length + 8 ≤ R) (hR : R < 100000)
    (hL500 : S.length ≤ 3000) (hscap : S.length ≤ scap) (hdcap : R ≤ dcap) :
    Calls Tryd.prog 16 #[.pointer (some ⟨Dc, 0, none⟩), .slice (some ⟨B, 0, none⟩) R dcap, .slice (some ⟨Bs, so, none⟩) S.length scap, .bool true] w fun e w' => Below b0 w w' ∧ TrR w' e B R ev (trF true S) := by
  have hI : Tinv w w b0 B Dc Bs so R S [] true 0 := ⟨by omega, by simp, by simp, Below.refl _ _, rest0, by simpa using hTS, by simpa using hrl⟩
  have hI' := Lib.hid hI
  have hev' := Lib.hid (fun W (hb : Below b0 w W) => (hb.cell (p := ⟨0, 0, none⟩) hg).trans hev)
  have hw' := Lib.hid hw
  obtain ⟨L, hL⟩ : ∃ L, S.length = L := ⟨_, rfl⟩
  rw [hL] at hroom hL500 hscap ⊢
  have hL' := Lib.hid hL
  clear hI hev hw hTS hrl hL
  go_enter Tryd.func16, Tryd.ntmps16
  go_wp2_with fail
  go_loopw [8, 9, 10, 11] (fun s8 s9 s10 s11 wr => ∃ (i m : Nat) (out : List UInt8) (asc : Bool), s11 = .int .i64 (i : Int) ∧ s8 = .int .i64 (out.length : Int) ∧ s9 = .int .i64 (m : Int) ∧ s10 = .nilIface ∧ m ≤ 100000 ∧ m ≤ i ∧ Hid (Tinv w wr b0 B Dc Bs so R S out asc i)) (fun _ _ _ s11 _ => L - (RowKit.intOf s11).toNat)
  case atStart => exact ⟨0, 0, [], true, rfl, rfl, rfl, rfl, by omega, by omega, hI'⟩
  case round =>
    obtain ⟨wq, hwq⟩ : ∃ wq : World, wq = wr := ⟨_, rfl⟩
    rw [← hwq] at hrel ⊢
    clear hwq hI'
    obtain ⟨i, m, out, asc, rfl, rfl, rfl, rfl, hm, hmi, hI⟩ := hrel
    obtain ⟨n, hn⟩ : ∃ n, out.length = n := ⟨_, rfl⟩
    rw [hn]
    have hn' := Lib.hid hn
    clear hn
    by_cases hi : i < L
    · obtain ⟨h1, h2, h3, h4, x, h5, h6⟩ := hI.out
      have hL := hL'.out
      have hn := hn'.out
      obtain ⟨c, t, hd⟩ : ∃ c t, S.drop i = c :: t := by
        rcases hd : S.drop i with _ | ⟨c, t⟩
        · have := congrArg List.length hd; simp at this; omega
        · exact ⟨c, t, rfl⟩
      have hdt : S.drop (i + 1) = t := by rw [← List.drop_drop, hd]; rfl
      have hSi : S[i]? = some c := by have := congrArg (·[0]?) hd; simpa using this
      have q0 := h5.2.2 i c hSi
      have e0 := hev'.out wq h4
      have a0 := h5.asc.1
      have a1 := h5.asc.2
      have hxl : 0 < x.length := by omega
      obtain ⟨x0, x', hx⟩ : ∃ x0 x', x = x0 :: x' := by cases x with | nil => simp at hxl | cons a b => exact ⟨a, b, rfl⟩
      have q1 := h5.1.cell (j := n) (c := x0) (by rw [hx, List.getElem?_append_right (by omega), hn, Nat.sub_self]; rfl)
      have q2 := h5.1.free n
      have gn : (n : Int) + 1 ≤ (R : Int) := by omega
      have gn2 : (n : Int) < (R : Int) := by omega
      have gi : (i : Int) < (L : Int) := by omega
      have gc : (c.toNat : Int) < 256 := by have := UInt8.toNat_lt c; omega
      have h2' := Lib.hid (And.intro h2 (And.intro hd (And.intro hdt (And.intro h3 h4))))
      have h5' := Lib.hid (And.intro h5 (And.intro hx h6))
      clear h2 hd hdt h4 h5 hx h6 hSi hL hn h3 h1
      by_cases hbad : c.toNat < 32 ∨ 126 < c.toNat
      · have hbad' := Lib.hid hbad
        rcases hbad with hb | hb
        · have hb1 : (c.toNat : Int) < 32 := by omega
          clear hb
          go_wp2_with fail
          go_ret3
          obtain ⟨h2, hd, hdt, h3, h4⟩ := h2'.out
          refine ⟨h4, ?_⟩
          rw [h2, hd, trF_bad asc c t hbad'.out]
          exact ⟨_, _, rfl⟩
        · have hb1 : ¬ (c.toNat : Int) < 32 := by omega
          have hb2 : (126 : Int) < (c.toNat : Int) := by omega
          clear hb
          go_wp2_with fail
          go_ret3
          obtain ⟨h2, hd, hdt, h3, h4⟩ := h2'.out
          refine ⟨h4, ?_⟩
          rw [h2, hd, trF_bad asc c t hbad'.out]
          exact ⟨_, _, rfl⟩
      · have hb1 : ¬ (c.toNat : Int) < 32 := by omega
        have hb2 : ¬ (126 : Int) < (c.toNat : Int) := by omega
        have hbad' := Lib.hid hbad
        clear hbad
        by_cases h38 : c = 38
        · have n38 : ((c.toNat : Int) != 38) = false := by rw [h38]; rfl
          have h38' := Lib.hid h38
          clear h38 q1 q2 e0
          go_wp2_with fail
          go_loopw [10, 11] (fun s10 s11 wl => ∃ k : Nat, s10 = .nilIface ∧ s11 = .int .i64 ((i + 1 + k : Nat) : Int) ∧ Hid (Scan t k) ∧ wl = wq) (fun _ s11 _ => L - (RowKit.intOf s11).toNat)
          case atStart => exact ⟨0, rfl, by congr 1 <;> omega, Lib.hid ⟨by omega, by simp⟩, rfl⟩
          case round =>
            obtain ⟨k, rfl, rfl, hS, hwl⟩ := hrel
            rw [hwl]
            clear hwl
            have htl : t.length = L - i - 1 := by have := congrArg List.length h2'.out.2.1; have := hL'.out; simp at *; omega
            have hgk0 : i + 1 + k ≤ L := by have := hS.out.1; omega
            have e0 := hev'.out wq h2'.out.2.2.2.2
            by_cases hend : i + 1 + k = L
            · have g1 : ¬ (i : Int) + 1 + (k : Int) < (L : Int) := by omega
              have g2 : ((i : Int) + 1 + (k : Int) == (L : Int)) = true := by rw [beq_iff_eq]; omega
              have hcut := Lib.hid (show cut45 t = none by rw [hS.out.2, List.drop_eq_nil_of_le (by omega)]; rfl)
              clear hend htl hgk0
              go_wp2_with fail
              go_ret3
              obtain ⟨h2, hd, hdt, h3, h4⟩ := h2'.out
              refine ⟨h4, ?_⟩
              rw [h2, hd, h38'.out, trF_open asc t hcut.out]
              exact ⟨_, _, rfl⟩
            have hgk : i + 1 + k < L := by omega
            obtain ⟨d, td, htd⟩ : ∃ d td, t.drop k = d :: td := by
              rcases htd : t.drop k with _ | ⟨d, td⟩
              · have := congrArg List.length htd; simp at this; omega
              · exact ⟨d, td, rfl⟩
            have hStd : S[i + 1 + k]? = some d := by
              have h1 := congrArg (·[0]?) htd
              have h2 := h2'.out.2.2.1
              simp only [List.getElem?_drop, Nat.add_zero] at h1
              rw [← h2, List.getElem?_drop] at h1
              exact h1
            have q3 := h5'.out.1.2.2 _ d hStd
            have g1 : (i : Int) + 1 + (k : Int) < (L : Int) := by omega
            have g2 : ((i : Int) + 1 + (k : Int) == (L : Int)) = false := by rw [beq_eq_false_iff_ne]; omega
            have htd' := Lib.hid htd
            clear hend htd hStd
            by_cases h45 : d = 45
            · have n45 : ((d.toNat : Int) != 45) = false := by rw [h45]; rfl
              have htl2 : td = t.drop (k + 1) := by rw [← List.drop_drop, htd'.out]; rfl
              have hcut := Lib.hid (show cut45 t = some (t.take k, t.drop (k + 1)) by rw [hS.out.2, htd'.out, h45, cut45, if_pos rfl, ← htl2]; simp)
              clear h45 htl2 htd'
              by_cases hk0 : k = 0
              · have g3 : ((i : Int) + 1 + (k : Int) == (i : Int) + 1) = true := by rw [beq_iff_eq]; omega
                have gr1 : (n : Int) + 1 ≤ (R : Int) := by omega
                have hk0' := Lib.hid hk0
                clear hk0 htl hgk0
                have hTSa := h5'.out.1.below ((Below.refl _ _).alloc (Nat.le_refl _) (.cells #[.int .u8 38] 5))
                have a2 := hTSa.asc.1
                have a3 := hTSa.asc.2
                have hbq := h2'.out.2.2.2.2
                have hszq : b0 ≤ wq.heap.size := Nat.le_trans hw'.out hbq.size
                have hTSm := Lib.hid (hTSa.mark hDB hSD true)
                have hTSlt := h5'.out.1.1.lt
                have hbm := Lib.hid (show Below b0 w ((wq.alloc (.cells #[.int .u8 38] 5)).setCell ⟨Dc, 0, none⟩ (.bool true)) from (hbq.alloc hszq _).setCell hD _)
                have hDlt : Dc ≠ wq.heap.size := by have := (Array.getElem?_eq_some_iff.1 h5'.out.1.2.1).1; omega
                have hcl : ((wq.alloc (.cells #[.int .u8 38] 5)).setCell ⟨Dc, 0, none⟩ (.bool true)).cell? ⟨wq.heap.size, 0, none⟩ = some (.int .u8 38) := by
                  have h0 : (wq.alloc (.cells #[.int .u8 38] 5)).cell? ⟨wq.heap.size, 0, none⟩ = some (.int .u8 38) := (cell_of_row _ _ 0 _ _ _ (heap_alloc_new _ _)).trans rfl
                  exact (But.setCell Dc 0 _ (.bool true)).cell hDlt.symm h0
                have hcl' := Lib.hid hcl
                have hBb : wq.heap.size ≠ B := by omega
                have hnb := Lib.hid (show ([38] : List UInt8).length = 1 from rfl)
                clear hTSa hbq hszq hcl hTSlt a0 a1
                go_wp2_with fail
                generalize (wq.alloc (.cells #[.int .u8 38] 5)).setCell ⟨Dc, 0, none⟩ (.bool true) = wb at hTSm hbm hcl' ⊢
                obtain ⟨Bb, hBbe⟩ : ∃ Bb, wq.heap.size = Bb := ⟨_, rfl⟩
                rw [hBbe] at hBb hcl' ⊢
                have hTSb := Lib.hid (show ∃ x2, TS wb B Dc Bs so S (out ++ x2) true ∧ n + 0 + x2.length = R ∧ Below b0 w wb from ⟨x, hTSm.out, by have := h5'.out.2.2; have := hn'.out; omega, hbm.out⟩)
                have hbc := Lib.hid (show ∀ j y, ([38] : List UInt8)[j]? = some y → wb.cell? ⟨Bb, j, none⟩ = some (.int .u8 (y.toNat : Int)) from fun j y hy => by
                  match j, hy with
                  | 0, h => cases h; exact hcl'.out
                  | j + 1, h => simp at h)
                have hcut0 := Lib.hid (show cut45 t = some ([], t.drop (k + 1)) by have := hcut.out; rw [hk0'.out] at this ⊢; simpa using this)
                clear hTSm hbm hcl' a2 a3 q0 q3
                go_loopw [8, 130] (fun s8 s130 wl => ∃ q : Nat, q ≤ 1 ∧ s130 = .int .i64 (q : Int) ∧ s8 = .int .i64 ((n + q : Nat) : Int) ∧ Hid (∃ x2, TS wl B Dc Bs so S ((out ++ (([38] : List UInt8)).take q) ++ x2) true ∧ n + q + x2.length = R ∧ Below b0 w wl ∧ ∀ j y, (([38] : List UInt8))[j]? = some y → wl.cell? ⟨Bb, j, none⟩ = some (.int .u8 (y.toNat : Int)))) (fun _ s130 _ => 1 - (RowKit.intOf s130).toNat)
                case atStart => exact ⟨0, by omega, rfl, by simp, Lib.hid (by obtain ⟨x2, u1, u2, u3⟩ := hTSb.out; exact ⟨x2, by simpa using u1, u2, u3, hbc.out⟩)⟩
                case round =>
                  obtain ⟨wz, hwz⟩ : ∃ wz : World, wz = wr := ⟨_, rfl⟩
                  rw [← hwz] at hrel ⊢
                  clear hwz hTSb hbc
                  obtain ⟨q, hqn, rfl, rfl, hQ⟩ := hrel
                  by_cases hq : q < 1
                  · obtain ⟨x2, u1, u2, u3, u4⟩ := hQ.out
                    obtain ⟨y, hy⟩ : ∃ y, (([38] : List UInt8))[q]? = some y := ⟨_, List.getElem?_eq_getElem (by have := hnb.out; omega)⟩
                    have r0 := u4 q y hy
                    have hln := hn'.out
                    have hlb := hnb.out
                    have hlq : (out ++ (([38] : List UInt8)).take q).length = n + q := by rw [List.length_append, List.length_take]; omega
                    obtain ⟨z0, z', hz⟩ : ∃ z0 z', x2 = z0 :: z' := by cases x2 with | nil => simp at u2; omega | cons a b => exact ⟨a, b, rfl⟩
                    have r1 := u1.1.cell (j := n + q) (c := z0) (by rw [hz, List.getElem?_append_right (by omega), hlq, Nat.sub_self]; rfl)
                    have r2 := u1.1.free (n + q)
                    have gq : (q : Int) < (1 : Int) := by omega
                    have gq2 : (n : Int) + (q : Int) < (R : Int) := by rw [hz] at u2; simp at u2; omega
                    have hst := Lib.hid (And.intro u1 (And.intro u2 (And.intro u3 (And.intro u4 (And.intro hz (And.intro hlq hy))))))
                    clear u1 u2 u3 u4 hz hlq hy hln hlb
                    go_wp2_with fail
                    go_roundw
                    case rel =>
                      obtain ⟨u1, u2, u3, u4, hz, hlq, hy⟩ := hst.out
                      rw [hz] at u1 u2
                      have hTS2 := u1.put hDB hSB (n + q) y
                      have hset : ((out ++ (([38] : List UInt8)).take q) ++ z0 :: z').set (n + q) y = (out ++ (([38] : List UInt8)).take (q + 1)) ++ z' := by
                        rw [List.set_append_right _ _ (by omega), hlq, Nat.sub_self, List.take_add_one, hy]; simp
                      rw [hset] at hTS2
                      exact ⟨q + 1, by omega, by congr 1 <;> omega, by congr 1 <;> omega, Lib.hid ⟨z', hTS2, by simp at u2; omega, u3.setCell hB _, fun j y' hy' => (But.setCell B (n + q) wz _).cell hBb (u4 j y' hy')⟩⟩
                    case measure => simp only [RowKit.intOf]; omega
                  · have hqe : q = 1 := by omega
                    rw [hqe] at hQ ⊢
                    clear hqe hq hqn
                    go_wp2_with fail
                    go_roundw
                    case rel =>
                      obtain ⟨x2, u1, u2, u3, u4⟩ := hQ.out
                      obtain ⟨h2, hd, hdt, h3, h4⟩ := h2'.out
                      rw [List.take_of_length_le (by have := hnb.out; omega)] at u1
                      have hpd : S.drop (i + 1 + k + 1) = t.drop (k + 1) := by rw [← hdt, List.drop_drop]; try (congr 1 <;> omega)
                      have hol : (out ++ (([38] : List UInt8))).length = n + 1 := by rw [List.length_append, hn'.out, hnb.out]
                      refine ⟨i + 1 + k + 1, i + 1 + k + 1, out ++ (([38] : List UInt8)), true, by congr 1 <;> omega, by rw [hol], by congr 1 <;> omega, rfl, by have := hgk; omega, by omega, Lib.hid ⟨by have := hL'.out; have := hgk; omega, ?_, by rw [hol]; have := hn'.out; omega, u3, x2, u1, by rw [hol]; omega⟩⟩
                      have hcc := hcut.out
                      rw [h2, hd, h38'.out, trF_amp asc t _ hcut0.out, hpd]
                      cases trF true (t.drop (k + 1)) <;> simp
                    case measure => simp only [RowKit.intOf]; omega
              · have g3 : ((i : Int) + 1 + (k : Int) == (i : Int) + 1) = false := by rw [beq_eq_false_iff_ne]; omega
                have hTl : (t.take k).length = k := by rw [List.length_take]; omega
                have hTne : t.take k ≠ [] := fun h => by rw [h] at hTl; exact hk0 hTl.symm
                have hTne' := Lib.hid hTne
                clear hTne
                cases asc with
                | false =>
                  clear hTl hk0 htl hgk0
                  go_wp2_with fail
                  go_ret3
                  obtain ⟨h2, hd, hdt, h3, h4⟩ := h2'.out
                  refine ⟨h4, ?_⟩
                  rw [h2, hd, h38'.out, trF_shift0 t _ _ hcut.out hTne'.out]
                  exact ⟨_, _, rfl⟩
                | true =>
                  obtain ⟨kk, hkk⟩ : ∃ kk, k = kk + 1 := ⟨k - 1, by omega⟩
                  have hcells0 : ∀ j x, (t.take k)[j]? = some x → wq.cell? ⟨Bs, so + (i + 1) + j, none⟩ = some (.int .u8 (x.toNat : Int)) := fun j x hx => by
                    have hlt := (List.getElem?_eq_some_iff.1 hx).1
                    rw [List.getElem?_take_of_lt (by omega)] at hx
                    have := h5'.out.1.2.2 (i + 1 + j) x (by rw [← h2'.out.2.2.1, List.getElem?_drop] at hx; exact hx)
                    rw [show so + (i + 1) + j = so + (i + 1 + j) by omega]
                    exact this
                  have hdec := dec_any wq Bs (so + (i + 1)) (scap - (i + 1)) kk (t.take k) (by rw [hTl, hkk]) (by omega) (by omega) (cut45_nl t _ _ hcut.out) hcells0
                  have hdec' := Lib.hid hdec
                  have gk : i + 1 + k - (i + 1) = kk + 1 := by omega
                  have gs1 : (i : Int) + 1 + (k : Int) ≤ (scap : Int) := by omega
                  have gs2 : ¬ scap = i + 1 := by omega
                  have hkk' := Lib.hid hkk
                  have hTl' := Lib.hid hTl
                  clear hdec hcells0 hkk hTl hk0 htl hgk0
                  go_wp2_with fail
                  refine hdec'.out.mono ?_
                  clear hdec'
                  rintro e1 wb ⟨hbb, hDR⟩
                  have hbq := h2'.out.2.2.2.2
                  have hszq : b0 ≤ wq.heap.size := Nat.le_trans hw'.out hbq.size
                  have hTSa := h5'.out.1.below hbb
                  have a2 := hTSa.asc.1
                  have a3 := hTSa.asc.2
                  have hTSm := Lib.hid (hTSa.mark hDB hSD false)
                  have hbm := Lib.hid (show Below b0 w (wb.setCell ⟨Dc, 0, none⟩ (.bool false)) from (hbq.trans (hbb.mono hszq)).setCell hD _)
                  have e2 := hev'.out _ hbm.out
                  have hBlt := h5'.out.1.1.lt
                  have hDlt := (Array.getElem?_eq_some_iff.1 h5'.out.1.2.1).1
                  clear hTSa hbq a0 a1 e0 q0 q3
                  rcases hcU : codeU (t.take k) with _ | bb
                  · rw [hcU] at hDR
                    obtain rfl : e1 = .returned (.slice none 0 0) := hDR
                    have hcU' := Lib.hid hcU
                    clear hcU hbb
                    go_wp2_with fail
                    go_ret3
                    obtain ⟨h2, hd, hdt, h3, h4⟩ := h2'.out
                    refine ⟨hbm.out, ?_⟩
                    rw [h2, hd, h38'.out, trF_shift1 t _ _ hcut.out hTne'.out (.inl hcU'.out)]
                    exact ⟨_, _, rfl⟩
                  · rw [hcU] at hDR
                    obtain ⟨Bb, ob, cb, rfl, hBge, hcb⟩ := hDR
                    obtain ⟨nb, hnb0⟩ : ∃ nb, bb.length = nb := ⟨_, rfl⟩
                    rw [hnb0]
                    have hnb := Lib.hid hnb0
                    have hcU' := Lib.hid hcU
                    have hbl := codeU_len _ _ hcU
                    rw [hTl'.out, hnb0] at hbl
                    clear hcU hnb0
                    by_cases hb0 : nb = 0
                    · have hbn : bb = [] := List.eq_nil_of_length_eq_zero (by rw [hnb.out, hb0])
                      have hbn' := Lib.hid hbn
                      have z0 : ((nb : Int) == 0) = true := by rw [hb0]; rfl
                      clear hbn hcb hbb
                      go_wp2_with fail
                      go_ret3
                      obtain ⟨h2, hd, hdt, h3, h4⟩ := h2'.out
                      refine ⟨hbm.out, ?_⟩
                      rw [h2, hd, h38'.out, trF_shift1 t _ _ hcut.out hTne'.out (.inr (by rw [hcU'.out, hbn'.out]))]
                      exact ⟨_, _, rfl⟩
                    · have z0 : ((nb : Int) == 0) = false := by rw [beq_eq_false_iff_ne]; omega
                      have hbn : bb ≠ [] := fun h => hb0 (by rw [← hnb.out, h]; rfl)
                      have hbn' := Lib.hid hbn
                      have hBb : Bb ≠ B := by omega
                      have hDb : Bb ≠ Dc := by omega
                      have hn3 := h2'.out.2.2.2.1
                      have hnn := hn'.out
                      have gr1 : (n : Int) + (nb : Int) ≤ (R : Int) := by omega
                      have hbl' := Lib.hid hbl
                      have hTSb := Lib.hid (show ∃ x2, TS (wb.setCell ⟨Dc, 0, none⟩ (.bool false)) B Dc Bs so S (out ++ x2) false ∧ n + 0 + x2.length = R ∧ Below b0 w (wb.setCell ⟨Dc, 0, none⟩ (.bool false)) from ⟨x, hTSm.out, by have := h5'.out.2.2; have := hn'.out; omega, hbm.out⟩)
                      have hbc := Lib.hid (show ∀ j y, bb[j]? = some y → (wb.setCell ⟨Dc, 0, none⟩ (.bool false)).cell? ⟨Bb, ob + j, none⟩ = some (.int .u8 (y.toNat : Int)) from fun j y hy => (But.setCell Dc 0 wb _).cell hDb (hcb j y hy))
                      clear hbn hcb hbb hTSm hbm e2 hb0 hbl hn3 hnn hBge
                      go_wp2_with fail
                      generalize wb.setCell ⟨Dc, 0, none⟩ (.bool false) = wv at hTSb hbc ⊢
                      clear a2 a3
                      go_loopw [8, 130] (fun s8 s130 wl => ∃ q : Nat, q ≤ nb ∧ s130 = .int .i64 (q : Int) ∧ s8 = .int .i64 ((n + q : Nat) : Int) ∧ Hid (∃ x2, TS wl B Dc Bs so S ((out ++ (bb).take q) ++ x2) false ∧ n + q + x2.length = R ∧ Below b0 w wl ∧ ∀ j y, (bb)[j]? = some y → wl.cell? ⟨Bb, ob + j, none⟩ = some (.int .u8 (y.toNat : Int)))) (fun _ s130 _ => nb - (RowKit.intOf s130).toNat)
                      case atStart => exact ⟨0, by omega, rfl, by simp, Lib.hid (by obtain ⟨x2, u1, u2, u3⟩ := hTSb.out; exact ⟨x2, by simpa using u1, u2, u3, hbc.out⟩)⟩
                      case round =>
                        obtain ⟨wz, hwz⟩ : ∃ wz : World, wz = wr := ⟨_, rfl⟩
                        rw [← hwz] at hrel ⊢
                        clear hwz hTSb hbc
                        obtain ⟨q, hqn, rfl, rfl, hQ⟩ := hrel
                        by_cases hq : q < nb
                        · obtain ⟨x2, u1, u2, u3, u4⟩ := hQ.out
                          obtain ⟨y, hy⟩ : ∃ y, (bb)[q]? = some y := ⟨_, List.getElem?_eq_getElem (by have := hnb.out; omega)⟩
                          have r0 := u4 q y hy
                          have hln := hn'.out
                          have hlb := hnb.out
                          have hlq : (out ++ (bb).take q).length = n + q := by rw [List.length_append, List.length_take]; omega
                          obtain ⟨z0, z', hz⟩ : ∃ z0 z', x2 = z0 :: z' := by cases x2 with | nil => simp at u2; omega | cons a b => exact ⟨a, b, rfl⟩
                          have r1 := u1.1.cell (j := n + q) (c := z0) (by rw [hz, List.getElem?_append_right (by omega), hlq, Nat.sub_self]; rfl)
                          have r2 := u1.1.free (n + q)
                          have gq : (q : Int) < (nb : Int) := by omega
                          have gq2 : (n : Int) + (q : Int) < (R : Int) := by rw [hz] at u2; simp at u2; omega
                          have hst := Lib.hid (And.intro u1 (And.intro u2 (And.intro u3 (And.intro u4 (And.intro hz (And.intro hlq hy))))))
                          clear u1 u2 u3 u4 hz hlq hy hln hlb
                          go_wp2_with fail
                          go_roundw
                          case rel =>
                            obtain ⟨u1, u2, u3, u4, hz, hlq, hy⟩ := hst.out
                            rw [hz] at u1 u2
                            have hTS2 := u1.put hDB hSB (n + q) y
                            have hset : ((out ++ (bb).take q) ++ z0 :: z').set (n + q) y = (out ++ (bb).take (q + 1)) ++ z' := by
                              rw [List.set_append_right _ _ (by omega), hlq, Nat.sub_self, List.take_add_one, hy]; simp
                            rw [hset] at hTS2
                            exact ⟨q + 1, by omega, by congr 1 <;> omega, by congr 1 <;> omega, Lib.hid ⟨z', hTS2, by simp at u2; omega, u3.setCell hB _, fun j y' hy' => (But.setCell B (n + q) wz _).cell hBb (u4 j y' hy')⟩⟩
                          case measure => simp only [RowKit.intOf]; omega
                        · have hqe : q = nb := by omega
                          rw [hqe] at hQ ⊢
                          clear hqe hq hqn
                          go_wp2_with fail
                          go_roundw
                          case rel =>
                            obtain ⟨x2, u1, u2, u3, u4⟩ := hQ.out
                            obtain ⟨h2, hd, hdt, h3, h4⟩ := h2'.out
                            rw [List.take_of_length_le (by have := hnb.out; omega)] at u1
                            have hpd : S.drop (i + 1 + k + 1) = t.drop (k + 1) := by rw [← hdt, List.drop_drop]; try (congr 1 <;> omega)
                            have hol : (out ++ (bb)).length = n + nb := by rw [List.length_append, hn'.out, hnb.out]
                            refine ⟨i + 1 + k + 1, i + 1 + k + 1, out ++ (bb), false, by congr 1 <;> omega, by rw [hol], by congr 1 <;> omega, rfl, by have := hgk; omega, by omega, Lib.hid ⟨by have := hL'.out; have := hgk; omega, ?_, by rw [hol]; have := hn'.out; have := hbl'.out; omega, u3, x2, u1, by rw [hol]; omega⟩⟩
                            have hcc := hcut.out
                            rw [h2, hd, h38'.out, trF_shift t _ _ bb hcut.out hTne'.out hcU'.out hbn'.out, hpd]
                            cases trF false (t.drop (k + 1)) <;> simp
                          case measure => simp only [RowKit.intOf]; omega
            · have n45 : ((d.toNat : Int) != 45) = true := by have := cell_ne h45; rw [bne, show (45 : Int) = ((45 : UInt8).toNat : Int) from rfl, this]; rfl
              by_cases hnl : d = 13 ∨ d = 10
              · have hnl' := Lib.hid hnl
                have h45' := Lib.hid h45
                have hres : cut45 t = none := by
                  rw [hS.out.2, htd'.out, cut45, if_neg h45, if_pos hnl]; rfl
                have hres' := Lib.hid hres
                clear h45 hres
                rcases hnl with hnl | hnl
                · have n13 : ((d.toNat : Int) == 13) = true := by rw [hnl]; rfl
                  clear hnl
                  go_wp2_with fail
                  go_ret3
                  obtain ⟨h2, hd, hdt, h3, h4⟩ := h2'.out
                  refine ⟨h4, ?_⟩
                  rw [h2, hd, h38'.out, trF_open asc t hres'.out]
                  exact ⟨_, _, rfl⟩
                · have n13 : ((d.toNat : Int) == 13) = false := by rw [hnl]; rfl
                  have n10 : ((d.toNat : Int) == 10) = true := by rw [hnl]; rfl
                  clear hnl
                  go_wp2_with fail
                  go_ret3
                  obtain ⟨h2, hd, hdt, h3, h4⟩ := h2'.out
                  refine ⟨h4, ?_⟩
                  rw [h2, hd, h38'.out, trF_open asc t hres'.out]
                  exact ⟨_, _, rfl⟩
              · have n13 : ((d.toNat : Int) == 13) = false := cell_ne (fun h => hnl (.inl h))
                have n10 : ((d.toNat : Int) == 10) = false := cell_ne (fun h => hnl (.inr h))
                have hst := Lib.hid (scan_step t td k d hS.out htd'.out h45 (fun h => hnl (.inl h)) (fun h => hnl (.inr h)))
                clear h45 hnl
                go_wp2_with fail
                go_roundw
                case rel => exact ⟨k + 1, rfl, by congr 1 <;> omega, hst, trivial⟩
                case measure => simp only [RowKit.intOf]; omega
        · have n38 : ((c.toNat : Int) != 38) = true := by have := cell_ne h38; rw [bne, show (38 : Int) = ((38 : UInt8).toNat : Int) from rfl, this]; rfl
          have h38' := Lib.hid h38
          clear h38
          go_wp2_with fail
          go_roundw
          case rel =>
            obtain ⟨h2, hd, hdt, h3, h4⟩ := h2'.out
            obtain ⟨h5, hx, h6⟩ := h5'.out
            rw [hx] at h5 h6
            have hTS1 := (h5.put hDB hSB n c).mark hDB hSD true
            have hset : (out ++ x0 :: x').set n c = (out ++ [c]) ++ x' := by
              rw [List.set_append_right _ _ (by have := hn'.out; omega), hn'.out, Nat.sub_self]; simp
            rw [hset] at hTS1
            refine ⟨i + 1, m + 1, out ++ [c], true, by congr 1 <;> omega, ?_, by congr 1 <;> omega, rfl, by omega, by omega, Lib.hid ⟨by have := hL'.out; omega, ?_, by simp; have := hn'.out; omega, (h4.setCell hB _).setCell hD _, x', hTS1, by simp at h6 ⊢; omega⟩⟩
            · rw [List.length_append, hn'.out]; congr 1 <;> simp
            · rw [h2, hd, trF_plain asc c t hbad'.out h38'.out, hdt]
              cases trF true t <;> simp
          case measure => simp only [RowKit.intOf]; omega
    · have hie : i = L := by have := hI.out.1; have := hL'.out; omega
      obtain ⟨h1, h2, h3, h4, x, h5, h6⟩ := hI.out
      have a0 := h5.asc.1
      have a1 := h5.asc.2
      have hq := Lib.hid (And.intro h2 (And.intro h4 (And.intro h5 h6)))
      clear h2 h3 h4 h5 h6 h1
      subst hie
      go_wp2_with fail
      go_ret3
      obtain ⟨h2, h4, h5, h6⟩ := hq.out
      refine ⟨h4.setCell hD _, ?_⟩
      rw [h2, ← hL'.out, List.drop_length, trF_nil]
      show TrR _ _ B R ev (some (out ++ []))
      rw [List.append_nil]
      exact ⟨m, by rw [hn'.out]; rfl, x, (h5.mark hDB hSD true).1, h6⟩
end Go.Proofs.YtbjhmmiijebehaaDoor.Own

namespace Go.Proofs.YtbjhmmiijebehaaDoor.Own
open Go.RowKit Go.Lib
set_option linter.unusedVariables false
set_option linter.unusedSimpArgs false

theorem run_str (W : World) (B cap : Nat) (out x : List UInt8) (h : Row0 5 W B (out ++ x)) :
    (convert 38 9 (.slice (some ⟨B, 0, none⟩) out.length cap)).run Tryd.prog W = .ok (.string ⟨out.toArray⟩) W :=
  run_convert_bytes_back (P := Tryd.prog) W 38 9 5 ⟨B, 0, none⟩ cap out Tryd.underlying38 Tryd.underlying5 Tryd.underlying9 (fun j hj => by
    have hadd : (⟨B, 0, none⟩ : Addr).add j = ⟨B, j, none⟩ := by unfold Addr.add; split <;> simp_all
    rw [hadd]
    exact h.cell (by rw [List.getElem?_append_left hj]; exact List.getElem?_eq_getElem hj))
def DcR (w' : World) (e : Ending) (ev : Value) : Option (List UInt8) → Prop
  | some out => e = .returned (.tuple #[.string ⟨out.toArray⟩, .nilIface])
  | none => e = .returned (.tuple #[.string ⟨#[]⟩, ev])
set_option maxHeartbeats 4000000 in
set_option maxRecDepth 100000 in
theorem decodeU_any (s : ByteArray) (hs : s.size ≤ 3000) (w : World) (et : TypeId) (evv : Value) (hg : 0 < w.heap.size)
    (hev : w.cell? ⟨0, 0, none⟩ = some (.iface et evv)) :
    Calls Tryd.prog 11 #[.string s] w fun e w' => Below w.heap.size w w' ∧ DcR w' e (.iface et evv) (trF true s.data.toList) := by
  obtain ⟨N, hN⟩ : ∃ N, 3 * s.size + 8 = N := ⟨_, rfl⟩
  have hNR : 3 * (s.size : Int) + 8 = (N : Int) := by omega
  have hmk : ∀ W, (Instr.makeSlice 38 (.int .i64 (N : Int)) (.int .i64 (N : Int))).run Tryd.prog W = .ok (.slice (some ⟨W.heap.size, 0, none⟩) N N) (W.alloc (.cells (madeCells #[.int .u8 0] N) 5)) := make_u8 N (by omega)
  have hconv := fun W => Lib.run_convert_string_bytes (P := Tryd.prog) W 9 38 5 s Tryd.underlying9 Tryd.underlying38 Tryd.underlying5
  obtain ⟨Z, hZ⟩ : ∃ Z, madeCells #[Value.int .u8 0] N = Z := ⟨_, rfl⟩
  rw [hZ] at hmk
  have hrow := row_made w N
  rw [hZ] at hrow
  have hrow' := Lib.hid hrow
  have hev' := Lib.hid hev
  clear hrow hev
  go_enter Tryd.func11, Tryd.ntmps11
  go_wp2_with fail
  have hsl : s.data.toList.length = s.size := by simp
  have hb1 : Below w.heap.size w ((w.alloc (Obj.cells Z 5)).alloc (Obj.cells #[Value.bool true] 42)) := ((Below.refl _ _).alloc (Nat.le_refl _) _).alloc (by simp) _
  have hbW := below_conv ((w.alloc (Obj.cells Z 5)).alloc (Obj.cells #[Value.bool true] 42)) 5 s
  have hsz2 : ((w.alloc (Obj.cells Z 5)).alloc (Obj.cells #[Value.bool true] 42)).heap.size = w.heap.size + 1 + 1 := by simp
  have hcell := fun j (hj : j < s.size) => Lib.bytesWorld_cell ((w.alloc (Obj.cells Z 5)).alloc (Obj.cells #[Value.bool true] 42)) 5 s j hj
  rw [hsz2] at hcell
  have hbT : Below w.heap.size w (Lib.bytesWorld ((w.alloc (Obj.cells Z 5)).alloc (Obj.cells #[Value.bool true] 42)) 5 s) := hb1.trans (hbW.mono hb1.size)
  have hD1 : ((w.alloc (Obj.cells Z 5)).alloc (Obj.cells #[Value.bool true] 42)).heap[w.heap.size + 1]? = some (.cells #[.bool true] 42 (0, 0)) := by
    have := heap_alloc_new (w.alloc (Obj.cells Z 5)) (Obj.cells #[Value.bool true] 42)
    simpa using this
  have hcapG : s.size ≤ grownCap ((w.alloc (Obj.cells Z 5)).alloc (Obj.cells #[Value.bool true] 42)) s.size 0 5 := grownCap_ge _ _ _ _
  generalize grownCap ((w.alloc (Obj.cells Z 5)).alloc (Obj.cells #[Value.bool true] 42)) s.size 0 5 = G at hcapG ⊢
  have hTS : TS (Lib.bytesWorld ((w.alloc (Obj.cells Z 5)).alloc (Obj.cells #[Value.bool true] 42)) 5 s) w.heap.size (w.heap.size + 1) (w.heap.size + 1 + 1) 0 s.data.toList (List.replicate N 0) true := by
    refine ⟨?_, ?_, fun i c hc => ?_⟩
    · have h0 := hrow'.out.below ((Below.refl _ _).alloc (Nat.le_refl _) (Obj.cells #[Value.bool true] 42))
      exact h0.below hbW
    · exact (hbW.block _ (by rw [hsz2]; omega)).trans hD1
    · have hlt := (List.getElem?_eq_some_iff.1 hc).1
      rw [Nat.zero_add, hcell i (by omega), List.getD_eq_getElem?_getD, hc]
      rfl
  generalize Lib.bytesWorld ((w.alloc (Obj.cells Z 5)).alloc (Obj.cells #[Value.bool true] 42)) 5 s = WT at hbT hTS ⊢
  have hevT := (hbT.cell hg).trans hev'.out
  have hq := transform_any WT w.heap.size w.heap.size (w.heap.size + 1) (w.heap.size + 1 + 1) 0 G N N s.data.toList (List.replicate N 0) _ (by omega) (by omega) hbT.size hg hevT (by omega) (by omega) (by omega) hTS (by simp) (by omega) (by omega) (by omega) (by omega) (Nat.le_refl _)
  rw [hsl] at hq
  have hbT' := Lib.hid hbT
  refine hq.mono ?_
  clear hq hTS hevT hcell hb1 hbW hD1 hbT hconv hmk hrow' hsz2
  rintro e w2 ⟨hb2, hD⟩
  have hb3 := Lib.hid (hbT'.out.trans hb2)
  clear hb2
  rcases htr : trF true s.data.toList with _ | out
  · rw [htr] at hD
    obtain ⟨n, m, rfl⟩ := hD
    have htr' := Lib.hid htr
    clear htr
    go_wp2_with fail
    go_ret2
    refine ⟨hb3.out, ?_⟩
    rw [htr'.out]
    rfl
  · rw [htr] at hD
    obtain ⟨m, rfl, x, hx, hxN⟩ := hD
    have hst := run_str w2 w.heap.size N out x hx
    have hxl : out.length ≤ N := by omega
    have htr' := Lib.hid htr
    clear htr hx
    go_wp2_with fail
    go_ret2
    refine ⟨hb3.out, ?_⟩
    rw [htr'.out]
    rfl
/-- What the package says of bytes. -/
def fromP (s : ByteArray) : ByteArray × Bool := match trF true s.data.toList with
  | some out => (⟨out.toArray⟩, true)
  | none => (⟨#[]⟩, false)
set_option maxHeartbeats 1000000 in
theorem fromUtf7_any (s : ByteArray) (hs : s.size ≤ 3000) (w : World) (et : TypeId) (evv : Value) (hg : 0 < w.heap.size)
    (hev : w.cell? ⟨0, 0, none⟩ = some (.iface et evv)) :
    Calls Tryd.prog 6 #[.string s] w fun e w' => e = .returned (.tuple #[.string (fromP s).1, .bool (fromP s).2]) ∧ Below w.heap.size w w' := by
  have hc := Lib.hid (decodeU_any s hs w et evv hg hev)
  clear hev hg
  go_enter Tryd.func6, Tryd.ntmps6
  go_wp2_with fail
  refine hc.out.mono ?_
  clear hc
  rintro e w1 ⟨hb, hD⟩
  have hb' := Lib.hid hb
  clear hb
  rcases htr : trF true s.data.toList with _ | out
  · rw [htr] at hD
    have hD' : e = .returned (.tuple #[.string ⟨#[]⟩, .iface et evv]) := hD
    subst hD'
    have hP : fromP s = (⟨#[]⟩, false) := by unfold fromP; rw [htr]
    have hP' := Lib.hid hP
    clear hP htr hD
    go_wp2_with fail
    go_quiet (fail)
    go_wp2_with fail
    go_ret2
    rw [hP'.out]
    exact ⟨rfl, hb'.out.trans ⟨rfl, rfl, rfl, Nat.le_refl _, fun _ _ => rfl⟩⟩
  · rw [htr] at hD
    have hD' : e = .returned (.tuple #[.string ⟨out.toArray⟩, .nilIface]) := hD
    subst hD'
    have hP : fromP s = (⟨out.toArray⟩, true) := by unfold fromP; rw [htr]
    have hP' := Lib.hid hP
    clear hP htr hD
    go_wp2_with fail
    go_quiet (fail)
    go_wp2_with fail
    go_ret2
    rw [hP'.out]
    exact ⟨rfl, hb'.out.trans ⟨rfl, rfl, rfl, Nat.le_refl _, fun _ _ => rfl⟩⟩
end Go.Proofs.YtbjhmmiijebehaaDoor.Own
