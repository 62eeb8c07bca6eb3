/- Seq.String and impl.SeqText: how a range is written. -/
import Derived.Test.YtnokeaiemiiicaaDoorFmtU
import Derived.Lib.OwnKind
import Derived.Deep.DeepCutAuto
import Derived.Laws.MakeOwn
import Derived.Deep.AppendLies
import Derived.OwnWalk
import Derived.KernelRfl
namespace Go.Proofs.YtnokeaiemiiicaaDoor.Own
open Go.RowKit Go.Sort Go.Lib
set_option linter.unusedVariables false
set_option linter.unusedSimpArgs false

theorem info_u8 : (Tryd.prog.info? 5).map (fun i => (i.zero, i.size, i.bytes)) = some (some (.int .u8 0), 1, 1) := by kernel_rfl
theorem conv_row (w : World) (B g n cap : Nat) (L : List UInt8) (hn : n = L.length) (h : w.ownsRow B 5 1 (.slice (some ⟨g, 0, none⟩) n cap) n (Lib.byteCells L)) :
    (convert 54 9 (.slice (some ⟨g, 0, none⟩) n cap)).run Tryd.prog w = .ok (.string ⟨L.toArray⟩) w := by
  subst hn
  exact run_convert_bytes_back (P := Tryd.prog) w 54 9 5 ⟨g, 0, none⟩ cap L Tryd.underlying54 Tryd.underlying5 Tryd.underlying9 (fun j hj => by
    have := h.cells (g := g) rfl j (Value.int .u8 (L[j].toNat : Int)) (by simp [Lib.byteCells, hj])
    exact this)
theorem byteCells_app (l m : List UInt8) : Lib.byteCells (l ++ m) = Lib.byteCells l ++ Lib.byteCells m := by simp [Lib.byteCells]
theorem dec_pos (a : Nat) : 0 < (Lib.decDigits a).length := by
  rw [Lib.decDigits_length]
  by_cases h : a < 10
  · rw [Lib.nDigits_small h]; omega
  · rw [Lib.nDigits_big (by omega)]; omega
abbrev TabB (w : World) : Prop := Lib.TabBelow Tryd.prog w.heap.size w "internal/strconv.uint64pow10" .u64 Lib.pow10Tab
def seqL (a b : Nat) : List UInt8 := if a = b then (if a = 0 then [42] else Lib.decDigits a) else if b = 0 then Lib.decDigits a ++ [58, 42] else Lib.decDigits a ++ (58 :: Lib.decDigits b)

set_option maxRecDepth 1000000 in
set_option maxHeartbeats 4000000 in
theorem seqString_any (a b : Nat) (ha : a < 4294967296) (hb : b < 4294967296) (w : World) (htab : TabB w) :
    Calls Tryd.prog 35 #[.agg #[.int .u32 a, .int .u32 b]] w fun e w' => e = .returned (.string ⟨(seqL a b).toArray⟩) ∧ Below w.heap.size w w' := by
  have htab' := Lib.hid htab
  clear htab
  by_cases hab : a = b
  · subst hab
    by_cases h0 : a = 0
    · subst h0
      go_enter Tryd.func35, Tryd.ntmps35
      go_wp2
      go_ret
      exact ⟨rfl, (Below.refl _ _).alloc (Nat.le_refl _) _⟩
    · have hs : seqL a a = Lib.decDigits a := by unfold seqL; rw [if_pos rfl, if_neg h0]
      rw [hs]
      have h0' : ((a : Int) == 0) = false := by rw [beq_eq_false_iff_ne]; omega
      have hbel : ∀ o, Below w.heap.size w (w.alloc o) := fun o => (Below.refl _ _).alloc (Nat.le_refl _) o
      have hc := Lib.hid (fun o => fmtU_any a (by omega) (w.alloc o) ((htab'.out.on (hbel o)).here))
      clear hbel hs
      have h1 := Lib.hid h0
      clear h0
      go_enter Tryd.func35, Tryd.ntmps35
      go_wp2_with (go_at_call 53; refine (hc.out _).mono ?_; rintro e w1 ⟨rfl, hb1⟩)
      go_ret
      exact ⟨rfl, ((Below.refl _ _).alloc (Nat.le_refl _) _).trans (hb1.mono (by simp))⟩
  · have hab' : ((a : Int) == (b : Int)) = false := by rw [beq_eq_false_iff_ne]; omega
    have hab2 := Lib.hid hab
    clear hab
    go_enter Tryd.func35, Tryd.ntmps35
    go_upto_region 5 with (fail)
    obtain ⟨w1, hw1⟩ : ∃ w1 : World, w1 = w.alloc (.cells #[.int .u32 a, .int .u32 b] 47) := ⟨_, rfl⟩
    have hca : w1.cell? ⟨w.heap.size, 0, none⟩ = some (.int .u32 a) := by rw [hw1]; simp [go_sem]
    have hcb : w1.cell? ⟨w.heap.size, 1, none⟩ = some (.int .u32 b) := by rw [hw1]; simp [go_sem]
    have hb1 := Lib.hid (show Below w.heap.size w w1 by rw [hw1]; exact (Below.refl _ _).alloc (Nat.le_refl _) _)
    have hs1 : w1.heap.size = w.heap.size + 1 := by rw [hw1]; simp
    have htb1 := Lib.hid (show TabB w1 from fun W hW => htab'.out W (hb1.out.trans (hW.mono (by omega))))
    rw [← hw1]
    clear hw1
    have hs1' := Lib.hid hs1
    have hsl : w.heap.size < w1.heap.size := by omega
    clear hs1
    obtain ⟨i0, hi, hz0, hz1, hz2⟩ := info_parts info_u8
    obtain ⟨Z, hZ, hZs⟩ : ∃ Z : Array Value, Z = madeCells (Value.int .u8 0).cells (24 * i0.size) ∧ Z.size = 24 := ⟨_, rfl, by rw [size_madeCells, hz1]⟩
    have hmk : ∀ W, (Instr.makeSlice 54 (.int .i64 0) (.int .i64 24)).run Tryd.prog W = .ok (.slice (some ⟨W.heap.size, 0, none⟩) 0 24) (W.alloc (.cells Z 5)) := fun W => by
      have := run_makeSlice (P := Tryd.prog) (w := W) 54 5 i0 (.int .u8 0) Tryd.underlying54 hi hz0 .i64 .i64 0 24 (by omega) (by omega) (by rw [hz1]; decide) (by rw [hz2]; decide) (by omega)
      rw [hZ]
      exact this
    have hrow0 := Lib.hid (World.ownsRow_made (base := w1.heap.size) (e := 5) (size := 1) w1 Z 24 (Nat.le_refl _) (by decide) (by rw [hZs]))
    have happ := Lib.hid (fun (W : World) (hr : W.ownsRow w1.heap.size 5 1 (.slice (some ⟨w1.heap.size, 0, none⟩) 0 24) 0 []) (hbl : Below w1.heap.size w1 W) => appU_any w1.heap.size 0 a (by omega) _ [] W hr hbl.size (by omega) ((htb1.out.on hbl).here))
    have hbz := Lib.hid ((Below.refl w1.heap.size w1).alloc (Nat.le_refl _) (.cells Z 5))
    clear hZ hZs hi hz0 hz1 hz2
    have hwa : IntKind.u64.wrap (a : Int) = (a : Int) := by rw [IntKind.wrap_u64]; omega
    have hwb : IntKind.u64.wrap (b : Int) = (b : Int) := by rw [IntKind.wrap_u64]; omega
    go_cut [3] (fun s3 wx => ∃ v, s3 = v ∧ wx.ownsRow w1.heap.size 5 1 v (Lib.decDigits a).length (Lib.byteCells (Lib.decDigits a)) ∧ Below w1.heap.size w1 wx)
    case first =>
      go_region_with ((go_at_call 54; (refine (happ.out _ hrow0.out.drew hbz.out.drew).mono ?_; rintro e w2 ⟨v2, rfl, hown2, hb2⟩)))
      all_goals
        go_wp2_with fail
        go_meet
        exact ⟨v2, rfl, (by simpa using hown2), hbz.out.drew.trans hb2⟩
    case rest =>
    obtain ⟨v, rfl, hown, hbx⟩ := hcut
    have hown' := Lib.hid hown
    have hbx' := Lib.hid hbx
    have hcax := (hbx.cell (p := ⟨w.heap.size, 0, none⟩) hsl).trans hca
    have hcbx := (hbx.cell (p := ⟨w.heap.size, 1, none⟩) hsl).trans hcb
    clear hown hbx hca hcb happ hmk hbz hrow0
    obtain ⟨i0, hi, hz0, hz1, hz2⟩ := info_parts info_u8
    have hpos := dec_pos a
    have hlen : (Lib.decDigits a).length ≤ 20 := by
      rw [Lib.decDigits_length]
      by_cases h1 : 1 ≤ a
      · have := Lib.numDigits_eq a h1 (by omega); split at this <;> omega
      · rw [Lib.nDigits_small (by omega)]; omega
    have hbs := hbx'.out.size
    by_cases h0 : b = 0
    · have hb0 : ((b : Int) == 0) = true := by rw [h0]; rfl
      have hsq := Lib.hid (show seqL a b = Lib.decDigits a ++ [58, 42] by unfold seqL; rw [if_neg hab2.out, if_pos h0])
      have h0' := Lib.hid h0
      clear h0
      obtain ⟨n, hn⟩ : ∃ n, n = (Lib.decDigits a).length := ⟨_, rfl⟩
      rw [← hn] at hown' hpos hlen
      have hn' := Lib.hid hn
      clear hn
      have hnw : ∀ j u, [Value.int .u8 58, Value.int .u8 42][j]? = some u → (wc.alloc (.cells #[.int .u8 58, .int .u8 42] 5)).cell? ((⟨wc.heap.size, 0, none⟩ : Addr).add j) = some u := fun j u hj => by
        match j, hj with
        | 0, hj => simp at hj; subst hj; simp [go_sem]
        | 1, hj => simp at hj; subst hj; simp [go_sem]
      have hnw' := Lib.hid hnw
      have hone : ∀ u ∈ [Value.int .u8 58, Value.int .u8 42], u.oneCell' = true := by intro u hu; simp at hu; rcases hu with rfl | rfl <;> rfl
      have hone' := Lib.hid hone
      have hrow1 := Lib.hid hown'.out.lt
      clear hnw hone
      go_wp2_with (first
        | (at_builtin; (refine wpList_append_own _ rfl _ _ 54 rfl w1.heap.size 5 i0 (.int .u8 0) 1 1 Tryd.underlying54 hi hz0 hz1 hz2 rfl (by decide) _ _ _ rfl (hown'.out.alloc _) ⟨wc.heap.size, 0, none⟩ 2 2 [.int .u8 58, .int .u8 42] rfl rfl hnw'.out hone'.out (by unfold maxLen; omega) (by omega) (by simp; omega) ?_; intro v' w2 hown2 hgrow2 hnil2; obtain ⟨g, cap, rfl, hg1, hg2⟩ := World.ownsRow.form hown2 (show 0 < n + 2 by omega); have hcv := (conv_row w2 w1.heap.size g (n + 2) cap (Lib.decDigits a ++ [58, 42]) (by rw [List.length_append, ← hn'.out]; rfl) (by rw [byteCells_app]; exact hown2)); have hb2 := (Lib.hid (show Below w1.heap.size w1 w2 from (hbx'.out.alloc hbs _).grown hgrow2 (by simp; omega) (fun k e => (hrow1.out k e).1)))))
        | fail)
      go_ret
      refine ⟨?_, hb1.out.trans (hb2.out.mono (by omega))⟩
      show Ending.returned (Value.string ⟨(Lib.decDigits a ++ [58, 42]).toArray⟩) = _
      rw [hsq.out]
    · have hb0 : ((b : Int) == 0) = false := by rw [beq_eq_false_iff_ne]; omega
      have hsq := Lib.hid (show seqL a b = Lib.decDigits a ++ (58 :: Lib.decDigits b) by unfold seqL; rw [if_neg hab2.out, if_neg h0])
      have h0' := Lib.hid h0
      clear h0
      obtain ⟨n, hn⟩ : ∃ n, n = (Lib.decDigits a).length := ⟨_, rfl⟩
      rw [← hn] at hown' hpos hlen
      have hn' := Lib.hid hn
      clear hn
      have hrow1 := Lib.hid hown'.out.lt
      have hrowA := hown'.out.alloc (.cells #[.int .u8 58] 5)
      have hnw : ∀ j u, [Value.int .u8 58][j]? = some u → (wc.alloc (.cells #[.int .u8 58] 5)).cell? ((⟨wc.heap.size, 0, none⟩ : Addr).add j) = some u := fun j u hj => by
        match j, hj with
        | 0, hj => simp at hj; subst hj; simp [go_sem]
      have hnw' := Lib.hid hnw
      have hrowA' := Lib.hid hrowA
      have hbA := Lib.hid (hbx'.out.alloc hbs (.cells #[.int .u8 58] 5))
      clear hnw hrowA
      have hcb1 := Lib.hid ((hbx'.out.cell (p := ⟨w.heap.size, 1, none⟩) hsl).symm.trans hcbx)
      have happ2 := Lib.hid (fun (W : World) (sv : Value) (hr : W.ownsRow w1.heap.size 5 1 sv (n + 1) (Lib.byteCells (Lib.decDigits a) ++ [.int .u8 58])) (hbl : Below w1.heap.size w1 W) => appU_any w1.heap.size (n + 1) b (by omega) sv _ W hr hbl.size (by omega) ((htb1.out.on hbl).here))
      have hcbA : (wc.alloc (.cells #[.int .u8 58] 5)).cell? ⟨w.heap.size, 1, none⟩ = some (.int .u32 b) := (hbA.out.cell (p := ⟨w.heap.size, 1, none⟩) hsl).trans hcb1.out
      go_upto_region 8 with (fail)
      go_region_law (first
        | ((refine step_append_lies _ rfl (.tmp 28) (.tmp 29) 54 rfl w1.heap.size 5 i0 (.int .u8 0) 1 1 Tryd.underlying54 hi hz0 hz1 hz2 rfl (by decide) u3 n (Lib.byteCells (Lib.decDigits a)) (by simp [Act.eval, Act.put]) (by first | exact hrowA'.out | exact hrowA'.out.drew | exact hrowA'.out.drew.drew) ⟨wc.heap.size, 0, none⟩ 1 1 [.int .u8 58] (by simp [Act.eval, Act.put]) rfl hnw'.out (by intro u hu; simp at hu; subst hu; rfl) (by omega) (by unfold maxLen; omega) (by omega) (by simp; omega) (wc.heap.size + 1) (by simp) ?_; intro g cap w2 hown2 hgrow2 hloc2 hlt2; have hb2 := (Lib.hid (show Below w1.heap.size w1 w2 from (show Below w1.heap.size w1 _ by first | exact hbA.out | exact hbA.out.drew | exact hbA.out.drew.drew).grown hgrow2 (by simp; omega) (fun k e => (hrow1.out k e).1))); have hcb2 := ((hb2.out.cell (p := ⟨w.heap.size, 1, none⟩) hsl).trans hcb1.out)))
        | (go_simp; go_at_call 54; (refine (happ2.out _ _ (by first | exact hown2 | exact hown2.drew | exact hown2.drew.drew) (by first | exact hb2.out | exact hb2.out.drew | exact hb2.out.drew.drew)).mono ?_; rintro e w4 ⟨v4, rfl, hown4, hb4⟩; obtain ⟨g4, cap4, rfl, hg4, hg5⟩ := World.ownsRow.form hown4 (by omega); have hcv := (conv_row w4 w1.heap.size g4 (n + 1 + (Lib.decDigits b).length) cap4 (Lib.decDigits a ++ (58 :: Lib.decDigits b)) (by rw [List.length_append, List.length_cons, ← hn'.out]; omega) (by rw [byteCells_app, show Lib.byteCells (58 :: Lib.decDigits b) = [Value.int .u8 58] ++ Lib.byteCells (Lib.decDigits b) from rfl, ← List.append_assoc]; exact hown4)); have hb6 := (Lib.hid (hb2.out.trans hb4)))))
      all_goals
        go_wp2
        go_ret
        refine ⟨?_, hb1.out.trans (hb6.out.mono (by omega))⟩
        show Ending.returned (Value.string ⟨(Lib.decDigits a ++ (58 :: Lib.decDigits b)).toArray⟩) = _
        rw [hsq.out]

theorem seqText_any (a b : Nat) (ha : a < 4294967296) (hb : b < 4294967296) (w : World) (htab : TabB w) :
    Calls Tryd.prog 15 #[.agg #[.int .u32 a, .int .u32 b]] w fun e w' => e = .returned (.string ⟨(seqL a b).toArray⟩) ∧ Below w.heap.size w w' := by
  have hbel : ∀ o, Below w.heap.size w (w.alloc o) := fun o => (Below.refl _ _).alloc (Nat.le_refl _) o
  have hc := Lib.hid (fun o => seqString_any a b ha hb (w.alloc o) (fun W hW => htab W ((hbel o).trans (hW.mono (by simp)))))
  obtain ⟨L, hL⟩ : ∃ L, L = (seqL a b).toArray := ⟨_, rfl⟩
  rw [← hL] at hc ⊢
  clear hL htab
  have hbel' := Lib.hid hbel
  clear hbel
  go_enter Tryd.func15, Tryd.ntmps15
  go_wp2_with (go_at_call 35; refine (hc.out _).mono ?_; rintro e w1 ⟨rfl, hb1⟩)
  go_ret
  exact ⟨rfl, (hbel'.out _).trans (hb1.mono (by simp))⟩
end Go.Proofs.YtnokeaiemiiicaaDoor.Own
