/- strconv.FormatUint and AppendUint at base 10, over the shelf's contracts. Seq.String and impl.SeqText: how a range is written. spec.Number9 by hand: a number's decimal numeral. spec.SeqText9 by hand: how a range is written, plainly. How ranges are written, as callees of a printed text: impl.SeqText and spec.SeqText9, under the table that the library reads. What the row lists of the library's table of powers, as the callees ask it. -/
import Derived.Test.YtajifebphcgcpaaDoorShelf
import Derived.Test.YtajifebphcgcpaaDoorProg
import Derived.Test.YtajifebphcgcpaaDoorMB
import Derived.Test.YtajifebphcgcpaaDoorRows
import Derived.Lib.Walk
import Derived.Lib.ItoaMem
import Derived.Lib.AppendIntMem
import Derived.WalkKit
import Derived.BigCall
import Derived.BigGuard
import Derived.Lib.OwnKind
import Derived.Deep.DeepCutAuto
import Derived.Laws.MakeOwn
import Derived.Deep.AppendLies
import Derived.OwnWalk
import Derived.KernelRfl
import Derived.WalkSpells
import Derived.WalkSmall
import Derived.Lib.ItoaNum
import Derived.Lib.ConvBytes
import Derived.Lib.Hide
import Derived.Below
import Derived.Laws.BytesArg
import Derived.Deep.QuietTactic
import Derived.BigQuiet
import Derived.Lib.LaidU8
import Derived.MakeChecks
namespace Go.Proofs.YtajifebphcgcpaaDoor.Own
open Go.RowKit Go.Sort Go.Lib
set_option linter.unusedVariables false
set_option linter.unusedSimpArgs false

theorem fmtU_in_small (i : Nat) (hi : i < 100) (w : World) :
    Calls Tryd.prog 49 #[.int .u64 i, .int .i64 10] w fun e w' => e = .returned (.string ⟨(Lib.decDigits i).toArray⟩) ∧ w' = w := by
  go_enter Tryd.func49, Tryd.ntmps49
  go_wp2_with (go_at_call 55; refine (Tryd.internal_strconv_small i hi _).mono ?_; rintro e w' ⟨rfl, rfl⟩)
  go_ret
  exact ⟨rfl, rfl⟩

set_option maxHeartbeats 6400000 in
set_option maxRecDepth 100000 in
theorem fmtU_in_big (u : Nat) (hu : 100 ≤ u) (hu64 : u < 18446744073709551616) (w : World) (htab : Lib.TabIs Tryd.prog w "internal/strconv.uint64pow10" .u64 Lib.pow10Tab) :
    Calls Tryd.prog 49 #[.int .u64 u, .int .i64 10] w fun e w' => e = .returned (.string ⟨(Lib.decDigits u).toArray⟩) ∧ Below w.heap.size w w' := by
  have hu1 : 1 ≤ u := by omega
  have hnd20 : Lib.nDigits u ≤ 20 := by have := Lib.numDigits_eq u hu1 hu64; split at this <;> omega
  have hal : Tryd.prog.arrayLen 93 = 24 := by kernel_rfl
  have hsl : ∀ W, (Instr.sliceAt 93 (.pointer (some ⟨w.heap.size, 0, none⟩)) none (some (.int .i64 (Lib.nDigits u : Int))) none).run Tryd.prog W = .ok (.slice (some ⟨w.heap.size, 0, none⟩) (Lib.nDigits u) 24) W := fun W => by
    rw [run_sliceAt_array_h W 93 ⟨w.heap.size, 0, none⟩ (by kernel_rfl) .i64 (Lib.nDigits u : Int) (by omega) (by rw [hal]; omega), hal]
    go_simp
  have hH0 := Lib.holds_zero0 w 93 (Lib.nDigits u) (by omega)
  have hfmt := Tryd.internal_strconv_formatBase10 w.heap.size 0 24 u (Array.replicate (Lib.nDigits u) 0) (w.alloc (.cells Lib.zeros24 93)) hH0 (by rw [Array.size_replicate]; exact Lib.lt_pow_nDigits u) hu64 (by rw [Array.size_replicate]; omega)
  rw [Array.size_replicate] at hfmt
  have HH0 := Lib.hid hH0
  have iu : (100 : Int) ≤ (u : Int) := by omega
  clear hH0 hal
  go_enter Tryd.func49, Tryd.ntmps49
  go_wp2_with (go_at_call 56; refine (Tryd.internal_strconv_numDigits u hu1 hu64 _ (Lib.tabIs_alloc htab _)).mono ?_; rintro e w' ⟨rfl, rfl⟩)
  go_at_call 57
  refine hfmt.mono ?_
  rintro e w' ⟨rfl, k, v', dk, rfl, hF⟩
  have hcv : (convert 74 9 (.slice (some ⟨w.heap.size, 0, none⟩) (Lib.nDigits u) 24)).run Tryd.prog ((putRow (fun (b : UInt8) => Value.int .u8 (b.toNat : Int)) (w.alloc (.cells Lib.zeros24 93)) w.heap.size 0 dk).drewN k) = .ok (.string ⟨(Lib.decDigits u).toArray⟩) ((putRow (fun (b : UInt8) => Value.int .u8 (b.toNat : Int)) (w.alloc (.cells Lib.zeros24 93)) w.heap.size 0 dk).drewN k) := by
    have h := run_convert_bytes_back (P := Tryd.prog) ((putRow (fun (b : UInt8) => Value.int .u8 (b.toNat : Int)) (w.alloc (.cells Lib.zeros24 93)) w.heap.size 0 dk).drewN k) 74 9 5 ⟨w.heap.size, 0, none⟩ 24 (Lib.decDigits u) Tryd.underlying74 Tryd.underlying5 Tryd.underlying9 (fun j hj => by
      rw [Lib.row_is_numeral hF j hj, Lib.add_plain, World.cell?_drewN]
      exact cell?_putRow (fun (b : UInt8) => Value.int .u8 (b.toNat : Int)) _ w.heap.size 0 _ dk HH0.out (by rw [hF.size, Array.size_replicate]) j (by rw [hF.size]; rw [Lib.decDigits_length] at hj; exact hj))
    rw [Lib.decDigits_length] at h
    exact h
  obtain ⟨os, eo⟩ := Lib.fin_at w (.cells Lib.zeros24 93) dk k 0
  have hb := Lib.hid (show Below w.heap.size w ((putRow (fun (b : UInt8) => Value.int .u8 (b.toNat : Int)) (w.alloc (.cells Lib.zeros24 93)) w.heap.size 0 dk).drewN k) by rw [eo]; exact Lib.below_grow w.heap.size w (Nat.le_refl _) k os)
  clear eo
  go_wp2
  go_ret
  exact ⟨rfl, hb.out⟩

theorem fmtU_any (u : Nat) (hu64 : u < 18446744073709551616) (w : World) (htab : Lib.TabIs Tryd.prog w "internal/strconv.uint64pow10" .u64 Lib.pow10Tab) :
    Calls Tryd.prog 41 #[.int .u64 u, .int .i64 10] w fun e w' => e = .returned (.string ⟨(Lib.decDigits u).toArray⟩) ∧ Below w.heap.size w w' := by
  have h : Calls Tryd.prog 49 #[.int .u64 u, .int .i64 10] w fun e w' => e = .returned (.string ⟨(Lib.decDigits u).toArray⟩) ∧ Below w.heap.size w w' := by
    by_cases hs : u < 100
    · exact (fmtU_in_small u hs w).mono (by rintro e w' ⟨rfl, rfl⟩; exact ⟨rfl, Below.refl _ _⟩)
    · exact fmtU_in_big u (by omega) hu64 w htab
  have h' := Lib.hid h
  clear h htab
  go_enter Tryd.func41, Tryd.ntmps41
  go_wp2_with (go_at_call 49; refine h'.out.mono ?_; rintro e w' ⟨rfl, hb⟩)
  go_ret
  exact ⟨rfl, hb⟩

theorem appU_any (B n u : Nat) (hu64 : u < 18446744073709551616) (sv : Value) (xs : List Value) (w : World) (hown : w.ownsRow B 5 1 sv n xs) (hBw : B ≤ w.heap.size) (hlim : n + 20 ≤ 140737488355328)
    (htab : Lib.TabIs Tryd.prog w "internal/strconv.uint64pow10" .u64 Lib.pow10Tab) :
    Calls Tryd.prog 42 #[sv, .int .u64 u, .int .i64 10] w fun e w' => ∃ v', e = .returned v' ∧ w'.ownsRow B 5 1 v' (n + (Lib.decDigits u).length) (xs ++ Lib.byteCells (Lib.decDigits u)) ∧ Below B w w' := by
  have h' := Lib.hid (Tryd.internal_strconv_AppendUint_10 B n u hu64 sv xs w hown hBw hlim htab)
  clear hown htab
  go_enter Tryd.func42, Tryd.ntmps42
  go_wp2_with (go_at_call 50; refine h'.out.mono ?_; rintro e w' ⟨v', rfl, hown', hb, _⟩)
  go_ret
  exact ⟨v', rfl, hown', hb⟩
end Go.Proofs.YtajifebphcgcpaaDoor.Own

namespace Go.Proofs.YtajifebphcgcpaaDoor.Own
open Go.RowKit Go.Sort Go.Lib
set_option linter.unusedVariables false
set_option linter.unusedSimpArgs false

theorem info_u8 : (Tryd.prog.info? 5).map (fun i => (i.zero, i.size, i.bytes)) = some (some (.int .u8 0), 1, 1) := by kernel_rfl
theorem conv_row (w : World) (B g n cap : Nat) (L : List UInt8) (hn : n = L.length) (h : w.ownsRow B 5 1 (.slice (some ⟨g, 0, none⟩) n cap) n (Lib.byteCells L)) :
    (convert 74 9 (.slice (some ⟨g, 0, none⟩) n cap)).run Tryd.prog w = .ok (.string ⟨L.toArray⟩) w := by
  subst hn
  exact run_convert_bytes_back (P := Tryd.prog) w 74 9 5 ⟨g, 0, none⟩ cap L Tryd.underlying74 Tryd.underlying5 Tryd.underlying9 (fun j hj => by
    have := h.cells (g := g) rfl j (Value.int .u8 (L[j].toNat : Int)) (by simp [Lib.byteCells, hj])
    exact this)
theorem byteCells_app (l m : List UInt8) : Lib.byteCells (l ++ m) = Lib.byteCells l ++ Lib.byteCells m := by simp [Lib.byteCells]
theorem dec_pos (a : Nat) : 0 < (Lib.decDigits a).length := by
  rw [Lib.decDigits_length]
  by_cases h : a < 10
  · rw [Lib.nDigits_small h]; omega
  · rw [Lib.nDigits_big (by omega)]; omega
abbrev TabB (w : World) : Prop := Lib.TabBelow Tryd.prog w.heap.size w "internal/strconv.uint64pow10" .u64 Lib.pow10Tab
def seqL (a b : Nat) : List UInt8 := if a = b then (if a = 0 then [42] else Lib.decDigits a) else if b = 0 then Lib.decDigits a ++ [58, 42] else Lib.decDigits a ++ (58 :: Lib.decDigits b)

set_option maxRecDepth 1000000 in
set_option maxHeartbeats 4000000 in
theorem seqString_any (a b : Nat) (ha : a < 4294967296) (hb : b < 4294967296) (w : World) (htab : TabB w) :
    Calls Tryd.prog 26 #[.agg #[.int .u32 a, .int .u32 b]] w fun e w' => e = .returned (.string ⟨(seqL a b).toArray⟩) ∧ Below w.heap.size w w' := by
  have htab' := Lib.hid htab
  clear htab
  by_cases hab : a = b
  · subst hab
    by_cases h0 : a = 0
    · subst h0
      go_enter Tryd.func26, Tryd.ntmps26
      go_wp2
      go_ret
      exact ⟨rfl, (Below.refl _ _).alloc (Nat.le_refl _) _⟩
    · have hs : seqL a a = Lib.decDigits a := by unfold seqL; rw [if_pos rfl, if_neg h0]
      rw [hs]
      have h0' : ((a : Int) == 0) = false := by rw [beq_eq_false_iff_ne]; omega
      have hbel : ∀ o, Below w.heap.size w (w.alloc o) := fun o => (Below.refl _ _).alloc (Nat.le_refl _) o
      have hc := Lib.hid (fun o => fmtU_any a (by omega) (w.alloc o) ((htab'.out.on (hbel o)).here))
      clear hbel hs
      have h1 := Lib.hid h0
      clear h0
      go_enter Tryd.func26, Tryd.ntmps26
      go_wp2_with (go_at_call 41; refine (hc.out _).mono ?_; rintro e w1 ⟨rfl, hb1⟩)
      go_ret
      exact ⟨rfl, ((Below.refl _ _).alloc (Nat.le_refl _) _).trans (hb1.mono (by simp))⟩
  · have hab' : ((a : Int) == (b : Int)) = false := by rw [beq_eq_false_iff_ne]; omega
    have hab2 := Lib.hid hab
    clear hab
    go_enter Tryd.func26, Tryd.ntmps26
    go_upto_region 5 with (fail)
    obtain ⟨w1, hw1⟩ : ∃ w1 : World, w1 = w.alloc (.cells #[.int .u32 a, .int .u32 b] 50) := ⟨_, rfl⟩
    have hca : w1.cell? ⟨w.heap.size, 0, none⟩ = some (.int .u32 a) := by rw [hw1]; simp [go_sem]
    have hcb : w1.cell? ⟨w.heap.size, 1, none⟩ = some (.int .u32 b) := by rw [hw1]; simp [go_sem]
    have hb1 := Lib.hid (show Below w.heap.size w w1 by rw [hw1]; exact (Below.refl _ _).alloc (Nat.le_refl _) _)
    have hs1 : w1.heap.size = w.heap.size + 1 := by rw [hw1]; simp
    have htb1 := Lib.hid (show TabB w1 from fun W hW => htab'.out W (hb1.out.trans (hW.mono (by omega))))
    rw [← hw1]
    clear hw1
    have hs1' := Lib.hid hs1
    have hsl : w.heap.size < w1.heap.size := by omega
    clear hs1
    obtain ⟨i0, hi, hz0, hz1, hz2⟩ := info_parts info_u8
    obtain ⟨Z, hZ, hZs⟩ : ∃ Z : Array Value, Z = madeCells (Value.int .u8 0).cells (24 * i0.size) ∧ Z.size = 24 := ⟨_, rfl, by rw [size_madeCells, hz1]⟩
    have hmk : ∀ W, (Instr.makeSlice 74 (.int .i64 0) (.int .i64 24)).run Tryd.prog W = .ok (.slice (some ⟨W.heap.size, 0, none⟩) 0 24) (W.alloc (.cells Z 5)) := fun W => by
      have := run_makeSlice (P := Tryd.prog) (w := W) 74 5 i0 (.int .u8 0) Tryd.underlying74 hi hz0 .i64 .i64 0 24 (by omega) (by omega) (by rw [hz1]; decide) (by rw [hz2]; decide) (by omega)
      rw [hZ]
      exact this
    have hrow0 := Lib.hid (World.ownsRow_made (base := w1.heap.size) (e := 5) (size := 1) w1 Z 24 (Nat.le_refl _) (by decide) (by rw [hZs]))
    have happ := Lib.hid (fun (W : World) (hr : W.ownsRow w1.heap.size 5 1 (.slice (some ⟨w1.heap.size, 0, none⟩) 0 24) 0 []) (hbl : Below w1.heap.size w1 W) => appU_any w1.heap.size 0 a (by omega) _ [] W hr hbl.size (by omega) ((htb1.out.on hbl).here))
    have hbz := Lib.hid ((Below.refl w1.heap.size w1).alloc (Nat.le_refl _) (.cells Z 5))
    clear hZ hZs hi hz0 hz1 hz2
    have hwa : IntKind.u64.wrap (a : Int) = (a : Int) := by rw [IntKind.wrap_u64]; omega
    have hwb : IntKind.u64.wrap (b : Int) = (b : Int) := by rw [IntKind.wrap_u64]; omega
    go_cut [3] (fun s3 wx => ∃ v, s3 = v ∧ wx.ownsRow w1.heap.size 5 1 v (Lib.decDigits a).length (Lib.byteCells (Lib.decDigits a)) ∧ Below w1.heap.size w1 wx)
    case first =>
      go_region_with ((go_at_call 42; (refine (happ.out _ hrow0.out.drew hbz.out.drew).mono ?_; rintro e w2 ⟨v2, rfl, hown2, hb2⟩)))
      all_goals
        go_wp2_with fail
        go_meet
        exact ⟨v2, rfl, (by simpa using hown2), hbz.out.drew.trans hb2⟩
    case rest =>
    obtain ⟨v, rfl, hown, hbx⟩ := hcut
    have hown' := Lib.hid hown
    have hbx' := Lib.hid hbx
    have hcax := (hbx.cell (p := ⟨w.heap.size, 0, none⟩) hsl).trans hca
    have hcbx := (hbx.cell (p := ⟨w.heap.size, 1, none⟩) hsl).trans hcb
    clear hown hbx hca hcb happ hmk hbz hrow0
    obtain ⟨i0, hi, hz0, hz1, hz2⟩ := info_parts info_u8
    have hpos := dec_pos a
    have hlen : (Lib.decDigits a).length ≤ 20 := by
      rw [Lib.decDigits_length]
      by_cases h1 : 1 ≤ a
      · have := Lib.numDigits_eq a h1 (by omega); split at this <;> omega
      · rw [Lib.nDigits_small (by omega)]; omega
    have hbs := hbx'.out.size
    by_cases h0 : b = 0
    · have hb0 : ((b : Int) == 0) = true := by rw [h0]; rfl
      have hsq := Lib.hid (show seqL a b = Lib.decDigits a ++ [58, 42] by unfold seqL; rw [if_neg hab2.out, if_pos h0])
      have h0' := Lib.hid h0
      clear h0
      obtain ⟨n, hn⟩ : ∃ n, n = (Lib.decDigits a).length := ⟨_, rfl⟩
      rw [← hn] at hown' hpos hlen
      have hn' := Lib.hid hn
      clear hn
      have hnw : ∀ j u, [Value.int .u8 58, Value.int .u8 42][j]? = some u → (wc.alloc (.cells #[.int .u8 58, .int .u8 42] 5)).cell? ((⟨wc.heap.size, 0, none⟩ : Addr).add j) = some u := fun j u hj => by
        match j, hj with
        | 0, hj => simp at hj; subst hj; simp [go_sem]
        | 1, hj => simp at hj; subst hj; simp [go_sem]
      have hnw' := Lib.hid hnw
      have hone : ∀ u ∈ [Value.int .u8 58, Value.int .u8 42], u.oneCell' = true := by intro u hu; simp at hu; rcases hu with rfl | rfl <;> rfl
      have hone' := Lib.hid hone
      have hrow1 := Lib.hid hown'.out.lt
      clear hnw hone
      go_wp2_with (first
        | (at_builtin; (refine wpList_append_own _ rfl _ _ 74 rfl w1.heap.size 5 i0 (.int .u8 0) 1 1 Tryd.underlying74 hi hz0 hz1 hz2 rfl (by decide) _ _ _ rfl (hown'.out.alloc _) ⟨wc.heap.size, 0, none⟩ 2 2 [.int .u8 58, .int .u8 42] rfl rfl hnw'.out hone'.out (by unfold maxLen; omega) (by omega) (by simp; omega) ?_; intro v' w2 hown2 hgrow2 hnil2; obtain ⟨g, cap, rfl, hg1, hg2⟩ := World.ownsRow.form hown2 (show 0 < n + 2 by omega); have hcv := (conv_row w2 w1.heap.size g (n + 2) cap (Lib.decDigits a ++ [58, 42]) (by rw [List.length_append, ← hn'.out]; rfl) (by rw [byteCells_app]; exact hown2)); have hb2 := (Lib.hid (show Below w1.heap.size w1 w2 from (hbx'.out.alloc hbs _).grown hgrow2 (by simp; omega) (fun k e => (hrow1.out k e).1)))))
        | fail)
      go_ret
      refine ⟨?_, hb1.out.trans (hb2.out.mono (by omega))⟩
      show Ending.returned (Value.string ⟨(Lib.decDigits a ++ [58, 42]).toArray⟩) = _
      rw [hsq.out]
    · have hb0 : ((b : Int) == 0) = false := by rw [beq_eq_false_iff_ne]; omega
      have hsq := Lib.hid (show seqL a b = Lib.decDigits a ++ (58 :: Lib.decDigits b) by unfold seqL; rw [if_neg hab2.out, if_neg h0])
      have h0' := Lib.hid h0
      clear h0
      obtain ⟨n, hn⟩ : ∃ n, n = (Lib.decDigits a).length := ⟨_, rfl⟩
      rw [← hn] at hown' hpos hlen
      have hn' := Lib.hid hn
      clear hn
      have hrow1 := Lib.hid hown'.out.lt
      have hrowA := hown'.out.alloc (.cells #[.int .u8 58] 5)
      have hnw : ∀ j u, [Value.int .u8 58][j]? = some u → (wc.alloc (.cells #[.int .u8 58] 5)).cell? ((⟨wc.heap.size, 0, none⟩ : Addr).add j) = some u := fun j u hj => by
        match j, hj with
        | 0, hj => simp at hj; subst hj; simp [go_sem]
      have hnw' := Lib.hid hnw
      have hrowA' := Lib.hid hrowA
      have hbA := Lib.hid (hbx'.out.alloc hbs (.cells #[.int .u8 58] 5))
      clear hnw hrowA
      have hcb1 := Lib.hid ((hbx'.out.cell (p := ⟨w.heap.size, 1, none⟩) hsl).symm.trans hcbx)
      have happ2 := Lib.hid (fun (W : World) (sv : Value) (hr : W.ownsRow w1.heap.size 5 1 sv (n + 1) (Lib.byteCells (Lib.decDigits a) ++ [.int .u8 58])) (hbl : Below w1.heap.size w1 W) => appU_any w1.heap.size (n + 1) b (by omega) sv _ W hr hbl.size (by omega) ((htb1.out.on hbl).here))
      have hcbA : (wc.alloc (.cells #[.int .u8 58] 5)).cell? ⟨w.heap.size, 1, none⟩ = some (.int .u32 b) := (hbA.out.cell (p := ⟨w.heap.size, 1, none⟩) hsl).trans hcb1.out
      go_upto_region 8 with (fail)
      go_region_law (first
        | ((refine step_append_lies _ rfl (.tmp 28) (.tmp 29) 74 rfl w1.heap.size 5 i0 (.int .u8 0) 1 1 Tryd.underlying74 hi hz0 hz1 hz2 rfl (by decide) u3 n (Lib.byteCells (Lib.decDigits a)) (by simp [Act.eval, Act.put]) (by first | exact hrowA'.out | exact hrowA'.out.drew | exact hrowA'.out.drew.drew) ⟨wc.heap.size, 0, none⟩ 1 1 [.int .u8 58] (by simp [Act.eval, Act.put]) rfl hnw'.out (by intro u hu; simp at hu; subst hu; rfl) (by omega) (by unfold maxLen; omega) (by omega) (by simp; omega) (wc.heap.size + 1) (by simp) ?_; intro g cap w2 hown2 hgrow2 hloc2 hlt2; have hb2 := (Lib.hid (show Below w1.heap.size w1 w2 from (show Below w1.heap.size w1 _ by first | exact hbA.out | exact hbA.out.drew | exact hbA.out.drew.drew).grown hgrow2 (by simp; omega) (fun k e => (hrow1.out k e).1))); have hcb2 := ((hb2.out.cell (p := ⟨w.heap.size, 1, none⟩) hsl).trans hcb1.out)))
        | (go_simp; go_at_call 42; (refine (happ2.out _ _ (by first | exact hown2 | exact hown2.drew | exact hown2.drew.drew) (by first | exact hb2.out | exact hb2.out.drew | exact hb2.out.drew.drew)).mono ?_; rintro e w4 ⟨v4, rfl, hown4, hb4⟩; obtain ⟨g4, cap4, rfl, hg4, hg5⟩ := World.ownsRow.form hown4 (by omega); have hcv := (conv_row w4 w1.heap.size g4 (n + 1 + (Lib.decDigits b).length) cap4 (Lib.decDigits a ++ (58 :: Lib.decDigits b)) (by rw [List.length_append, List.length_cons, ← hn'.out]; omega) (by rw [byteCells_app, show Lib.byteCells (58 :: Lib.decDigits b) = [Value.int .u8 58] ++ Lib.byteCells (Lib.decDigits b) from rfl, ← List.append_assoc]; exact hown4)); have hb6 := (Lib.hid (hb2.out.trans hb4)))))
      all_goals
        go_wp2
        go_ret
        refine ⟨?_, hb1.out.trans (hb6.out.mono (by omega))⟩
        show Ending.returned (Value.string ⟨(Lib.decDigits a ++ (58 :: Lib.decDigits b)).toArray⟩) = _
        rw [hsq.out]

theorem seqText_any (a b : Nat) (ha : a < 4294967296) (hb : b < 4294967296) (w : World) (htab : TabB w) :
    Calls Tryd.prog 13 #[.agg #[.int .u32 a, .int .u32 b]] w fun e w' => e = .returned (.string ⟨(seqL a b).toArray⟩) ∧ Below w.heap.size w w' := by
  have hbel : ∀ o, Below w.heap.size w (w.alloc o) := fun o => (Below.refl _ _).alloc (Nat.le_refl _) o
  have hc := Lib.hid (fun o => seqString_any a b ha hb (w.alloc o) (fun W hW => htab W ((hbel o).trans (hW.mono (by simp)))))
  obtain ⟨L, hL⟩ : ∃ L, L = (seqL a b).toArray := ⟨_, rfl⟩
  rw [← hL] at hc ⊢
  clear hL htab
  have hbel' := Lib.hid hbel
  clear hbel
  go_enter Tryd.func13, Tryd.ntmps13
  go_wp2_with (go_at_call 26; refine (hc.out _).mono ?_; rintro e w1 ⟨rfl, hb1⟩)
  go_ret
  exact ⟨rfl, (hbel'.out _).trans (hb1.mono (by simp))⟩
end Go.Proofs.YtajifebphcgcpaaDoor.Own

namespace Go.Proofs.YtajifebphcgcpaaDoor.Own
open Go.RowKit Go.Lib
set_option linter.unusedVariables false
set_option linter.unusedSimpArgs false

theorem str_cons (c : Nat) (l : List UInt8) : Value.string ((⟨#[UInt8.ofNat c]⟩ : ByteArray) ++ (⟨l.toArray⟩ : ByteArray)) = Value.string ⟨(UInt8.ofNat c :: l).toArray⟩ := by
  congr 1

set_option maxRecDepth 100000 in
set_option maxHeartbeats 2000000 in
theorem number9_any (n : Nat) (hn : n < 4294967296) (w : World) :
    Calls Tryd.prog 28 #[.int .i64 n] w fun e w' => e = .returned (.string ⟨(Lib.decDigits n).toArray⟩) ∧ Below w.heap.size w w' := by
  have hlen : (Lib.decDigits n).length ≤ 20 := by
    rw [Lib.decDigits_length]
    by_cases h1 : 1 ≤ n
    · have := Lib.numDigits_eq n h1 (by omega); split at this <;> omega
    · rw [Lib.nDigits_small (by omega)]; omega
  go_enter Tryd.func28, Tryd.ntmps28
  go_wp2
  go_loopw [0, 3] (fun x s wr => ∃ (m : Nat) (l : List UInt8), m ≤ n ∧ x = .int .i64 m ∧ s = .string ⟨l.toArray⟩ ∧ Lib.decDigits m ++ l = Lib.decDigits n ∧ Below w.heap.size w wr) (fun x _ _ => (RowKit.intOf x).toNat)
  case atStart => exact ⟨n, [], Nat.le_refl _, rfl, rfl, by simp, Below.refl _ _⟩
  case round =>
    obtain ⟨m, l, hm, rfl, rfl, hl, hbel⟩ := hrel
    have hbel' := Lib.hid hbel
    have hl' := Lib.hid hl
    have hl20 : l.length ≤ 20 := by
      have e := congrArg List.length hl
      rw [List.length_append] at e
      omega
    have hbs := hbel.size
    clear hbel hl
    by_cases h9 : 9 < m
    · obtain ⟨c, hc⟩ : ∃ c : Nat, c = 48 + m % 10 := ⟨_, rfl⟩
      have hcv : (convert 74 9 (.slice (some ⟨wr.heap.size, 0, none⟩) 1 1)).run Tryd.prog (wr.alloc (.cells #[.int .u8 (48 + (m : Int) % 10)] 5)) = .ok (.string ⟨[UInt8.ofNat c].toArray⟩) (wr.alloc (.cells #[.int .u8 (48 + (m : Int) % 10)] 5)) := by
        have := run_convert_bytes_back (P := Tryd.prog) (wr.alloc (.cells #[.int .u8 (48 + (m : Int) % 10)] 5)) 74 9 5 ⟨wr.heap.size, 0, none⟩ 1 [UInt8.ofNat c] Tryd.underlying74 Tryd.underlying5 Tryd.underlying9 (fun j hj => by
          obtain rfl : j = 0 := by simp at hj; exact hj
          rw [Addr.add, if_pos rfl]
          simp [go_sem]
          omega)
        exact this
      have hdd := Lib.hid (show Lib.decDigits (m / 10) ++ (UInt8.ofNat c :: l) = Lib.decDigits n by
        rw [← hl'.out, Lib.decDigits.eq_1 m, dif_neg (by omega), hc]; simp)
      clear hc
      go_wp2_with fail
      exact ⟨⟨m / 10, UInt8.ofNat c :: l, by omega, by go_num, str_cons c l, hdd.out, hbel'.out.alloc hbs _⟩, by simp [RowKit.intOf]; omega⟩
    · obtain ⟨c, hc⟩ : ∃ c : Nat, c = 48 + m := ⟨_, rfl⟩
      have hcv : (convert 74 9 (.slice (some ⟨wr.heap.size, 0, none⟩) 1 1)).run Tryd.prog (wr.alloc (.cells #[.int .u8 (48 + (m : Int))] 5)) = .ok (.string ⟨[UInt8.ofNat c].toArray⟩) (wr.alloc (.cells #[.int .u8 (48 + (m : Int))] 5)) := by
        have := run_convert_bytes_back (P := Tryd.prog) (wr.alloc (.cells #[.int .u8 (48 + (m : Int))] 5)) 74 9 5 ⟨wr.heap.size, 0, none⟩ 1 [UInt8.ofNat c] Tryd.underlying74 Tryd.underlying5 Tryd.underlying9 (fun j hj => by
          obtain rfl : j = 0 := by simp at hj; exact hj
          rw [Addr.add, if_pos rfl]
          simp [go_sem]
          omega)
        exact this
      have hdd := Lib.hid (show (UInt8.ofNat c :: l) = Lib.decDigits n by
        rw [← hl'.out, Lib.decDigits.eq_1 m, dif_pos (by omega), hc]; rfl)
      clear hc
      go_wp2_with fail
      go_ret
      refine ⟨?_, hbel'.out.alloc hbs _⟩
      rw [← hdd.out]
      exact congrArg Ending.returned (str_cons c l)
end Go.Proofs.YtajifebphcgcpaaDoor.Own

namespace Go.Proofs.YtajifebphcgcpaaDoor.Own
open Go.RowKit Go.Lib
set_option linter.unusedVariables false
set_option linter.unusedSimpArgs false

def oneL (a : Nat) : List UInt8 := if a = 0 then [42] else Lib.decDigits a
theorem one_any (a : Nat) (ha : a < 4294967296) (w : World) :
    Calls Tryd.prog 27 #[.int .u32 a] w fun e w' => e = .returned (.string ⟨(oneL a).toArray⟩) ∧ Below w.heap.size w w' := by
  unfold oneL
  by_cases h0 : a = 0
  · subst h0
    rw [if_pos rfl]
    go_enter Tryd.func27, Tryd.ntmps27
    go_wp2
    go_ret
    exact ⟨rfl, Below.refl _ _⟩
  · rw [if_neg h0]
    have h0' : ((a : Int) == 0) = false := by rw [beq_eq_false_iff_ne]; omega
    have hw : IntKind.i64.wrap (a : Int) = (a : Int) := by rw [IntKind.wrap_i64]; omega
    have hc := Lib.hid (number9_any a ha w)
    have h1 := Lib.hid h0
    clear h0
    go_enter Tryd.func27, Tryd.ntmps27
    go_wp2_with (go_at_call 28; refine hc.out.mono ?_; rintro e w1 ⟨rfl, hb⟩)
    go_ret
    exact ⟨rfl, hb⟩
theorem extB {w1 X w2 : World} (h : Below w1.heap.size w1 X) (k : Below X.heap.size X w2) : Hid (Below w1.heap.size w1 w2) := Lib.hid (h.trans (k.mono h.size))
theorem str_two (l m : List UInt8) : Value.string ((⟨l.toArray⟩ : ByteArray) ++ (⟨#[58]⟩ : ByteArray) ++ (⟨m.toArray⟩ : ByteArray)) = Value.string ⟨(l ++ 58 :: m).toArray⟩ := by
  congr 1
  apply ba_ext
  rw [app_list, app_list]
  simp
theorem one_len (a : Nat) (ha : a < 4294967296) : (⟨(oneL a).toArray⟩ : ByteArray).size ≤ 20 := by
  rw [size_mk]
  unfold oneL
  split
  · decide
  · rw [Lib.decDigits_length]
    by_cases h1 : 1 ≤ a
    · have := Lib.numDigits_eq a h1 (by omega); split at this <;> omega
    · rw [Lib.nDigits_small (by omega)]; omega
def text9L (a b : Nat) : List UInt8 := if a = b then oneL a else oneL a ++ (58 :: oneL b)

set_option maxRecDepth 100000 in
set_option maxHeartbeats 2000000 in
theorem seqText9_any (a b : Nat) (ha : a < 4294967296) (hb : b < 4294967296) (w : World) :
    Calls Tryd.prog 14 #[.agg #[.int .u32 a, .int .u32 b]] w fun e w' => e = .returned (.string ⟨(text9L a b).toArray⟩) ∧ Below w.heap.size w w' := by
  by_cases hab : a = b
  · subst hab
    have ht : text9L a a = oneL a := by unfold text9L; rw [if_pos rfl]
    rw [ht]
    have hc := Lib.hid (fun W => one_any a ha W)
    clear ht
    go_enter Tryd.func14, Tryd.ntmps14
    go_wp2_with (go_at_call 27; refine (hc.out _).mono ?_; rintro e w1 ⟨rfl, hb1⟩)
    go_ret
    exact ⟨rfl, ((Below.refl _ _).alloc (Nat.le_refl _) _).trans (hb1.mono (by simp))⟩
  · have hab' : ((a : Int) == (b : Int)) = false := by rw [beq_eq_false_iff_ne]; omega
    have ht := Lib.hid (show text9L a b = oneL a ++ (58 :: oneL b) by unfold text9L; rw [if_neg hab])
    clear hab
    go_enter Tryd.func14, Tryd.ntmps14
    go_upto_region 4 with (fail)
    obtain ⟨w1, hw1⟩ : ∃ w1 : World, w1 = w.alloc (.cells #[.int .u32 a, .int .u32 b] 24) := ⟨_, rfl⟩
    have hca : ∀ W, Below w1.heap.size w1 W → W.cell? ⟨w.heap.size, 0, none⟩ = some (.int .u32 a) := fun W hW => (hW.cell (by rw [hw1]; simp)).trans (by rw [hw1]; simp [go_sem])
    have hcb : ∀ W, Below w1.heap.size w1 W → W.cell? ⟨w.heap.size, 1, none⟩ = some (.int .u32 b) := fun W hW => (hW.cell (by rw [hw1]; simp)).trans (by rw [hw1]; simp [go_sem])
    have hb1 := Lib.hid (show Below w.heap.size w w1 by rw [hw1]; exact (Below.refl _ _).alloc (Nat.le_refl _) _)
    rw [← hw1]
    clear hw1
    have ka := Lib.hid (fun W => one_any a ha W)
    have kb := Lib.hid (fun W => one_any b hb W)
    obtain ⟨SA, hSA⟩ : ∃ S : ByteArray, S = ⟨(oneL a).toArray⟩ := ⟨_, rfl⟩
    obtain ⟨SB, hSB⟩ : ∃ S : ByteArray, S = ⟨(oneL b).toArray⟩ := ⟨_, rfl⟩
    have sa : SA.size ≤ 20 := by rw [hSA]; exact one_len a ha
    have sb : SB.size ≤ 20 := by rw [hSB]; exact one_len b hb
    rw [← hSA] at ka
    rw [← hSB] at kb
    have hSA' := Lib.hid hSA
    have hSB' := Lib.hid hSB
    clear hSA hSB
    have c1 := hca w1 (Below.refl _ _)
    have c2 := hcb w1 (Below.refl _ _)
    have hcb' := Lib.hid hcb
    have hca' := Lib.hid hca
    clear hca hcb
    have hB0 := Lib.hid (Below.refl w1.heap.size w1)
    have hsz := hb1.out.size
    go_region_with ((go_at_call 27; first | (refine (ka.out _).mono ?_; rintro e w2 ⟨rfl, hb2⟩; have hBn := extB (by first | exact hBn.out.drew | exact hBn.out | exact hBn.out.drew.drew | exact hB0.out.drew | exact hB0.out | exact hB0.out.drew.drew) hb2; have d1 := hca'.out w2 hBn.out; have d2 := hcb'.out w2 hBn.out; clear hb2) | (refine (kb.out _).mono ?_; rintro e w2 ⟨rfl, hb2⟩; have hBn := extB (by first | exact hBn.out.drew | exact hBn.out | exact hBn.out.drew.drew | exact hB0.out.drew | exact hB0.out | exact hB0.out.drew.drew) hb2; have d1 := hca'.out w2 hBn.out; have d2 := hcb'.out w2 hBn.out; clear hb2)))
    all_goals
      go_wp2
      go_ret
      refine ⟨?_, hb1.out.trans (hBn.out.mono hsz)⟩
      rw [ht.out]
      rw [← str_two (oneL a) (oneL b), ← hSA'.out, ← hSB'.out]
      rfl
end Go.Proofs.YtajifebphcgcpaaDoor.Own

namespace Go.Proofs.YtajifebphcgcpaaDoor.Own
open Go.RowKit Go.Lib
set_option linter.unusedVariables false

/-- What the callees ask of the world: the table of powers reads as laid, here and behind whatever this call makes. -/
def Env (w : World) : Prop := TabB w
theorem Env.all {w : World} (h : Env w) : ∀ W, Below w.heap.size w W → Env W := fun W hb W2 h2 => h W2 (hb.trans (h2.mono hb.size))
def small32 (a b : Int) : Prop := 0 ≤ a ∧ a < 4294967296 ∧ 0 ≤ b ∧ b < 4294967296
instance (a b : Int) : Decidable (small32 a b) := by unfold small32; infer_instance
def impl_SeqText.f (a b : Int) : Option ByteArray := if small32 a b then some ⟨(seqL a.toNat b.toNat).toArray⟩ else none
def spec_SeqText9.f (a b : Int) : Option ByteArray := if small32 a b then some ⟨(text9L a.toNat b.toNat).toArray⟩ else none
theorem impl_SeqText.calls (a b : Int) (r : ByteArray) (w : World) (h : impl_SeqText.f a b = some r) (henv : Env w) :
    Calls Tryd.prog 13 #[.agg #[.int .u32 a, .int .u32 b]] w fun e w' => e = .returned (.string r) ∧ Below w.heap.size w w' := by
  unfold impl_SeqText.f at h
  by_cases hs : small32 a b
  · rw [if_pos hs] at h
    obtain ⟨h1, h2, h3, h4⟩ := hs
    obtain rfl := Option.some.inj h
    have := seqText_any a.toNat b.toNat (by omega) (by omega) w henv
    rw [Int.toNat_of_nonneg h1, Int.toNat_of_nonneg h3] at this
    exact this
  · rw [if_neg hs] at h; cases h
theorem spec_SeqText9.calls (a b : Int) (r : ByteArray) (w : World) (h : spec_SeqText9.f a b = some r) :
    Calls Tryd.prog 14 #[.agg #[.int .u32 a, .int .u32 b]] w fun e w' => e = .returned (.string r) ∧ Below w.heap.size w w' := by
  unfold spec_SeqText9.f at h
  by_cases hs : small32 a b
  · rw [if_pos hs] at h
    obtain ⟨h1, h2, h3, h4⟩ := hs
    obtain rfl := Option.some.inj h
    have := seqText9_any a.toNat b.toNat (by omega) (by omega) w
    rw [Int.toNat_of_nonneg h1, Int.toNat_of_nonneg h3] at this
    exact this
  · rw [if_neg hs] at h; cases h
end Go.Proofs.YtajifebphcgcpaaDoor.Own

namespace Go.Proofs.YtajifebphcgcpaaDoor.Own
open Go.RowKit Go.Lib
set_option linter.unusedVariables false

theorem tab_of_reads {P : Program} {W : World} {name : String} {k : IntKind} {zs : List Int} {g : Nat} {t e : TypeId} {n : Nat}
    (hg : P.globalNamed name = some g) (hty : (P.globals[g]?).map (·.type) = some t) (ht : P.underlying t = some (.array n e)) (he : P.underlying e = some (.int k)) (hce : P.cellsOf e = 1) (hct : P.cellsOf t = n)
    (h : VarReads P W name (tabData k zs)) : TabIs P W name k zs := by
  obtain ⟨g', t', cs, fuel, p, hg', hty', hv, hd⟩ := h
  obtain rfl := Option.some.inj (hg.symm.trans hg')
  obtain rfl := Option.some.inj (hty.symm.trans hty')
  have := cells_of_tab ht he hce hct hd
  unfold TabIs
  rw [hv, ← this]
theorem pow_data : (Rows.laid_internal_strconv_uint64pow10 : DataW Unit) = tabData .u64 pow10Tab := by kernel_rfl
theorem env_of_reads {W : World} (h : VarReads Tryd.prog W "internal/strconv.uint64pow10" Rows.laid_internal_strconv_uint64pow10) : Env W := by
  rw [pow_data] at h
  exact tabBelow_of_tabIs (tab_of_reads (g := 0) (t := 102) (e := 49) (n := 20) (by kernel_rfl) (by kernel_rfl) (by kernel_rfl) (by kernel_rfl) (by kernel_rfl) (by kernel_rfl) h)
end Go.Proofs.YtajifebphcgcpaaDoor.Own
