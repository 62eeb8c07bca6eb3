-- Printed for this claim by a copy of the kit's print that takes hand-proved callees (wip/patch_print.py).
import Derived.Test.YtajifebphcgcpaaDoorPFnSeqOfx0
import Derived.Test.YtajifebphcgcpaaDoorPFnSeqOfx2
namespace Go.Proofs.YtajifebphcgcpaaDoor.PFnSeqOf
open Go.RowKit Go.Proofs.YtajifebphcgcpaaDoorW.PrintWords Go.Proofs.YtajifebphcgcpaaDoorW.PrintLast Go.Proofs.YtajifebphcgcpaaDoorW.PrintMore
attribute [local go_sem] max2_int min2_int max_two min_two max_three min_three max_four min_four   -- for this text's walks alone
set_option linter.unusedVariables false
set_option linter.unusedSimpArgs false

attribute [local go_sem high] eqA50
/-! ### spec_Range9: function 7 -/
def spec_Range9.f (a0 : Int) (a1 : Int) : Option (Int × Int) := if a0 = 0 then (some (a1, a0)) else (if a1 = 0 then (some (a0, a1)) else (if a1 < a0 then (some (a1, a0)) else (some (a0, a1))))
set_option maxHeartbeats 8000000 in
set_option maxRecDepth 100000 in
theorem spec_Range9.calls (a0 : Int) (a1 : Int) (r1 : Int) (r2 : Int) (w : World) (h : spec_Range9.f a0 a1 = some (r1, r2)) :
    Calls Tryd.prog 7 #[.int .u32 a0, .int .u32 a1] w fun e w' => e = .returned (.agg #[.int .u32 r1, .int .u32 r2]) ∧ Below w.heap.size w w' := by
  have hu24 := Tryd.underlying24
  have HB := Aside0.mk (Below.refl w.heap.size w)
  have H : (if a0 = 0 then (some (a1, a0)) else (if a1 = 0 then (some (a0, a1)) else (if a1 < a0 then (some (a1, a0)) else (some (a0, a1))))) = some (r1, r2) := h
  clear h
  by_cases c3 : a0 = 0
  · rw [if_pos c3] at H
    have c3b0 : (a0 == 0) = true := beq_iff_eq.mpr c3
    have c3b1 : (a0 != 0) = false := bne_eq_false_iff_eq.mpr c3
    clear c3
    simp only [Option.some.injEq, Prod.mk.injEq] at H
    obtain ⟨rfl, rfl⟩ := H
    go_enter Tryd.func7, Tryd.ntmps7
    go_wp2_with (first | ((with_reducible refine gate_dst (N := 4) rfl ?_); refine box_event ?hg (N := 4) ?hd (cs := #[.int .u32 0, .int .u32 0]) (t := 24) ?hr ?_; (case hd => rfl); (case hg => rfl); (case hr => first | (go_simp; done) | (go_simp; rfl)); intro gb139 hg w4 hbox hb; have n0_ := Aside0.mk (below_step (by repeat (first | (with_reducible first | exact HB.out | apply below_alloc | apply pw_below_drewN | apply below_drew1) | exact HB.out)) hb); have n1_ := Aside0.mk (hbox); have n2_ := Aside0.mk ((by rw [hg]; exact (below_size (by repeat (first | (with_reducible first | exact HB.out | apply below_alloc | apply pw_below_drewN | apply below_drew1) | exact HB.out))) : w.heap.size ≤ gb139)); have n3_ := Aside0.mk ((by rw [hg]; exact (below_size (by repeat (first | (with_reducible first | exact HB.out | apply below_alloc | apply pw_below_drewN | apply below_drew1) | exact HB.out))) : w.heap.size ≤ gb139)); clear HB; have HB := n0_; have BK139 := n1_; have GW139 := n2_; have GE139 := n3_; clear n0_ n1_ n2_ n3_; clear hb hbox hg; have hcz5_0 : w4.cell? ⟨gb139, 0, none⟩ = some (.int .u32 0) := (blk_cell BK139.out 0).trans rfl; have hcz5_1 : w4.cell? ⟨gb139, 1, none⟩ = some (.int .u32 0) := (blk_cell BK139.out 1).trans rfl; have hfz5_0 := blk_frozen BK139.out 0; have hfz5_1 := blk_frozen BK139.out 1))
    refine bodyPost_ret (results_cell_row rfl _ _ gb139 24 #[.int .u32 a1, .int .u32 a0] (0, 0) _ rfl (by (with_reducible repeat (first | refine blk_drewN ?_ _ | refine blk_drew ?_ | refine blk_alloc ?_ _)); refine blk_put (cs := #[.int .u32 a1, .int .u32 0]) ?_ 1 _ rfl; (with_reducible repeat (first | refine blk_drewN ?_ _ | refine blk_drew ?_ | refine blk_alloc ?_ _)); refine blk_put (cs := #[.int .u32 0, .int .u32 0]) ?_ 0 _ rfl; (with_reducible repeat (first | refine blk_drewN ?_ _ | refine blk_drew ?_ | refine blk_alloc ?_ _)); exact BK139.out) Tryd.underlying24 rfl (by kernel_rfl)) rfl ?_
    exact ⟨by first | rfl | (simp [errW_none, errW_some] <;> rfl) | (simp [*, errW_none, errW_some] <;> rfl), by repeat (first | (with_reducible first | exact HB.out | apply below_alloc | apply pw_below_drewN | apply below_drew1 | refine below_set ?_ GE139.out) | exact HB.out)⟩
  · rw [if_neg c3] at H
    have c3b0 : (a0 == 0) = false := beq_eq_false_iff_ne.mpr c3
    have c3b1 : (a0 != 0) = true := bne_iff_ne.mpr c3
    by_cases c6 : a1 = 0
    · rw [if_pos c6] at H
      have c6b0 : (a1 == 0) = true := beq_iff_eq.mpr c6
      have c6b1 : (a1 != 0) = false := bne_eq_false_iff_eq.mpr c6
      clear c6
      simp only [Option.some.injEq, Prod.mk.injEq] at H
      obtain ⟨rfl, rfl⟩ := H
      go_enter Tryd.func7, Tryd.ntmps7
      go_wp2_with (first | ((with_reducible refine gate_dst (N := 4) rfl ?_); refine box_event ?hg (N := 4) ?hd (cs := #[.int .u32 0, .int .u32 0]) (t := 24) ?hr ?_; (case hd => rfl); (case hg => rfl); (case hr => first | (go_simp; done) | (go_simp; rfl)); intro gb139 hg w7 hbox hb; have n0_ := Aside0.mk (below_step (by repeat (first | (with_reducible first | exact HB.out | apply below_alloc | apply pw_below_drewN | apply below_drew1) | exact HB.out)) hb); have n1_ := Aside0.mk (hbox); have n2_ := Aside0.mk ((by rw [hg]; exact (below_size (by repeat (first | (with_reducible first | exact HB.out | apply below_alloc | apply pw_below_drewN | apply below_drew1) | exact HB.out))) : w.heap.size ≤ gb139)); have n3_ := Aside0.mk ((by rw [hg]; exact (below_size (by repeat (first | (with_reducible first | exact HB.out | apply below_alloc | apply pw_below_drewN | apply below_drew1) | exact HB.out))) : w.heap.size ≤ gb139)); clear HB; have HB := n0_; have BK139 := n1_; have GW139 := n2_; have GE139 := n3_; clear n0_ n1_ n2_ n3_; clear hb hbox hg; have hcz8_0 : w7.cell? ⟨gb139, 0, none⟩ = some (.int .u32 0) := (blk_cell BK139.out 0).trans rfl; have hcz8_1 : w7.cell? ⟨gb139, 1, none⟩ = some (.int .u32 0) := (blk_cell BK139.out 1).trans rfl; have hfz8_0 := blk_frozen BK139.out 0; have hfz8_1 := blk_frozen BK139.out 1))
      refine bodyPost_ret (results_cell_row rfl _ _ gb139 24 #[.int .u32 a0, .int .u32 a1] (0, 0) _ rfl (by (with_reducible repeat (first | refine blk_drewN ?_ _ | refine blk_drew ?_ | refine blk_alloc ?_ _)); refine blk_put (cs := #[.int .u32 a0, .int .u32 0]) ?_ 1 _ rfl; (with_reducible repeat (first | refine blk_drewN ?_ _ | refine blk_drew ?_ | refine blk_alloc ?_ _)); refine blk_put (cs := #[.int .u32 0, .int .u32 0]) ?_ 0 _ rfl; (with_reducible repeat (first | refine blk_drewN ?_ _ | refine blk_drew ?_ | refine blk_alloc ?_ _)); exact BK139.out) Tryd.underlying24 rfl (by kernel_rfl)) rfl ?_
      exact ⟨by first | rfl | (simp [errW_none, errW_some] <;> rfl) | (simp [*, errW_none, errW_some] <;> rfl), by repeat (first | (with_reducible first | exact HB.out | apply below_alloc | apply pw_below_drewN | apply below_drew1 | refine below_set ?_ GE139.out) | exact HB.out)⟩
    · rw [if_neg c6] at H
      have c6b0 : (a1 == 0) = false := beq_eq_false_iff_ne.mpr c6
      have c6b1 : (a1 != 0) = true := bne_iff_ne.mpr c6
      by_cases c9 : a1 < a0
      · rw [if_pos c9] at H
        have c9b0 : decide (a1 < a0) = true := decide_eq_true c9
        clear c9
        simp only [Option.some.injEq, Prod.mk.injEq] at H
        obtain ⟨rfl, rfl⟩ := H
        go_enter Tryd.func7, Tryd.ntmps7
        go_wp2_with (first | ((with_reducible refine gate_dst (N := 4) rfl ?_); refine box_event ?hg (N := 4) ?hd (cs := #[.int .u32 0, .int .u32 0]) (t := 24) ?hr ?_; (case hd => rfl); (case hg => rfl); (case hr => first | (go_simp; done) | (go_simp; rfl)); intro gb139 hg w10 hbox hb; have n0_ := Aside0.mk (below_step (by repeat (first | (with_reducible first | exact HB.out | apply below_alloc | apply pw_below_drewN | apply below_drew1) | exact HB.out)) hb); have n1_ := Aside0.mk (hbox); have n2_ := Aside0.mk ((by rw [hg]; exact (below_size (by repeat (first | (with_reducible first | exact HB.out | apply below_alloc | apply pw_below_drewN | apply below_drew1) | exact HB.out))) : w.heap.size ≤ gb139)); have n3_ := Aside0.mk ((by rw [hg]; exact (below_size (by repeat (first | (with_reducible first | exact HB.out | apply below_alloc | apply pw_below_drewN | apply below_drew1) | exact HB.out))) : w.heap.size ≤ gb139)); clear HB; have HB := n0_; have BK139 := n1_; have GW139 := n2_; have GE139 := n3_; clear n0_ n1_ n2_ n3_; clear hb hbox hg; have hcz11_0 : w10.cell? ⟨gb139, 0, none⟩ = some (.int .u32 0) := (blk_cell BK139.out 0).trans rfl; have hcz11_1 : w10.cell? ⟨gb139, 1, none⟩ = some (.int .u32 0) := (blk_cell BK139.out 1).trans rfl; have hfz11_0 := blk_frozen BK139.out 0; have hfz11_1 := blk_frozen BK139.out 1))
        refine bodyPost_ret (results_cell_row rfl _ _ gb139 24 #[.int .u32 a1, .int .u32 a0] (0, 0) _ rfl (by (with_reducible repeat (first | refine blk_drewN ?_ _ | refine blk_drew ?_ | refine blk_alloc ?_ _)); refine blk_put (cs := #[.int .u32 a1, .int .u32 0]) ?_ 1 _ rfl; (with_reducible repeat (first | refine blk_drewN ?_ _ | refine blk_drew ?_ | refine blk_alloc ?_ _)); refine blk_put (cs := #[.int .u32 0, .int .u32 0]) ?_ 0 _ rfl; (with_reducible repeat (first | refine blk_drewN ?_ _ | refine blk_drew ?_ | refine blk_alloc ?_ _)); exact BK139.out) Tryd.underlying24 rfl (by kernel_rfl)) rfl ?_
        exact ⟨by first | rfl | (simp [errW_none, errW_some] <;> rfl) | (simp [*, errW_none, errW_some] <;> rfl), by repeat (first | (with_reducible first | exact HB.out | apply below_alloc | apply pw_below_drewN | apply below_drew1 | refine below_set ?_ GE139.out) | exact HB.out)⟩
      · rw [if_neg c9] at H
        have c9b0 : decide (a1 < a0) = false := decide_eq_false c9
        clear c9
        simp only [Option.some.injEq, Prod.mk.injEq] at H
        obtain ⟨rfl, rfl⟩ := H
        go_enter Tryd.func7, Tryd.ntmps7
        go_wp2_with (first | ((with_reducible refine gate_dst (N := 4) rfl ?_); refine box_event ?hg (N := 4) ?hd (cs := #[.int .u32 0, .int .u32 0]) (t := 24) ?hr ?_; (case hd => rfl); (case hg => rfl); (case hr => first | (go_simp; done) | (go_simp; rfl)); intro gb139 hg w12 hbox hb; have n0_ := Aside0.mk (below_step (by repeat (first | (with_reducible first | exact HB.out | apply below_alloc | apply pw_below_drewN | apply below_drew1) | exact HB.out)) hb); have n1_ := Aside0.mk (hbox); have n2_ := Aside0.mk ((by rw [hg]; exact (below_size (by repeat (first | (with_reducible first | exact HB.out | apply below_alloc | apply pw_below_drewN | apply below_drew1) | exact HB.out))) : w.heap.size ≤ gb139)); have n3_ := Aside0.mk ((by rw [hg]; exact (below_size (by repeat (first | (with_reducible first | exact HB.out | apply below_alloc | apply pw_below_drewN | apply below_drew1) | exact HB.out))) : w.heap.size ≤ gb139)); clear HB; have HB := n0_; have BK139 := n1_; have GW139 := n2_; have GE139 := n3_; clear n0_ n1_ n2_ n3_; clear hb hbox hg; have hcz13_0 : w12.cell? ⟨gb139, 0, none⟩ = some (.int .u32 0) := (blk_cell BK139.out 0).trans rfl; have hcz13_1 : w12.cell? ⟨gb139, 1, none⟩ = some (.int .u32 0) := (blk_cell BK139.out 1).trans rfl; have hfz13_0 := blk_frozen BK139.out 0; have hfz13_1 := blk_frozen BK139.out 1))
        refine bodyPost_ret (results_cell_row rfl _ _ gb139 24 #[.int .u32 a0, .int .u32 a1] (0, 0) _ rfl (by (with_reducible repeat (first | refine blk_drewN ?_ _ | refine blk_drew ?_ | refine blk_alloc ?_ _)); refine blk_put (cs := #[.int .u32 a0, .int .u32 0]) ?_ 1 _ rfl; (with_reducible repeat (first | refine blk_drewN ?_ _ | refine blk_drew ?_ | refine blk_alloc ?_ _)); refine blk_put (cs := #[.int .u32 0, .int .u32 0]) ?_ 0 _ rfl; (with_reducible repeat (first | refine blk_drewN ?_ _ | refine blk_drew ?_ | refine blk_alloc ?_ _)); exact BK139.out) Tryd.underlying24 rfl (by kernel_rfl)) rfl ?_
        exact ⟨by first | rfl | (simp [errW_none, errW_some] <;> rfl) | (simp [*, errW_none, errW_some] <;> rfl), by repeat (first | (with_reducible first | exact HB.out | apply below_alloc | apply pw_below_drewN | apply below_drew1 | refine below_set ?_ GE139.out) | exact HB.out)⟩

-- NOT PRINTED: function 29 (spec_part9)

-- NOT PRINTED: function 15 (spec_Parts9)

/-! ### goimap_Seq_Merge: function 23 -/
mutual
def goimap_Seq_Merge.j0 : Nat → Bool → Bool → Int → Int → Int → Int → Int → Int → Option (Int × Int × Bool)
  | 0, _, _, _, _, _, _, _, _ => none
  | k + 1, x5, x17, x142000, x142001, x143000, x143001, x144000, x144001 => if x17 = true then (if x142000 > x143000 then (goimap_Seq_Merge.j1 k x5 x143000 x143001 x142000 x142001 x144000 x144001) else (goimap_Seq_Merge.j1 k x5 x142000 x142001 x143000 x143001 x144000 x144001)) else (if x142000 = 0 then (if x143001 = 0 then (some (x143000, x143001, true)) else (some (x144000, x144001, x5))) else (if x142001 = 0 then (some (x142000, x142001, true)) else (some (x144000, x144001, x5))))
def goimap_Seq_Merge.j1 : Nat → Bool → Int → Int → Int → Int → Int → Int → Option (Int × Int × Bool)
  | 0, _, _, _, _, _, _, _ => none
  | k + 1, x5, x142000, x142001, x143000, x143001, x144000, x144001 => if x142001 ≥ x143001 then (if x143001 = 0 then (goimap_Seq_Merge.j2 k x5 (x142001 == 0) x142000 x142001 x143000 x143001 x144000 x144001) else (goimap_Seq_Merge.j2 k x5 true x142000 x142001 x143000 x143001 x144000 x144001)) else (goimap_Seq_Merge.j2 k x5 (x142001 == 0) x142000 x142001 x143000 x143001 x144000 x144001)
def goimap_Seq_Merge.j2 : Nat → Bool → Bool → Int → Int → Int → Int → Int → Int → Option (Int × Int × Bool)
  | 0, _, _, _, _, _, _, _, _ => none
  | k + 1, x5, x39, x142000, x142001, x143000, x143001, x144000, x144001 => if x39 = true then (some (x142000, x142001, true)) else (if ((x142001 + 1) % 4294967296) ≥ x143000 then (some (x142000, x143001, true)) else (if x142001 = 4294967295 then (some (x142000, x143001, true)) else (some (x144000, x144001, x5))))
end
def goimap_Seq_Merge.f (k : Nat) (a0_0 : Int) (a0_1 : Int) (a1_0 : Int) (a1_1 : Int) : Option (Int × Int × Bool) := if (a0_0 == a1_0 && (a0_1 == a1_1)) = true then (some (a0_0, a0_1, true)) else (if a0_0 = 0 then (goimap_Seq_Merge.j0 k false false a0_0 a0_1 a1_0 a1_1 a0_0 a0_1) else (goimap_Seq_Merge.j0 k false (a1_0 != 0) a0_0 a0_1 a1_0 a1_1 a0_0 a0_1))
theorem goimap_Seq_Merge.mono_l : ∀ k, (∀ y0 y1 y2 y3 y4 y5 y6 y7, LeO (goimap_Seq_Merge.j0 k y0 y1 y2 y3 y4 y5 y6 y7) (goimap_Seq_Merge.j0 (k + 1) y0 y1 y2 y3 y4 y5 y6 y7)) ∧ (∀ y0 y1 y2 y3 y4 y5 y6, LeO (goimap_Seq_Merge.j1 k y0 y1 y2 y3 y4 y5 y6) (goimap_Seq_Merge.j1 (k + 1) y0 y1 y2 y3 y4 y5 y6)) ∧ (∀ y0 y1 y2 y3 y4 y5 y6 y7, LeO (goimap_Seq_Merge.j2 k y0 y1 y2 y3 y4 y5 y6 y7) (goimap_Seq_Merge.j2 (k + 1) y0 y1 y2 y3 y4 y5 y6 y7))
  | 0 => ⟨fun _ _ _ _ _ _ _ _ r h => by simp [goimap_Seq_Merge.j0] at h, fun _ _ _ _ _ _ _ r h => by simp [goimap_Seq_Merge.j1] at h, fun _ _ _ _ _ _ _ _ r h => by simp [goimap_Seq_Merge.j2] at h⟩
  | k + 1 => by
    obtain ⟨ih0, ih1, ih2⟩ := goimap_Seq_Merge.mono_l k
    refine ⟨?_, ?_, ?_⟩
    · intro y0 y1 y2 y3 y4 y5 y6 y7
      unfold goimap_Seq_Merge.j0
      repeat' first
      | (with_reducible exact ih0 _ _ _ _ _ _ _ _)
      | (with_reducible exact ih1 _ _ _ _ _ _ _)
      | (with_reducible exact ih2 _ _ _ _ _ _ _ _)
      | (with_reducible exact LeO.refl _)
      | (with_reducible exact LeO.none _)
      | (with_reducible refine LeO.ite ?_ ?_)
      | (with_reducible refine LeO.bind ?_ (fun _ => ?_))
      | exact ih0 _ _ _ _ _ _ _ _
      | exact ih1 _ _ _ _ _ _ _
      | exact ih2 _ _ _ _ _ _ _ _
      | exact LeO.none _
      | refine LeO.ite ?_ ?_
      | refine LeO.bind ?_ (fun _ => ?_)
    · intro y0 y1 y2 y3 y4 y5 y6
      unfold goimap_Seq_Merge.j1
      repeat' first
      | (with_reducible exact ih0 _ _ _ _ _ _ _ _)
      | (with_reducible exact ih1 _ _ _ _ _ _ _)
      | (with_reducible exact ih2 _ _ _ _ _ _ _ _)
      | (with_reducible exact LeO.refl _)
      | (with_reducible exact LeO.none _)
      | (with_reducible refine LeO.ite ?_ ?_)
      | (with_reducible refine LeO.bind ?_ (fun _ => ?_))
      | exact ih0 _ _ _ _ _ _ _ _
      | exact ih1 _ _ _ _ _ _ _
      | exact ih2 _ _ _ _ _ _ _ _
      | exact LeO.none _
      | refine LeO.ite ?_ ?_
      | refine LeO.bind ?_ (fun _ => ?_)
    · intro y0 y1 y2 y3 y4 y5 y6 y7
      unfold goimap_Seq_Merge.j2
      repeat' first
      | (with_reducible exact ih0 _ _ _ _ _ _ _ _)
      | (with_reducible exact ih1 _ _ _ _ _ _ _)
      | (with_reducible exact ih2 _ _ _ _ _ _ _ _)
      | (with_reducible exact LeO.refl _)
      | (with_reducible exact LeO.none _)
      | (with_reducible refine LeO.ite ?_ ?_)
      | (with_reducible refine LeO.bind ?_ (fun _ => ?_))
      | exact ih0 _ _ _ _ _ _ _ _
      | exact ih1 _ _ _ _ _ _ _
      | exact ih2 _ _ _ _ _ _ _ _
      | exact LeO.none _
      | refine LeO.ite ?_ ?_
      | refine LeO.bind ?_ (fun _ => ?_)
theorem goimap_Seq_Merge.mono : ∀ a0 a1 a2 a3 k, LeO (goimap_Seq_Merge.f k a0 a1 a2 a3) (goimap_Seq_Merge.f (k + 1) a0 a1 a2 a3) := by
  intro a0 a1 a2 a3 k
  obtain ⟨ih0, ih1, ih2⟩ := goimap_Seq_Merge.mono_l k
  unfold goimap_Seq_Merge.f
  repeat' first
      | (with_reducible exact ih0 _ _ _ _ _ _ _ _)
      | (with_reducible exact ih1 _ _ _ _ _ _ _)
      | (with_reducible exact ih2 _ _ _ _ _ _ _ _)
      | (with_reducible exact LeO.refl _)
      | (with_reducible exact LeO.none _)
      | (with_reducible refine LeO.ite ?_ ?_)
      | (with_reducible refine LeO.bind ?_ (fun _ => ?_))
      | exact ih0 _ _ _ _ _ _ _ _
      | exact ih1 _ _ _ _ _ _ _
      | exact ih2 _ _ _ _ _ _ _ _
      | exact LeO.none _
      | refine LeO.ite ?_ ?_
      | refine LeO.bind ?_ (fun _ => ?_)
set_option maxHeartbeats 8000000 in
set_option maxRecDepth 100000 in
theorem goimap_Seq_Merge.calls (k : Nat) (a0_0 : Int) (a0_1 : Int) (a1_0 : Int) (a1_1 : Int) (r1 : Int) (r2 : Int) (r3 : Bool) (w : World) (h : goimap_Seq_Merge.f k a0_0 a0_1 a1_0 a1_1 = some (r1, r2, r3)) :
    Calls Tryd.prog 23 #[.agg #[.int .u32 a0_0, .int .u32 a0_1], .agg #[.int .u32 a1_0, .int .u32 a1_1]] w fun e w' => e = .returned (.tuple #[.agg #[.int .u32 r1, .int .u32 r2], .bool r3]) ∧ Below w.heap.size w w' := by
  have hu50 := Tryd.underlying50
  have HB := Aside0.mk (Below.refl w.heap.size w)
  have H : (if (a0_0 == a1_0 && (a0_1 == a1_1)) = true then (some (a0_0, a0_1, true)) else (if a0_0 = 0 then (goimap_Seq_Merge.j0 k false false a0_0 a0_1 a1_0 a1_1 a0_0 a0_1) else (goimap_Seq_Merge.j0 k false (a1_0 != 0) a0_0 a0_1 a1_0 a1_1 a0_0 a0_1))) = some (r1, r2, r3) := h
  clear h
  by_cases c3 : (a0_0 == a1_0 && (a0_1 == a1_1)) = true
  · rw [if_pos c3] at H
    have c3b0 : (a0_0 == a1_0 && (a0_1 == a1_1)) = true := c3
    (try (have c3b1 : decide (a0_0 = a1_0 && (a0_1 == a1_1)) = true := by simpa using c3))
    (try (have c3b2 : (a0_0 == a1_0 && (a0_1 == a1_1)) = true := by simpa using c3))
    clear c3
    simp only [Option.some.injEq, Prod.mk.injEq] at H
    obtain ⟨rfl, rfl, rfl⟩ := H
    go_enter Tryd.func23, Tryd.ntmps23
    go_wp2_with (first | ((with_reducible refine gate_dst (N := 2) rfl ?_); refine box_event ?hg (N := 2) ?hd (cs := #[.int .u32 a0_0, .int .u32 a0_1]) (t := 50) ?hr ?_; (case hd => rfl); (case hg => rfl); (case hr => first | (go_simp; done) | (go_simp; rfl)); intro gb141 hg w4 hbox hb; have n0_ := Aside0.mk (below_step (by repeat (first | (with_reducible first | exact HB.out | apply below_alloc | apply pw_below_drewN | apply below_drew1) | exact HB.out)) hb); have n1_ := Aside0.mk (hbox); have n2_ := Aside0.mk ((by rw [hg]; exact (below_size (by repeat (first | (with_reducible first | exact HB.out | apply below_alloc | apply pw_below_drewN | apply below_drew1) | exact HB.out))) : w.heap.size ≤ gb141)); have n3_ := Aside0.mk ((by rw [hg]; exact (below_size (by repeat (first | (with_reducible first | exact HB.out | apply below_alloc | apply pw_below_drewN | apply below_drew1) | exact HB.out))) : w.heap.size ≤ gb141)); clear HB; have HB := n0_; have BK141 := n1_; have GW141 := n2_; have GE141 := n3_; clear n0_ n1_ n2_ n3_; clear hb hbox hg) | ((with_reducible refine gate_dst (N := 3) rfl ?_); refine box_event ?hg (N := 3) ?hd (cs := #[.int .u32 a1_0, .int .u32 a1_1]) (t := 50) ?hr ?_; (case hd => rfl); (case hg => rfl); (case hr => first | (go_simp; done) | (go_simp; rfl)); intro gb142 hg w5 hbox hb; have n0_ := Aside0.mk (blk_below (g := gb141) (o := .cells #[.int .u32 a0_0, .int .u32 a0_1] 50 (0, 0)) (by (with_reducible repeat (first | refine blk_drewN ?_ _ | refine blk_drew ?_ | refine blk_alloc ?_ _)); exact BK141.out) hb); have n1_ := Aside0.mk (below_step (by repeat (first | (with_reducible first | exact HB.out | apply below_alloc | apply pw_below_drewN | apply below_drew1 | refine below_set ?_ GE141.out) | exact HB.out)) hb); have n2_ := Aside0.mk (hbox); have n3_ := Aside0.mk ((by rw [hg]; exact (below_size (by repeat (first | (with_reducible first | exact HB.out | apply below_alloc | apply pw_below_drewN | apply below_drew1 | refine below_set ?_ GE141.out) | exact HB.out))) : w.heap.size ≤ gb142)); have n4_ := Aside0.mk ((by rw [hg]; exact (below_size (by repeat (first | (with_reducible first | exact HB.out | apply below_alloc | apply pw_below_drewN | apply below_drew1 | refine below_set ?_ GE141.out) | exact HB.out))) : w.heap.size ≤ gb142)); have n5_ := Aside0.mk ((by rw [hg]; exact Nat.ne_of_lt (blk_lt (g := gb141) (o := .cells #[.int .u32 a0_0, .int .u32 a0_1] 50 (0, 0)) (by (with_reducible repeat (first | refine blk_drewN ?_ _ | refine blk_drew ?_ | refine blk_alloc ?_ _)); exact BK141.out)) : gb141 ≠ gb142)); have n6_ := Aside0.mk ((by rw [hg]; exact Nat.ne_of_gt (blk_lt (g := gb141) (o := .cells #[.int .u32 a0_0, .int .u32 a0_1] 50 (0, 0)) (by (with_reducible repeat (first | refine blk_drewN ?_ _ | refine blk_drew ?_ | refine blk_alloc ?_ _)); exact BK141.out)) : gb142 ≠ gb141)); clear BK141; clear HB; have BK141 := n0_; have HB := n1_; have BK142 := n2_; have GW142 := n3_; have GE142 := n4_; have NB141_142 := n5_; have NB142_141 := n6_; clear n0_ n1_ n2_ n3_ n4_ n5_ n6_; clear hb hbox hg) | ((with_reducible refine gate_dst (N := 4) rfl ?_); refine box_event ?hg (N := 4) ?hd (cs := #[.int .u32 0, .int .u32 0]) (t := 50) ?hr ?_; (case hd => rfl); (case hg => rfl); (case hr => first | (go_simp; done) | (go_simp; rfl)); intro gb143 hg w6 hbox hb; have n0_ := Aside0.mk (blk_below (g := gb141) (o := .cells #[.int .u32 a0_0, .int .u32 a0_1] 50 (0, 0)) (by (with_reducible repeat (first | refine blk_drewN ?_ _ | refine blk_drew ?_ | refine blk_alloc ?_ _)); exact BK141.out) hb); have n1_ := Aside0.mk (blk_below (g := gb142) (o := .cells #[.int .u32 a1_0, .int .u32 a1_1] 50 (0, 0)) (by (with_reducible repeat (first | refine blk_drewN ?_ _ | refine blk_drew ?_ | refine blk_alloc ?_ _)); exact BK142.out) hb); have n2_ := Aside0.mk (below_step (by repeat (first | (with_reducible first | exact HB.out | apply below_alloc | apply pw_below_drewN | apply below_drew1 | refine below_set ?_ GE141.out | refine below_set ?_ GE142.out) | exact HB.out)) hb); have n3_ := Aside0.mk (hbox); have n4_ := Aside0.mk ((by rw [hg]; exact (below_size (by repeat (first | (with_reducible first | exact HB.out | apply below_alloc | apply pw_below_drewN | apply below_drew1 | refine below_set ?_ GE141.out | refine below_set ?_ GE142.out) | exact HB.out))) : w.heap.size ≤ gb143)); have n5_ := Aside0.mk ((by rw [hg]; exact (below_size (by repeat (first | (with_reducible first | exact HB.out | apply below_alloc | apply pw_below_drewN | apply below_drew1 | refine below_set ?_ GE141.out | refine below_set ?_ GE142.out) | exact HB.out))) : w.heap.size ≤ gb143)); have n6_ := Aside0.mk ((by rw [hg]; exact Nat.ne_of_lt (blk_lt (g := gb141) (o := .cells #[.int .u32 a0_0, .int .u32 a0_1] 50 (0, 0)) (by (with_reducible repeat (first | refine blk_drewN ?_ _ | refine blk_drew ?_ | refine blk_alloc ?_ _)); exact BK141.out)) : gb141 ≠ gb143)); have n7_ := Aside0.mk ((by rw [hg]; exact Nat.ne_of_gt (blk_lt (g := gb141) (o := .cells #[.int .u32 a0_0, .int .u32 a0_1] 50 (0, 0)) (by (with_reducible repeat (first | refine blk_drewN ?_ _ | refine blk_drew ?_ | refine blk_alloc ?_ _)); exact BK141.out)) : gb143 ≠ gb141)); have n8_ := Aside0.mk ((by rw [hg]; exact Nat.ne_of_lt (blk_lt (g := gb142) (o := .cells #[.int .u32 a1_0, .int .u32 a1_1] 50 (0, 0)) (by (with_reducible repeat (first | refine blk_drewN ?_ _ | refine blk_drew ?_ | refine blk_alloc ?_ _)); exact BK142.out)) : gb142 ≠ gb143)); have n9_ := Aside0.mk ((by rw [hg]; exact Nat.ne_of_gt (blk_lt (g := gb142) (o := .cells #[.int .u32 a1_0, .int .u32 a1_1] 50 (0, 0)) (by (with_reducible repeat (first | refine blk_drewN ?_ _ | refine blk_drew ?_ | refine blk_alloc ?_ _)); exact BK142.out)) : gb143 ≠ gb142)); clear BK141; clear BK142; clear HB; have BK141 := n0_; have BK142 := n1_; have HB := n2_; have BK143 := n3_; have GW143 := n4_; have GE143 := n5_; have NB141_143 := n6_; have NB143_141 := n7_; have NB142_143 := n8_; have NB143_142 := n9_; clear n0_ n1_ n2_ n3_ n4_ n5_ n6_ n7_ n8_ n9_; clear hb hbox hg; have hnb7 := NB141_142.out; have hnc7 := NB142_141.out; have hnb8 := NB141_143.out; have hnc8 := NB143_141.out; have hcz9_0 : w6.cell? ⟨gb141, 0, none⟩ = some (.int .u32 a0_0) := (blk_cell BK141.out 0).trans rfl; have hcz9_1 : w6.cell? ⟨gb141, 1, none⟩ = some (.int .u32 a0_1) := (blk_cell BK141.out 1).trans rfl; have hfz9_0 := blk_frozen BK141.out 0; have hfz9_1 := blk_frozen BK141.out 1; have hnb10 := NB143_142.out; have hnc10 := NB142_143.out; have hcz11_0 : w6.cell? ⟨gb143, 0, none⟩ = some (.int .u32 0) := (blk_cell BK143.out 0).trans rfl; have hcz11_1 : w6.cell? ⟨gb143, 1, none⟩ = some (.int .u32 0) := (blk_cell BK143.out 1).trans rfl; have hfz11_0 := blk_frozen BK143.out 0; have hfz11_1 := blk_frozen BK143.out 1; have hcz12_0 : w6.cell? ⟨gb142, 0, none⟩ = some (.int .u32 a1_0) := (blk_cell BK142.out 0).trans rfl; have hcz12_1 : w6.cell? ⟨gb142, 1, none⟩ = some (.int .u32 a1_1) := (blk_cell BK142.out 1).trans rfl; have hfz12_0 := blk_frozen BK142.out 0; have hfz12_1 := blk_frozen BK142.out 1))
    refine bodyPost_ret (results_ct rfl _ _ gb143 50 #[.int .u32 a0_0, .int .u32 a0_1] (0, 0) _ rfl (by (with_reducible repeat (first | refine blk_drewN ?_ _ | refine blk_drew ?_ | refine blk_alloc ?_ _)); refine blk_put (cs := #[.int .u32 a0_0, .int .u32 0]) ?_ 1 _ rfl; (with_reducible repeat (first | refine blk_drewN ?_ _ | refine blk_drew ?_ | refine blk_alloc ?_ _)); refine blk_put (cs := #[.int .u32 0, .int .u32 0]) ?_ 0 _ rfl; (with_reducible repeat (first | refine blk_drewN ?_ _ | refine blk_drew ?_ | refine blk_alloc ?_ _)); exact BK143.out) Tryd.underlying50 rfl (by kernel_rfl)) rfl ?_
    exact ⟨by first | rfl | (simp [errW_none, errW_some] <;> rfl) | (simp [*, errW_none, errW_some] <;> rfl), by repeat (first | (with_reducible first | exact HB.out | apply below_alloc | apply pw_below_drewN | apply below_drew1 | refine below_set ?_ GE141.out | refine below_set ?_ GE142.out | refine below_set ?_ GE143.out) | exact HB.out)⟩
  · rw [if_neg c3] at H
    have c3b0 : (a0_0 == a1_0 && (a0_1 == a1_1)) = false := by simpa using c3
    (try (have c3b1 : decide (a0_0 = a1_0 && (a0_1 == a1_1)) = false := by simpa using c3))
    (try (have c3b2 : (a0_0 == a1_0 && (a0_1 == a1_1)) = false := by simpa using c3))
    (try (have c3b3 : ¬ (a0_0 = a1_0 && (a0_1 == a1_1)) := by simpa using c3))
    clear c3
    have HC13 := Aside0.mk H
    clear H
    go_enter Tryd.func23, Tryd.ntmps23
    go_upto_region 4 with (first | ((with_reducible refine gate_dst (N := 2) rfl ?_); refine box_event ?hg (N := 2) ?hd (cs := #[.int .u32 a0_0, .int .u32 a0_1]) (t := 50) ?hr ?_; (case hd => rfl); (case hg => rfl); (case hr => first | (go_simp; done) | (go_simp; rfl)); intro gb141 hg w14 hbox hb; have n0_ := Aside0.mk (below_step (by repeat (first | (with_reducible first | exact HB.out | apply below_alloc | apply pw_below_drewN | apply below_drew1) | exact HB.out)) hb); have n1_ := Aside0.mk (hbox); have n2_ := Aside0.mk ((by rw [hg]; exact (below_size (by repeat (first | (with_reducible first | exact HB.out | apply below_alloc | apply pw_below_drewN | apply below_drew1) | exact HB.out))) : w.heap.size ≤ gb141)); have n3_ := Aside0.mk ((by rw [hg]; exact (below_size (by repeat (first | (with_reducible first | exact HB.out | apply below_alloc | apply pw_below_drewN | apply below_drew1) | exact HB.out))) : w.heap.size ≤ gb141)); clear HB; have HB := n0_; have BK141 := n1_; have GW141 := n2_; have GE141 := n3_; clear n0_ n1_ n2_ n3_; clear hb hbox hg) | ((with_reducible refine gate_dst (N := 3) rfl ?_); refine box_event ?hg (N := 3) ?hd (cs := #[.int .u32 a1_0, .int .u32 a1_1]) (t := 50) ?hr ?_; (case hd => rfl); (case hg => rfl); (case hr => first | (go_simp; done) | (go_simp; rfl)); intro gb142 hg w15 hbox hb; have n0_ := Aside0.mk (blk_below (g := gb141) (o := .cells #[.int .u32 a0_0, .int .u32 a0_1] 50 (0, 0)) (by (with_reducible repeat (first | refine blk_drewN ?_ _ | refine blk_drew ?_ | refine blk_alloc ?_ _)); exact BK141.out) hb); have n1_ := Aside0.mk (below_step (by repeat (first | (with_reducible first | exact HB.out | apply below_alloc | apply pw_below_drewN | apply below_drew1 | refine below_set ?_ GE141.out) | exact HB.out)) hb); have n2_ := Aside0.mk (hbox); have n3_ := Aside0.mk ((by rw [hg]; exact (below_size (by repeat (first | (with_reducible first | exact HB.out | apply below_alloc | apply pw_below_drewN | apply below_drew1 | refine below_set ?_ GE141.out) | exact HB.out))) : w.heap.size ≤ gb142)); have n4_ := Aside0.mk ((by rw [hg]; exact (below_size (by repeat (first | (with_reducible first | exact HB.out | apply below_alloc | apply pw_below_drewN | apply below_drew1 | refine below_set ?_ GE141.out) | exact HB.out))) : w.heap.size ≤ gb142)); have n5_ := Aside0.mk ((by rw [hg]; exact Nat.ne_of_lt (blk_lt (g := gb141) (o := .cells #[.int .u32 a0_0, .int .u32 a0_1] 50 (0, 0)) (by (with_reducible repeat (first | refine blk_drewN ?_ _ | refine blk_drew ?_ | refine blk_alloc ?_ _)); exact BK141.out)) : gb141 ≠ gb142)); have n6_ := Aside0.mk ((by rw [hg]; exact Nat.ne_of_gt (blk_lt (g := gb141) (o := .cells #[.int .u32 a0_0, .int .u32 a0_1] 50 (0, 0)) (by (with_reducible repeat (first | refine blk_drewN ?_ _ | refine blk_drew ?_ | refine blk_alloc ?_ _)); exact BK141.out)) : gb142 ≠ gb141)); clear BK141; clear HB; have BK141 := n0_; have HB := n1_; have BK142 := n2_; have GW142 := n3_; have GE142 := n4_; have NB141_142 := n5_; have NB142_141 := n6_; clear n0_ n1_ n2_ n3_ n4_ n5_ n6_; clear hb hbox hg) | ((with_reducible refine gate_dst (N := 4) rfl ?_); refine box_event ?hg (N := 4) ?hd (cs := #[.int .u32 0, .int .u32 0]) (t := 50) ?hr ?_; (case hd => rfl); (case hg => rfl); (case hr => first | (go_simp; done) | (go_simp; rfl)); intro gb143 hg w16 hbox hb; have n0_ := Aside0.mk (blk_below (g := gb141) (o := .cells #[.int .u32 a0_0, .int .u32 a0_1] 50 (0, 0)) (by (with_reducible repeat (first | refine blk_drewN ?_ _ | refine blk_drew ?_ | refine blk_alloc ?_ _)); exact BK141.out) hb); have n1_ := Aside0.mk (blk_below (g := gb142) (o := .cells #[.int .u32 a1_0, .int .u32 a1_1] 50 (0, 0)) (by (with_reducible repeat (first | refine blk_drewN ?_ _ | refine blk_drew ?_ | refine blk_alloc ?_ _)); exact BK142.out) hb); have n2_ := Aside0.mk (below_step (by repeat (first | (with_reducible first | exact HB.out | apply below_alloc | apply pw_below_drewN | apply below_drew1 | refine below_set ?_ GE141.out | refine below_set ?_ GE142.out) | exact HB.out)) hb); have n3_ := Aside0.mk (hbox); have n4_ := Aside0.mk ((by rw [hg]; exact (below_size (by repeat (first | (with_reducible first | exact HB.out | apply below_alloc | apply pw_below_drewN | apply below_drew1 | refine below_set ?_ GE141.out | refine below_set ?_ GE142.out) | exact HB.out))) : w.heap.size ≤ gb143)); have n5_ := Aside0.mk ((by rw [hg]; exact (below_size (by repeat (first | (with_reducible first | exact HB.out | apply below_alloc | apply pw_below_drewN | apply below_drew1 | refine below_set ?_ GE141.out | refine below_set ?_ GE142.out) | exact HB.out))) : w.heap.size ≤ gb143)); have n6_ := Aside0.mk ((by rw [hg]; exact Nat.ne_of_lt (blk_lt (g := gb141) (o := .cells #[.int .u32 a0_0, .int .u32 a0_1] 50 (0, 0)) (by (with_reducible repeat (first | refine blk_drewN ?_ _ | refine blk_drew ?_ | refine blk_alloc ?_ _)); exact BK141.out)) : gb141 ≠ gb143)); have n7_ := Aside0.mk ((by rw [hg]; exact Nat.ne_of_gt (blk_lt (g := gb141) (o := .cells #[.int .u32 a0_0, .int .u32 a0_1] 50 (0, 0)) (by (with_reducible repeat (first | refine blk_drewN ?_ _ | refine blk_drew ?_ | refine blk_alloc ?_ _)); exact BK141.out)) : gb143 ≠ gb141)); have n8_ := Aside0.mk ((by rw [hg]; exact Nat.ne_of_lt (blk_lt (g := gb142) (o := .cells #[.int .u32 a1_0, .int .u32 a1_1] 50 (0, 0)) (by (with_reducible repeat (first | refine blk_drewN ?_ _ | refine blk_drew ?_ | refine blk_alloc ?_ _)); exact BK142.out)) : gb142 ≠ gb143)); have n9_ := Aside0.mk ((by rw [hg]; exact Nat.ne_of_gt (blk_lt (g := gb142) (o := .cells #[.int .u32 a1_0, .int .u32 a1_1] 50 (0, 0)) (by (with_reducible repeat (first | refine blk_drewN ?_ _ | refine blk_drew ?_ | refine blk_alloc ?_ _)); exact BK142.out)) : gb143 ≠ gb142)); clear BK141; clear BK142; clear HB; have BK141 := n0_; have BK142 := n1_; have HB := n2_; have BK143 := n3_; have GW143 := n4_; have GE143 := n5_; have NB141_143 := n6_; have NB143_141 := n7_; have NB142_143 := n8_; have NB143_142 := n9_; clear n0_ n1_ n2_ n3_ n4_ n5_ n6_ n7_ n8_ n9_; clear hb hbox hg; have hnb17 := NB141_142.out; have hnc17 := NB142_141.out; have hnb18 := NB141_143.out; have hnc18 := NB143_141.out; have hcz19_0 : w16.cell? ⟨gb141, 0, none⟩ = some (.int .u32 a0_0) := (blk_cell BK141.out 0).trans rfl; have hcz19_1 : w16.cell? ⟨gb141, 1, none⟩ = some (.int .u32 a0_1) := (blk_cell BK141.out 1).trans rfl; have hfz19_0 := blk_frozen BK141.out 0; have hfz19_1 := blk_frozen BK141.out 1; have hnb20 := NB143_142.out; have hnc20 := NB142_143.out; have hcz21_0 : w16.cell? ⟨gb143, 0, none⟩ = some (.int .u32 0) := (blk_cell BK143.out 0).trans rfl; have hcz21_1 : w16.cell? ⟨gb143, 1, none⟩ = some (.int .u32 0) := (blk_cell BK143.out 1).trans rfl; have hfz21_0 := blk_frozen BK143.out 0; have hfz21_1 := blk_frozen BK143.out 1; have hcz22_0 : w16.cell? ⟨gb142, 0, none⟩ = some (.int .u32 a1_0) := (blk_cell BK142.out 0).trans rfl; have hcz22_1 : w16.cell? ⟨gb142, 1, none⟩ = some (.int .u32 a1_1) := (blk_cell BK142.out 1).trans rfl; have hfz22_0 := blk_frozen BK142.out 0; have hfz22_1 := blk_frozen BK142.out 1))
    (try simp only [Act.put, List.setIfInBounds_toArray, List.set_cons_zero, List.set_cons_succ])
    go_cut [17] (fun v17 wc => ∃ (kq : Nat) (x17_12 : Bool), v17 = .bool x17_12 ∧ Aside0 (goimap_Seq_Merge.j0 kq false x17_12 a0_0 a0_1 a1_0 a1_1 a0_0 a0_1 = some (r1, r2, r3)) ∧ Aside0 (kq ≤ k) ∧ Aside0 (wc.heap[gb141]? = some (.cells #[.int .u32 a0_0, .int .u32 a0_1] 50 (0, 0))) ∧ Aside0 (wc.heap[gb142]? = some (.cells #[.int .u32 a1_0, .int .u32 a1_1] 50 (0, 0))) ∧ Aside0 (wc.heap[gb143]? = some (.cells #[.int .u32 a0_0, .int .u32 a0_1] 50 (0, 0))) ∧ Aside0 (Below w.heap.size w wc))
    case first =>
      have H := HC13.out
      clear HC13
      by_cases c23 : a0_0 = 0
      · rw [if_pos c23] at H
        have c23b0 : (a0_0 == 0) = true := beq_iff_eq.mpr c23
        have c23b1 : (a0_0 != 0) = false := bne_eq_false_iff_eq.mpr c23
        clear c23
        (first | rw [c23b0] | (simp only [i64_w, i32_w]; rw [c23b0]) | skip)
        have H' := Aside0.mk H
        clear H
        have hnb24 := NB141_142.out
        have hnc24 := NB142_141.out
        have hnb25 := NB141_143.out
        have hnc25 := NB143_141.out
        have hcz26_0 : w16.cell? ⟨gb141, 0, none⟩ = some (.int .u32 a0_0) := (blk_cell BK141.out 0).trans rfl
        have hcz26_1 : w16.cell? ⟨gb141, 1, none⟩ = some (.int .u32 a0_1) := (blk_cell BK141.out 1).trans rfl
        have hfz26_0 := blk_frozen BK141.out 0
        have hfz26_1 := blk_frozen BK141.out 1
        go_wp2
        go_meet
        case rel => exact ⟨_, (false), (by first | rfl | (simp; done) | (simp [*]; done)), H', ⟨by first | omega | exact Nat.le_refl _⟩, ⟨by (with_reducible repeat (first | refine blk_drewN ?_ _ | refine blk_drew ?_ | refine blk_alloc ?_ _)); refine blk_far ?_ NB141_143.out _; (with_reducible repeat (first | refine blk_drewN ?_ _ | refine blk_drew ?_ | refine blk_alloc ?_ _)); refine blk_far ?_ NB141_143.out _; (with_reducible repeat (first | refine blk_drewN ?_ _ | refine blk_drew ?_ | refine blk_alloc ?_ _)); exact BK141.out⟩, ⟨by (with_reducible repeat (first | refine blk_drewN ?_ _ | refine blk_drew ?_ | refine blk_alloc ?_ _)); refine blk_far ?_ NB142_143.out _; (with_reducible repeat (first | refine blk_drewN ?_ _ | refine blk_drew ?_ | refine blk_alloc ?_ _)); refine blk_far ?_ NB142_143.out _; (with_reducible repeat (first | refine blk_drewN ?_ _ | refine blk_drew ?_ | refine blk_alloc ?_ _)); exact BK142.out⟩, ⟨by (with_reducible repeat (first | refine blk_drewN ?_ _ | refine blk_drew ?_ | refine blk_alloc ?_ _)); refine blk_put (cs := #[.int .u32 a0_0, .int .u32 0]) ?_ 1 _ rfl; (with_reducible repeat (first | refine blk_drewN ?_ _ | refine blk_drew ?_ | refine blk_alloc ?_ _)); refine blk_put (cs := #[.int .u32 0, .int .u32 0]) ?_ 0 _ rfl; (with_reducible repeat (first | refine blk_drewN ?_ _ | refine blk_drew ?_ | refine blk_alloc ?_ _)); exact BK143.out⟩, ⟨by repeat (first | (with_reducible first | exact HB.out | apply below_alloc | apply pw_below_drewN | apply below_drew1 | refine below_set ?_ GE141.out | refine below_set ?_ GE142.out | refine below_set ?_ GE143.out) | exact HB.out)⟩⟩
      · rw [if_neg c23] at H
        have c23b0 : (a0_0 == 0) = false := beq_eq_false_iff_ne.mpr c23
        have c23b1 : (a0_0 != 0) = true := bne_iff_ne.mpr c23
        (first | rw [c23b0] | (simp only [i64_w, i32_w]; rw [c23b0]) | skip)
        have H' := Aside0.mk H
        clear H
        have hnb27 := NB141_142.out
        have hnc27 := NB142_141.out
        have hnb28 := NB141_143.out
        have hnc28 := NB143_141.out
        have hcz29_0 : w16.cell? ⟨gb141, 0, none⟩ = some (.int .u32 a0_0) := (blk_cell BK141.out 0).trans rfl
        have hcz29_1 : w16.cell? ⟨gb141, 1, none⟩ = some (.int .u32 a0_1) := (blk_cell BK141.out 1).trans rfl
        have hfz29_0 := blk_frozen BK141.out 0
        have hfz29_1 := blk_frozen BK141.out 1
        have hnb30 := NB142_143.out
        have hnc30 := NB143_142.out
        have hcz31_0 : w16.cell? ⟨gb142, 0, none⟩ = some (.int .u32 a1_0) := (blk_cell BK142.out 0).trans rfl
        have hcz31_1 : w16.cell? ⟨gb142, 1, none⟩ = some (.int .u32 a1_1) := (blk_cell BK142.out 1).trans rfl
        have hfz31_0 := blk_frozen BK142.out 0
        have hfz31_1 := blk_frozen BK142.out 1
        go_wp2
        go_meet
        case rel => exact ⟨_, ((a1_0 != 0)), (by first | rfl | (simp; done) | (simp [*]; done)), H', ⟨by first | omega | exact Nat.le_refl _⟩, ⟨by (with_reducible repeat (first | refine blk_drewN ?_ _ | refine blk_drew ?_ | refine blk_alloc ?_ _)); refine blk_far ?_ NB141_143.out _; (with_reducible repeat (first | refine blk_drewN ?_ _ | refine blk_drew ?_ | refine blk_alloc ?_ _)); refine blk_far ?_ NB141_143.out _; (with_reducible repeat (first | refine blk_drewN ?_ _ | refine blk_drew ?_ | refine blk_alloc ?_ _)); exact BK141.out⟩, ⟨by (with_reducible repeat (first | refine blk_drewN ?_ _ | refine blk_drew ?_ | refine blk_alloc ?_ _)); refine blk_far ?_ NB142_143.out _; (with_reducible repeat (first | refine blk_drewN ?_ _ | refine blk_drew ?_ | refine blk_alloc ?_ _)); refine blk_far ?_ NB142_143.out _; (with_reducible repeat (first | refine blk_drewN ?_ _ | refine blk_drew ?_ | refine blk_alloc ?_ _)); exact BK142.out⟩, ⟨by (with_reducible repeat (first | refine blk_drewN ?_ _ | refine blk_drew ?_ | refine blk_alloc ?_ _)); refine blk_put (cs := #[.int .u32 a0_0, .int .u32 0]) ?_ 1 _ rfl; (with_reducible repeat (first | refine blk_drewN ?_ _ | refine blk_drew ?_ | refine blk_alloc ?_ _)); refine blk_put (cs := #[.int .u32 0, .int .u32 0]) ?_ 0 _ rfl; (with_reducible repeat (first | refine blk_drewN ?_ _ | refine blk_drew ?_ | refine blk_alloc ?_ _)); exact BK143.out⟩, ⟨by repeat (first | (with_reducible first | exact HB.out | apply below_alloc | apply pw_below_drewN | apply below_drew1 | refine below_set ?_ GE141.out | refine below_set ?_ GE142.out | refine below_set ?_ GE143.out) | exact HB.out)⟩⟩
    case rest =>
      clear HC13
      try clear c1
      try clear c2
      try clear p2
      try clear c3
      try clear c3b0
      try clear c3b1
      try clear c3b2
      try clear c7
      try clear c8
      try clear c10
      try clear c17
      try clear c18
      try clear c20
      try clear c23
      try clear c23b0
      try clear c23b1
      try clear c24
      try clear c25
      try clear c27
      try clear c28
      try clear c30
      try clear hcz11_0
      try clear hcz11_1
      try clear hcz12_0
      try clear hcz12_1
      try clear hcz19_0
      try clear hcz19_1
      try clear hcz21_0
      try clear hcz21_1
      try clear hcz22_0
      try clear hcz22_1
      try clear hcz26_0
      try clear hcz26_1
      try clear hcz29_0
      try clear hcz29_1
      try clear hcz31_0
      try clear hcz31_1
      try clear hcz9_0
      try clear hcz9_1
      try clear hfz11_0
      try clear hfz11_1
      try clear hfz12_0
      try clear hfz12_1
      try clear hfz19_0
      try clear hfz19_1
      try clear hfz21_0
      try clear hfz21_1
      try clear hfz22_0
      try clear hfz22_1
      try clear hfz26_0
      try clear hfz26_1
      try clear hfz29_0
      try clear hfz29_1
      try clear hfz31_0
      try clear hfz31_1
      try clear hfz9_0
      try clear hfz9_1
      obtain ⟨kq, x17_12, rfl, HA, HJ12, BK141, BK142, BK143, HB⟩ := hcut
      cases kq with
      | zero => exact absurd HA.out (by simp [goimap_Seq_Merge.j0])
      | succ kj12 =>
        have H := HA.out
        clear HA
        simp only [goimap_Seq_Merge.j0] at H
        by_cases c32 : x17_12 = true
        · subst c32
          have H1 : (if a0_0 > a1_0 then (goimap_Seq_Merge.j1 kj12 false a1_0 a1_1 a0_0 a0_1 a0_0 a0_1) else (goimap_Seq_Merge.j1 kj12 false a0_0 a0_1 a1_0 a1_1 a0_0 a0_1)) = some (r1, r2, r3) := by rw [if_pos rfl] at H; exact H
          clear H
          have H := H1
          clear H1
          have HC33 := Aside0.mk H
          clear H
          have hnb34 := NB141_142.out
          have hnc34 := NB142_141.out
          have hnb35 := NB141_143.out
          have hnc35 := NB143_141.out
          have hcz36_0 : wc.cell? ⟨gb141, 0, none⟩ = some (.int .u32 a0_0) := (blk_cell BK141.out 0).trans rfl
          have hcz36_1 : wc.cell? ⟨gb141, 1, none⟩ = some (.int .u32 a0_1) := (blk_cell BK141.out 1).trans rfl
          have hfz36_0 := blk_frozen BK141.out 0
          have hfz36_1 := blk_frozen BK141.out 1
          have hnb37 := NB142_143.out
          have hnc37 := NB143_142.out
          have hcz38_0 : wc.cell? ⟨gb142, 0, none⟩ = some (.int .u32 a1_0) := (blk_cell BK142.out 0).trans rfl
          have hcz38_1 : wc.cell? ⟨gb142, 1, none⟩ = some (.int .u32 a1_1) := (blk_cell BK142.out 1).trans rfl
          have hfz38_0 := blk_frozen BK142.out 0
          have hfz38_1 := blk_frozen BK142.out 1
          go_upto_if 22 with (fail)
          go_cut [] (fun wc => ∃ (kq : Nat) (x142000_32 : Int) (x142001_32 : Int) (x143000_32 : Int) (x143001_32 : Int), Aside0 (goimap_Seq_Merge.j1 kq false x142000_32 x142001_32 x143000_32 x143001_32 a0_0 a0_1 = some (r1, r2, r3)) ∧ Aside0 (kq ≤ kj12) ∧ Aside0 (wc.heap[gb141]? = some (.cells #[.int .u32 x142000_32, .int .u32 x142001_32] 50 (0, 0))) ∧ Aside0 (wc.heap[gb142]? = some (.cells #[.int .u32 x143000_32, .int .u32 x143001_32] 50 (0, 0))) ∧ Aside0 (wc.heap[gb143]? = some (.cells #[.int .u32 a0_0, .int .u32 a0_1] 50 (0, 0))) ∧ Aside0 (Below w.heap.size w wc))
          case first =>
            have H := HC33.out
            clear HC33
            by_cases c39 : a0_0 > a1_0
            · rw [if_pos c39] at H
              have c39b0 : decide (a1_0 < a0_0) = true := decide_eq_true c39
              clear c39
              (first | rw [c39b0] | (simp only [i64_w, i32_w]; rw [c39b0]) | skip)
              have H' := Aside0.mk H
              clear H
              have hnb40 := NB142_141.out
              have hnc40 := NB141_142.out
              have hnb41 := NB142_143.out
              have hnc41 := NB143_142.out
              have hcz42_0 : wc.cell? ⟨gb142, 0, none⟩ = some (.int .u32 a1_0) := (blk_cell BK142.out 0).trans rfl
              have hcz42_1 : wc.cell? ⟨gb142, 1, none⟩ = some (.int .u32 a1_1) := (blk_cell BK142.out 1).trans rfl
              have hfz42_0 := blk_frozen BK142.out 0
              have hfz42_1 := blk_frozen BK142.out 1
              have hnb43 := NB141_143.out
              have hnc43 := NB143_141.out
              have hcz44_0 : wc.cell? ⟨gb141, 0, none⟩ = some (.int .u32 a0_0) := (blk_cell BK141.out 0).trans rfl
              have hcz44_1 : wc.cell? ⟨gb141, 1, none⟩ = some (.int .u32 a0_1) := (blk_cell BK141.out 1).trans rfl
              have hfz44_0 := blk_frozen BK141.out 0
              have hfz44_1 := blk_frozen BK141.out 1
              go_wp2
              go_meet
              case rel => exact ⟨_, (a1_0), (a1_1), (a0_0), (a0_1), H', ⟨by have := HJ12.out; first | omega | exact Nat.le_refl _⟩, ⟨by (with_reducible repeat (first | refine blk_drewN ?_ _ | refine blk_drew ?_ | refine blk_alloc ?_ _)); refine blk_far ?_ NB141_142.out _; (with_reducible repeat (first | refine blk_drewN ?_ _ | refine blk_drew ?_ | refine blk_alloc ?_ _)); refine blk_far ?_ NB141_142.out _; (with_reducible repeat (first | refine blk_drewN ?_ _ | refine blk_drew ?_ | refine blk_alloc ?_ _)); refine blk_put (cs := #[.int .u32 a1_0, .int .u32 a0_1]) ?_ 1 _ rfl; (with_reducible repeat (first | refine blk_drewN ?_ _ | refine blk_drew ?_ | refine blk_alloc ?_ _)); refine blk_put (cs := #[.int .u32 a0_0, .int .u32 a0_1]) ?_ 0 _ rfl; (with_reducible repeat (first | refine blk_drewN ?_ _ | refine blk_drew ?_ | refine blk_alloc ?_ _)); exact BK141.out⟩, ⟨by (with_reducible repeat (first | refine blk_drewN ?_ _ | refine blk_drew ?_ | refine blk_alloc ?_ _)); refine blk_put (cs := #[.int .u32 a0_0, .int .u32 a1_1]) ?_ 1 _ rfl; (with_reducible repeat (first | refine blk_drewN ?_ _ | refine blk_drew ?_ | refine blk_alloc ?_ _)); refine blk_put (cs := #[.int .u32 a1_0, .int .u32 a1_1]) ?_ 0 _ rfl; (with_reducible repeat (first | refine blk_drewN ?_ _ | refine blk_drew ?_ | refine blk_alloc ?_ _)); refine blk_far ?_ NB142_141.out _; (with_reducible repeat (first | refine blk_drewN ?_ _ | refine blk_drew ?_ | refine blk_alloc ?_ _)); refine blk_far ?_ NB142_141.out _; (with_reducible repeat (first | refine blk_drewN ?_ _ | refine blk_drew ?_ | refine blk_alloc ?_ _)); exact BK142.out⟩, ⟨by (with_reducible repeat (first | refine blk_drewN ?_ _ | refine blk_drew ?_ | refine blk_alloc ?_ _)); refine blk_far ?_ NB143_142.out _; (with_reducible repeat (first | refine blk_drewN ?_ _ | refine blk_drew ?_ | refine blk_alloc ?_ _)); refine blk_far ?_ NB143_142.out _; (with_reducible repeat (first | refine blk_drewN ?_ _ | refine blk_drew ?_ | refine blk_alloc ?_ _)); refine blk_far ?_ NB143_141.out _; (with_reducible repeat (first | refine blk_drewN ?_ _ | refine blk_drew ?_ | refine blk_alloc ?_ _)); refine blk_far ?_ NB143_141.out _; (with_reducible repeat (first | refine blk_drewN ?_ _ | refine blk_drew ?_ | refine blk_alloc ?_ _)); exact BK143.out⟩, ⟨by repeat (first | (with_reducible first | exact HB.out | apply below_alloc | apply pw_below_drewN | apply below_drew1 | refine below_set ?_ GE141.out | refine below_set ?_ GE142.out | refine below_set ?_ GE143.out) | exact HB.out)⟩⟩
            · rw [if_neg c39] at H
              have c39b0 : decide (a1_0 < a0_0) = false := decide_eq_false c39
              clear c39
              (first | rw [c39b0] | (simp only [i64_w, i32_w]; rw [c39b0]) | skip)
              have H' := Aside0.mk H
              clear H
              go_wp2
              go_meet
              case rel => exact ⟨_, (a0_0), (a0_1), (a1_0), (a1_1), H', ⟨by have := HJ12.out; first | omega | exact Nat.le_refl _⟩, ⟨by (with_reducible repeat (first | refine blk_drewN ?_ _ | refine blk_drew ?_ | refine blk_alloc ?_ _)); exact BK141.out⟩, ⟨by (with_reducible repeat (first | refine blk_drewN ?_ _ | refine blk_drew ?_ | refine blk_alloc ?_ _)); exact BK142.out⟩, ⟨by (with_reducible repeat (first | refine blk_drewN ?_ _ | refine blk_drew ?_ | refine blk_alloc ?_ _)); exact BK143.out⟩, ⟨by repeat (first | (with_reducible first | exact HB.out | apply below_alloc | apply pw_below_drewN | apply below_drew1 | refine below_set ?_ GE141.out | refine below_set ?_ GE142.out | refine below_set ?_ GE143.out) | exact HB.out)⟩⟩
          case rest =>
            clear HC33
            try clear c1
            try clear c2
            try clear p2
            try clear c3
            try clear c3b0
            try clear c3b1
            try clear c3b2
            try clear c4
            try clear c7
            try clear c8
            try clear c10
            try clear c17
            try clear c18
            try clear c20
            try clear c23
            try clear c23b0
            try clear c23b1
            try clear c24
            try clear c25
            try clear c27
            try clear c28
            try clear c30
            try clear c32
            try clear c34
            try clear c35
            try clear c37
            try clear c39
            try clear c39b0
            try clear c40
            try clear c41
            try clear c43
            try clear hcz11_0
            try clear hcz11_1
            try clear hcz12_0
            try clear hcz12_1
            try clear hcz19_0
            try clear hcz19_1
            try clear hcz21_0
            try clear hcz21_1
            try clear hcz22_0
            try clear hcz22_1
            try clear hcz26_0
            try clear hcz26_1
            try clear hcz29_0
            try clear hcz29_1
            try clear hcz31_0
            try clear hcz31_1
            try clear hcz36_0
            try clear hcz36_1
            try clear hcz38_0
            try clear hcz38_1
            try clear hcz42_0
            try clear hcz42_1
            try clear hcz44_0
            try clear hcz44_1
            try clear hcz9_0
            try clear hcz9_1
            try clear hfz11_0
            try clear hfz11_1
            try clear hfz12_0
            try clear hfz12_1
            try clear hfz19_0
            try clear hfz19_1
            try clear hfz21_0
            try clear hfz21_1
            try clear hfz22_0
            try clear hfz22_1
            try clear hfz26_0
            try clear hfz26_1
            try clear hfz29_0
            try clear hfz29_1
            try clear hfz31_0
            try clear hfz31_1
            try clear hfz36_0
            try clear hfz36_1
            try clear hfz38_0
            try clear hfz38_1
            try clear hfz42_0
            try clear hfz42_1
            try clear hfz44_0
            try clear hfz44_1
            try clear hfz9_0
            try clear hfz9_1
            try clear p2
            obtain ⟨kq, x142000_32, x142001_32, x143000_32, x143001_32, HA, HJ32, BK141, BK142, BK143, HB⟩ := hcut
            cases kq with
            | zero => exact absurd HA.out (by simp [goimap_Seq_Merge.j1])
            | succ kj32 =>
              have H := HA.out
              clear HA
              simp only [goimap_Seq_Merge.j1] at H
              have HC45 := Aside0.mk H
              clear H
              go_upto_region 7 with (fail)
              go_cut [39] (fun v39 wc => ∃ (kq : Nat) (x39_44 : Bool), v39 = .bool x39_44 ∧ Aside0 (goimap_Seq_Merge.j2 kq false x39_44 x142000_32 x142001_32 x143000_32 x143001_32 a0_0 a0_1 = some (r1, r2, r3)) ∧ Aside0 (kq ≤ kj32) ∧ Aside0 (wc.heap[gb141]? = some (.cells #[.int .u32 x142000_32, .int .u32 x142001_32] 50 (0, 0))) ∧ Aside0 (wc.heap[gb142]? = some (.cells #[.int .u32 x143000_32, .int .u32 x143001_32] 50 (0, 0))) ∧ Aside0 (wc.heap[gb143]? = some (.cells #[.int .u32 a0_0, .int .u32 a0_1] 50 (0, 0))) ∧ Aside0 (Below w.heap.size w wc))
              case first =>
                have H := HC45.out
                clear HC45
                by_cases c46 : x142001_32 ≥ x143001_32
                · rw [if_pos c46] at H
                  have c46b0 : decide (x143001_32 ≤ x142001_32) = true := decide_eq_true c46
                  clear c46
                  (first | rw [c46b0] | (simp only [i64_w, i32_w]; rw [c46b0]) | skip)
                  by_cases c47 : x143001_32 = 0
                  · rw [if_pos c47] at H
                    have c47b0 : (x143001_32 == 0) = true := beq_iff_eq.mpr c47
                    have c47b1 : (x143001_32 != 0) = false := bne_eq_false_iff_eq.mpr c47
                    clear c47
                    have H' := Aside0.mk H
                    clear H
                    have hnb48 := NB141_142.out
                    have hnc48 := NB142_141.out
                    have hnb49 := NB141_143.out
                    have hnc49 := NB143_141.out
                    have hcz50_0 : wc.cell? ⟨gb141, 0, none⟩ = some (.int .u32 x142000_32) := (blk_cell BK141.out 0).trans rfl
                    have hcz50_1 : wc.cell? ⟨gb141, 1, none⟩ = some (.int .u32 x142001_32) := (blk_cell BK141.out 1).trans rfl
                    have hfz50_0 := blk_frozen BK141.out 0
                    have hfz50_1 := blk_frozen BK141.out 1
                    have hnb51 := NB142_143.out
                    have hnc51 := NB143_142.out
                    have hcz52_0 : wc.cell? ⟨gb142, 0, none⟩ = some (.int .u32 x143000_32) := (blk_cell BK142.out 0).trans rfl
                    have hcz52_1 : wc.cell? ⟨gb142, 1, none⟩ = some (.int .u32 x143001_32) := (blk_cell BK142.out 1).trans rfl
                    have hfz52_0 := blk_frozen BK142.out 0
                    have hfz52_1 := blk_frozen BK142.out 1
                    go_wp2
                    go_meet
                    case rel => exact ⟨_, ((x142001_32 == 0)), (by first | rfl | (simp; done) | (simp [*]; done)), H', ⟨by have := HJ12.out; have := HJ32.out; first | omega | exact Nat.le_refl _⟩, ⟨by (with_reducible repeat (first | refine blk_drewN ?_ _ | refine blk_drew ?_ | refine blk_alloc ?_ _)); exact BK141.out⟩, ⟨by (with_reducible repeat (first | refine blk_drewN ?_ _ | refine blk_drew ?_ | refine blk_alloc ?_ _)); exact BK142.out⟩, ⟨by (with_reducible repeat (first | refine blk_drewN ?_ _ | refine blk_drew ?_ | refine blk_alloc ?_ _)); exact BK143.out⟩, ⟨by repeat (first | (with_reducible first | exact HB.out | apply below_alloc | apply pw_below_drewN | apply below_drew1 | refine below_set ?_ GE141.out | refine below_set ?_ GE142.out | refine below_set ?_ GE143.out) | exact HB.out)⟩⟩
                  · rw [if_neg c47] at H
                    have c47b0 : (x143001_32 == 0) = false := beq_eq_false_iff_ne.mpr c47
                    have c47b1 : (x143001_32 != 0) = true := bne_iff_ne.mpr c47
                    have H' := Aside0.mk H
                    clear H
                    have hnb53 := NB141_142.out
                    have hnc53 := NB142_141.out
                    have hnb54 := NB141_143.out
                    have hnc54 := NB143_141.out
                    have hcz55_0 : wc.cell? ⟨gb141, 0, none⟩ = some (.int .u32 x142000_32) := (blk_cell BK141.out 0).trans rfl
                    have hcz55_1 : wc.cell? ⟨gb141, 1, none⟩ = some (.int .u32 x142001_32) := (blk_cell BK141.out 1).trans rfl
                    have hfz55_0 := blk_frozen BK141.out 0
                    have hfz55_1 := blk_frozen BK141.out 1
                    have hnb56 := NB142_143.out
                    have hnc56 := NB143_142.out
                    have hcz57_0 : wc.cell? ⟨gb142, 0, none⟩ = some (.int .u32 x143000_32) := (blk_cell BK142.out 0).trans rfl
                    have hcz57_1 : wc.cell? ⟨gb142, 1, none⟩ = some (.int .u32 x143001_32) := (blk_cell BK142.out 1).trans rfl
                    have hfz57_0 := blk_frozen BK142.out 0
                    have hfz57_1 := blk_frozen BK142.out 1
                    go_wp2
                    go_meet
                    case rel => exact ⟨_, (true), (by first | rfl | (simp; done) | (simp [*]; done)), H', ⟨by have := HJ12.out; have := HJ32.out; first | omega | exact Nat.le_refl _⟩, ⟨by (with_reducible repeat (first | refine blk_drewN ?_ _ | refine blk_drew ?_ | refine blk_alloc ?_ _)); exact BK141.out⟩, ⟨by (with_reducible repeat (first | refine blk_drewN ?_ _ | refine blk_drew ?_ | refine blk_alloc ?_ _)); exact BK142.out⟩, ⟨by (with_reducible repeat (first | refine blk_drewN ?_ _ | refine blk_drew ?_ | refine blk_alloc ?_ _)); exact BK143.out⟩, ⟨by repeat (first | (with_reducible first | exact HB.out | apply below_alloc | apply pw_below_drewN | apply below_drew1 | refine below_set ?_ GE141.out | refine below_set ?_ GE142.out | refine below_set ?_ GE143.out) | exact HB.out)⟩⟩
                · rw [if_neg c46] at H
                  have c46b0 : decide (x143001_32 ≤ x142001_32) = false := decide_eq_false c46
                  clear c46
                  (first | rw [c46b0] | (simp only [i64_w, i32_w]; rw [c46b0]) | skip)
                  have H' := Aside0.mk H
                  clear H
                  have hnb58 := NB141_142.out
                  have hnc58 := NB142_141.out
                  have hnb59 := NB141_143.out
                  have hnc59 := NB143_141.out
                  have hcz60_0 : wc.cell? ⟨gb141, 0, none⟩ = some (.int .u32 x142000_32) := (blk_cell BK141.out 0).trans rfl
                  have hcz60_1 : wc.cell? ⟨gb141, 1, none⟩ = some (.int .u32 x142001_32) := (blk_cell BK141.out 1).trans rfl
                  have hfz60_0 := blk_frozen BK141.out 0
                  have hfz60_1 := blk_frozen BK141.out 1
                  have hnb61 := NB142_143.out
                  have hnc61 := NB143_142.out
                  have hcz62_0 : wc.cell? ⟨gb142, 0, none⟩ = some (.int .u32 x143000_32) := (blk_cell BK142.out 0).trans rfl
                  have hcz62_1 : wc.cell? ⟨gb142, 1, none⟩ = some (.int .u32 x143001_32) := (blk_cell BK142.out 1).trans rfl
                  have hfz62_0 := blk_frozen BK142.out 0
                  have hfz62_1 := blk_frozen BK142.out 1
                  go_wp2
                  go_meet
                  case rel => exact ⟨_, ((x142001_32 == 0)), (by first | rfl | (simp; done) | (simp [*]; done)), H', ⟨by have := HJ12.out; have := HJ32.out; first | omega | exact Nat.le_refl _⟩, ⟨by (with_reducible repeat (first | refine blk_drewN ?_ _ | refine blk_drew ?_ | refine blk_alloc ?_ _)); exact BK141.out⟩, ⟨by (with_reducible repeat (first | refine blk_drewN ?_ _ | refine blk_drew ?_ | refine blk_alloc ?_ _)); exact BK142.out⟩, ⟨by (with_reducible repeat (first | refine blk_drewN ?_ _ | refine blk_drew ?_ | refine blk_alloc ?_ _)); exact BK143.out⟩, ⟨by repeat (first | (with_reducible first | exact HB.out | apply below_alloc | apply pw_below_drewN | apply below_drew1 | refine below_set ?_ GE141.out | refine below_set ?_ GE142.out | refine below_set ?_ GE143.out) | exact HB.out)⟩⟩
              case rest =>
                clear HC45
                try clear c1
                try clear c2
                try clear p2
                try clear c3
                try clear c3b0
                try clear c3b1
                try clear c3b2
                try clear c4
                try clear c5
                try clear c6
                try clear c7
                try clear c8
                try clear c10
                try clear c17
                try clear c18
                try clear c20
                try clear c23
                try clear c23b0
                try clear c23b1
                try clear c24
                try clear c25
                try clear c27
                try clear c28
                try clear c30
                try clear c32
                try clear c34
                try clear c35
                try clear c37
                try clear c39
                try clear c39b0
                try clear c40
                try clear c41
                try clear c43
                try clear c46
                try clear c46b0
                try clear c47
                try clear c47b0
                try clear c47b1
                try clear c48
                try clear c49
                try clear c51
                try clear c53
                try clear c54
                try clear c56
                try clear c58
                try clear c59
                try clear c61
                try clear hcz11_0
                try clear hcz11_1
                try clear hcz12_0
                try clear hcz12_1
                try clear hcz19_0
                try clear hcz19_1
                try clear hcz21_0
                try clear hcz21_1
                try clear hcz22_0
                try clear hcz22_1
                try clear hcz26_0
                try clear hcz26_1
                try clear hcz29_0
                try clear hcz29_1
                try clear hcz31_0
                try clear hcz31_1
                try clear hcz36_0
                try clear hcz36_1
                try clear hcz38_0
                try clear hcz38_1
                try clear hcz42_0
                try clear hcz42_1
                try clear hcz44_0
                try clear hcz44_1
                try clear hcz50_0
                try clear hcz50_1
                try clear hcz52_0
                try clear hcz52_1
                try clear hcz55_0
                try clear hcz55_1
                try clear hcz57_0
                try clear hcz57_1
                try clear hcz60_0
                try clear hcz60_1
                try clear hcz62_0
                try clear hcz62_1
                try clear hcz9_0
                try clear hcz9_1
                try clear hfz11_0
                try clear hfz11_1
                try clear hfz12_0
                try clear hfz12_1
                try clear hfz19_0
                try clear hfz19_1
                try clear hfz21_0
                try clear hfz21_1
                try clear hfz22_0
                try clear hfz22_1
                try clear hfz26_0
                try clear hfz26_1
                try clear hfz29_0
                try clear hfz29_1
                try clear hfz31_0
                try clear hfz31_1
                try clear hfz36_0
                try clear hfz36_1
                try clear hfz38_0
                try clear hfz38_1
                try clear hfz42_0
                try clear hfz42_1
                try clear hfz44_0
                try clear hfz44_1
                try clear hfz50_0
                try clear hfz50_1
                try clear hfz52_0
                try clear hfz52_1
                try clear hfz55_0
                try clear hfz55_1
                try clear hfz57_0
                try clear hfz57_1
                try clear hfz60_0
                try clear hfz60_1
                try clear hfz62_0
                try clear hfz62_1
                try clear hfz9_0
                try clear hfz9_1
                try clear p2
                obtain ⟨kq, x39_44, rfl, HA, HJ44, BK141, BK142, BK143, HB⟩ := hcut
                cases kq with
                | zero => exact absurd HA.out (by simp [goimap_Seq_Merge.j2])
                | succ kj44 =>
                  have H := HA.out
                  clear HA
                  simp only [goimap_Seq_Merge.j2] at H
                  by_cases c63 : x39_44 = true
                  · subst c63
                    have H1 : (some (x142000_32, x142001_32, true)) = some (r1, r2, r3) := by rw [if_pos rfl] at H; exact H
                    clear H
                    have H := H1
                    clear H1
                    simp only [Option.some.injEq, Prod.mk.injEq] at H
                    obtain ⟨rfl, rfl, rfl⟩ := H
                    have hnb64 := NB141_142.out
                    have hnc64 := NB142_141.out
                    have hnb65 := NB141_143.out
                    have hnc65 := NB143_141.out
                    have hcz66_0 : wc.cell? ⟨gb141, 0, none⟩ = some (.int .u32 x142000_32) := (blk_cell BK141.out 0).trans rfl
                    have hcz66_1 : wc.cell? ⟨gb141, 1, none⟩ = some (.int .u32 x142001_32) := (blk_cell BK141.out 1).trans rfl
                    have hfz66_0 := blk_frozen BK141.out 0
                    have hfz66_1 := blk_frozen BK141.out 1
                    have hnb67 := NB143_142.out
                    have hnc67 := NB142_143.out
                    have hcz68_0 : wc.cell? ⟨gb143, 0, none⟩ = some (.int .u32 a0_0) := (blk_cell BK143.out 0).trans rfl
                    have hcz68_1 : wc.cell? ⟨gb143, 1, none⟩ = some (.int .u32 a0_1) := (blk_cell BK143.out 1).trans rfl
                    have hfz68_0 := blk_frozen BK143.out 0
                    have hfz68_1 := blk_frozen BK143.out 1
                    go_wp2
                    refine bodyPost_ret (results_ct rfl _ _ gb143 50 #[.int .u32 x142000_32, .int .u32 x142001_32] (0, 0) _ rfl (by (with_reducible repeat (first | refine blk_drewN ?_ _ | refine blk_drew ?_ | refine blk_alloc ?_ _)); refine blk_put (cs := #[.int .u32 x142000_32, .int .u32 a0_1]) ?_ 1 _ rfl; (with_reducible repeat (first | refine blk_drewN ?_ _ | refine blk_drew ?_ | refine blk_alloc ?_ _)); refine blk_put (cs := #[.int .u32 a0_0, .int .u32 a0_1]) ?_ 0 _ rfl; (with_reducible repeat (first | refine blk_drewN ?_ _ | refine blk_drew ?_ | refine blk_alloc ?_ _)); exact BK143.out) Tryd.underlying50 rfl (by kernel_rfl)) rfl ?_
                    exact ⟨by first | rfl | (simp [errW_none, errW_some] <;> rfl) | (simp [*, errW_none, errW_some] <;> rfl), by repeat (first | (with_reducible first | exact HB.out | apply below_alloc | apply pw_below_drewN | apply below_drew1 | refine below_set ?_ GE141.out | refine below_set ?_ GE142.out | refine below_set ?_ GE143.out) | exact HB.out)⟩
                  · replace c63 := Bool.eq_false_iff.mpr c63
                    subst c63
                    have H1 : (if ((x142001_32 + 1) % 4294967296) ≥ x143000_32 then (some (x142000_32, x143001_32, true)) else (if x142001_32 = 4294967295 then (some (x142000_32, x143001_32, true)) else (some (a0_0, a0_1, false)))) = some (r1, r2, r3) := by rw [if_neg (show ¬ (false = true) by decide)] at H; exact H
                    clear H
                    have H := H1
                    clear H1
                    by_cases c69 : ((x142001_32 + 1) % 4294967296) ≥ x143000_32
                    · rw [if_pos c69] at H
                      have c69b0 : decide (x143000_32 ≤ ((x142001_32 + 1) % 4294967296)) = true := decide_eq_true c69
                      clear c69
                      simp only [Option.some.injEq, Prod.mk.injEq] at H
                      obtain ⟨rfl, rfl, rfl⟩ := H
                      have hnb70 := NB141_142.out
                      have hnc70 := NB142_141.out
                      have hnb71 := NB141_143.out
                      have hnc71 := NB143_141.out
                      have hcz72_0 : wc.cell? ⟨gb141, 0, none⟩ = some (.int .u32 x142000_32) := (blk_cell BK141.out 0).trans rfl
                      have hcz72_1 : wc.cell? ⟨gb141, 1, none⟩ = some (.int .u32 x142001_32) := (blk_cell BK141.out 1).trans rfl
                      have hfz72_0 := blk_frozen BK141.out 0
                      have hfz72_1 := blk_frozen BK141.out 1
                      have hnb73 := NB142_143.out
                      have hnc73 := NB143_142.out
                      have hcz74_0 : wc.cell? ⟨gb142, 0, none⟩ = some (.int .u32 x143000_32) := (blk_cell BK142.out 0).trans rfl
                      have hcz74_1 : wc.cell? ⟨gb142, 1, none⟩ = some (.int .u32 x143001_32) := (blk_cell BK142.out 1).trans rfl
                      have hfz74_0 := blk_frozen BK142.out 0
                      have hfz74_1 := blk_frozen BK142.out 1
                      have hcz75_0 : wc.cell? ⟨gb143, 0, none⟩ = some (.int .u32 a0_0) := (blk_cell BK143.out 0).trans rfl
                      have hcz75_1 : wc.cell? ⟨gb143, 1, none⟩ = some (.int .u32 a0_1) := (blk_cell BK143.out 1).trans rfl
                      have hfz75_0 := blk_frozen BK143.out 0
                      have hfz75_1 := blk_frozen BK143.out 1
                      go_wp2
                      refine bodyPost_ret (results_ct rfl _ _ gb143 50 #[.int .u32 x142000_32, .int .u32 x143001_32] (0, 0) _ rfl (by (with_reducible repeat (first | refine blk_drewN ?_ _ | refine blk_drew ?_ | refine blk_alloc ?_ _)); refine blk_put (cs := #[.int .u32 x142000_32, .int .u32 a0_1]) ?_ 1 _ rfl; (with_reducible repeat (first | refine blk_drewN ?_ _ | refine blk_drew ?_ | refine blk_alloc ?_ _)); refine blk_put (cs := #[.int .u32 a0_0, .int .u32 a0_1]) ?_ 0 _ rfl; (with_reducible repeat (first | refine blk_drewN ?_ _ | refine blk_drew ?_ | refine blk_alloc ?_ _)); exact BK143.out) Tryd.underlying50 rfl (by kernel_rfl)) rfl ?_
                      exact ⟨by first | rfl | (simp [errW_none, errW_some] <;> rfl) | (simp [*, errW_none, errW_some] <;> rfl), by repeat (first | (with_reducible first | exact HB.out | apply below_alloc | apply pw_below_drewN | apply below_drew1 | refine below_set ?_ GE141.out | refine below_set ?_ GE142.out | refine below_set ?_ GE143.out) | exact HB.out)⟩
                    · rw [if_neg c69] at H
                      have c69b0 : decide (x143000_32 ≤ ((x142001_32 + 1) % 4294967296)) = false := decide_eq_false c69
                      clear c69
                      by_cases c76 : x142001_32 = 4294967295
                      · rw [if_pos c76] at H
                        have c76b0 : (x142001_32 == 4294967295) = true := beq_iff_eq.mpr c76
                        have c76b1 : (x142001_32 != 4294967295) = false := bne_eq_false_iff_eq.mpr c76
                        clear c76
                        simp only [Option.some.injEq, Prod.mk.injEq] at H
                        obtain ⟨rfl, rfl, rfl⟩ := H
                        have hnb77 := NB141_142.out
                        have hnc77 := NB142_141.out
                        have hnb78 := NB141_143.out
                        have hnc78 := NB143_141.out
                        have hcz79_0 : wc.cell? ⟨gb141, 0, none⟩ = some (.int .u32 x142000_32) := (blk_cell BK141.out 0).trans rfl
                        have hcz79_1 : wc.cell? ⟨gb141, 1, none⟩ = some (.int .u32 x142001_32) := (blk_cell BK141.out 1).trans rfl
                        have hfz79_0 := blk_frozen BK141.out 0
                        have hfz79_1 := blk_frozen BK141.out 1
                        have hnb80 := NB142_143.out
                        have hnc80 := NB143_142.out
                        have hcz81_0 : wc.cell? ⟨gb142, 0, none⟩ = some (.int .u32 x143000_32) := (blk_cell BK142.out 0).trans rfl
                        have hcz81_1 : wc.cell? ⟨gb142, 1, none⟩ = some (.int .u32 x143001_32) := (blk_cell BK142.out 1).trans rfl
                        have hfz81_0 := blk_frozen BK142.out 0
                        have hfz81_1 := blk_frozen BK142.out 1
                        have hcz82_0 : wc.cell? ⟨gb143, 0, none⟩ = some (.int .u32 a0_0) := (blk_cell BK143.out 0).trans rfl
                        have hcz82_1 : wc.cell? ⟨gb143, 1, none⟩ = some (.int .u32 a0_1) := (blk_cell BK143.out 1).trans rfl
                        have hfz82_0 := blk_frozen BK143.out 0
                        have hfz82_1 := blk_frozen BK143.out 1
                        go_wp2
                        refine bodyPost_ret (results_ct rfl _ _ gb143 50 #[.int .u32 x142000_32, .int .u32 x143001_32] (0, 0) _ rfl (by (with_reducible repeat (first | refine blk_drewN ?_ _ | refine blk_drew ?_ | refine blk_alloc ?_ _)); refine blk_put (cs := #[.int .u32 x142000_32, .int .u32 a0_1]) ?_ 1 _ rfl; (with_reducible repeat (first | refine blk_drewN ?_ _ | refine blk_drew ?_ | refine blk_alloc ?_ _)); refine blk_put (cs := #[.int .u32 a0_0, .int .u32 a0_1]) ?_ 0 _ rfl; (with_reducible repeat (first | refine blk_drewN ?_ _ | refine blk_drew ?_ | refine blk_alloc ?_ _)); exact BK143.out) Tryd.underlying50 rfl (by kernel_rfl)) rfl ?_
                        exact ⟨by first | rfl | (simp [errW_none, errW_some] <;> rfl) | (simp [*, errW_none, errW_some] <;> rfl), by repeat (first | (with_reducible first | exact HB.out | apply below_alloc | apply pw_below_drewN | apply below_drew1 | refine below_set ?_ GE141.out | refine below_set ?_ GE142.out | refine below_set ?_ GE143.out) | exact HB.out)⟩
                      · rw [if_neg c76] at H
                        have c76b0 : (x142001_32 == 4294967295) = false := beq_eq_false_iff_ne.mpr c76
                        have c76b1 : (x142001_32 != 4294967295) = true := bne_iff_ne.mpr c76
                        simp only [Option.some.injEq, Prod.mk.injEq] at H
                        obtain ⟨rfl, rfl, rfl⟩ := H
                        have hnb83 := NB141_142.out
                        have hnc83 := NB142_141.out
                        have hnb84 := NB141_143.out
                        have hnc84 := NB143_141.out
                        have hcz85_0 : wc.cell? ⟨gb141, 0, none⟩ = some (.int .u32 x142000_32) := (blk_cell BK141.out 0).trans rfl
                        have hcz85_1 : wc.cell? ⟨gb141, 1, none⟩ = some (.int .u32 x142001_32) := (blk_cell BK141.out 1).trans rfl
                        have hfz85_0 := blk_frozen BK141.out 0
                        have hfz85_1 := blk_frozen BK141.out 1
                        have hnb86 := NB142_143.out
                        have hnc86 := NB143_142.out
                        have hcz87_0 : wc.cell? ⟨gb142, 0, none⟩ = some (.int .u32 x143000_32) := (blk_cell BK142.out 0).trans rfl
                        have hcz87_1 : wc.cell? ⟨gb142, 1, none⟩ = some (.int .u32 x143001_32) := (blk_cell BK142.out 1).trans rfl
                        have hfz87_0 := blk_frozen BK142.out 0
                        have hfz87_1 := blk_frozen BK142.out 1
                        go_wp2
                        refine bodyPost_ret (results_ct rfl _ _ gb143 50 #[.int .u32 a0_0, .int .u32 a0_1] (0, 0) _ rfl (by (with_reducible repeat (first | refine blk_drewN ?_ _ | refine blk_drew ?_ | refine blk_alloc ?_ _)); exact BK143.out) Tryd.underlying50 rfl (by kernel_rfl)) rfl ?_
                        exact ⟨by first | rfl | (simp [errW_none, errW_some] <;> rfl) | (simp [*, errW_none, errW_some] <;> rfl), by repeat (first | (with_reducible first | exact HB.out | apply below_alloc | apply pw_below_drewN | apply below_drew1 | refine below_set ?_ GE141.out | refine below_set ?_ GE142.out | refine below_set ?_ GE143.out) | exact HB.out)⟩
        · replace c32 := Bool.eq_false_iff.mpr c32
          subst c32
          have H1 : (if a0_0 = 0 then (if a1_1 = 0 then (some (a1_0, a1_1, true)) else (some (a0_0, a0_1, false))) else (if a0_1 = 0 then (some (a0_0, a0_1, true)) else (some (a0_0, a0_1, false)))) = some (r1, r2, r3) := by rw [if_neg (show ¬ (false = true) by decide)] at H; exact H
          clear H
          have H := H1
          clear H1
          by_cases c88 : a0_0 = 0
          · rw [if_pos c88] at H
            have c88b0 : (a0_0 == 0) = true := beq_iff_eq.mpr c88
            have c88b1 : (a0_0 != 0) = false := bne_eq_false_iff_eq.mpr c88
            clear c88
            by_cases c89 : a1_1 = 0
            · rw [if_pos c89] at H
              have c89b0 : (a1_1 == 0) = true := beq_iff_eq.mpr c89
              have c89b1 : (a1_1 != 0) = false := bne_eq_false_iff_eq.mpr c89
              clear c89
              simp only [Option.some.injEq, Prod.mk.injEq] at H
              obtain ⟨rfl, rfl, rfl⟩ := H
              have hnb90 := NB141_142.out
              have hnc90 := NB142_141.out
              have hnb91 := NB141_143.out
              have hnc91 := NB143_141.out
              have hcz92_0 : wc.cell? ⟨gb141, 0, none⟩ = some (.int .u32 a0_0) := (blk_cell BK141.out 0).trans rfl
              have hcz92_1 : wc.cell? ⟨gb141, 1, none⟩ = some (.int .u32 a0_1) := (blk_cell BK141.out 1).trans rfl
              have hfz92_0 := blk_frozen BK141.out 0
              have hfz92_1 := blk_frozen BK141.out 1
              have hnb93 := NB142_143.out
              have hnc93 := NB143_142.out
              have hcz94_0 : wc.cell? ⟨gb142, 0, none⟩ = some (.int .u32 a1_0) := (blk_cell BK142.out 0).trans rfl
              have hcz94_1 : wc.cell? ⟨gb142, 1, none⟩ = some (.int .u32 a1_1) := (blk_cell BK142.out 1).trans rfl
              have hfz94_0 := blk_frozen BK142.out 0
              have hfz94_1 := blk_frozen BK142.out 1
              have hcz95_0 : wc.cell? ⟨gb143, 0, none⟩ = some (.int .u32 a0_0) := (blk_cell BK143.out 0).trans rfl
              have hcz95_1 : wc.cell? ⟨gb143, 1, none⟩ = some (.int .u32 a0_1) := (blk_cell BK143.out 1).trans rfl
              have hfz95_0 := blk_frozen BK143.out 0
              have hfz95_1 := blk_frozen BK143.out 1
              go_wp2
              refine bodyPost_ret (results_ct rfl _ _ gb143 50 #[.int .u32 a1_0, .int .u32 a1_1] (0, 0) _ rfl (by (with_reducible repeat (first | refine blk_drewN ?_ _ | refine blk_drew ?_ | refine blk_alloc ?_ _)); refine blk_put (cs := #[.int .u32 a1_0, .int .u32 a0_1]) ?_ 1 _ rfl; (with_reducible repeat (first | refine blk_drewN ?_ _ | refine blk_drew ?_ | refine blk_alloc ?_ _)); refine blk_put (cs := #[.int .u32 a0_0, .int .u32 a0_1]) ?_ 0 _ rfl; (with_reducible repeat (first | refine blk_drewN ?_ _ | refine blk_drew ?_ | refine blk_alloc ?_ _)); exact BK143.out) Tryd.underlying50 rfl (by kernel_rfl)) rfl ?_
              exact ⟨by first | rfl | (simp [errW_none, errW_some] <;> rfl) | (simp [*, errW_none, errW_some] <;> rfl), by repeat (first | (with_reducible first | exact HB.out | apply below_alloc | apply pw_below_drewN | apply below_drew1 | refine below_set ?_ GE141.out | refine below_set ?_ GE142.out | refine below_set ?_ GE143.out) | exact HB.out)⟩
            · rw [if_neg c89] at H
              have c89b0 : (a1_1 == 0) = false := beq_eq_false_iff_ne.mpr c89
              have c89b1 : (a1_1 != 0) = true := bne_iff_ne.mpr c89
              simp only [Option.some.injEq, Prod.mk.injEq] at H
              obtain ⟨rfl, rfl, rfl⟩ := H
              have hnb96 := NB141_142.out
              have hnc96 := NB142_141.out
              have hnb97 := NB141_143.out
              have hnc97 := NB143_141.out
              have hcz98_0 : wc.cell? ⟨gb141, 0, none⟩ = some (.int .u32 a0_0) := (blk_cell BK141.out 0).trans rfl
              have hcz98_1 : wc.cell? ⟨gb141, 1, none⟩ = some (.int .u32 a0_1) := (blk_cell BK141.out 1).trans rfl
              have hfz98_0 := blk_frozen BK141.out 0
              have hfz98_1 := blk_frozen BK141.out 1
              have hnb99 := NB142_143.out
              have hnc99 := NB143_142.out
              have hcz100_0 : wc.cell? ⟨gb142, 0, none⟩ = some (.int .u32 a1_0) := (blk_cell BK142.out 0).trans rfl
              have hcz100_1 : wc.cell? ⟨gb142, 1, none⟩ = some (.int .u32 a1_1) := (blk_cell BK142.out 1).trans rfl
              have hfz100_0 := blk_frozen BK142.out 0
              have hfz100_1 := blk_frozen BK142.out 1
              go_wp2
              refine bodyPost_ret (results_ct rfl _ _ gb143 50 #[.int .u32 a0_0, .int .u32 a0_1] (0, 0) _ rfl (by (with_reducible repeat (first | refine blk_drewN ?_ _ | refine blk_drew ?_ | refine blk_alloc ?_ _)); exact BK143.out) Tryd.underlying50 rfl (by kernel_rfl)) rfl ?_
              exact ⟨by first | rfl | (simp [errW_none, errW_some] <;> rfl) | (simp [*, errW_none, errW_some] <;> rfl), by repeat (first | (with_reducible first | exact HB.out | apply below_alloc | apply pw_below_drewN | apply below_drew1 | refine below_set ?_ GE141.out | refine below_set ?_ GE142.out | refine below_set ?_ GE143.out) | exact HB.out)⟩
          · rw [if_neg c88] at H
            have c88b0 : (a0_0 == 0) = false := beq_eq_false_iff_ne.mpr c88
            have c88b1 : (a0_0 != 0) = true := bne_iff_ne.mpr c88
            by_cases c101 : a0_1 = 0
            · rw [if_pos c101] at H
              have c101b0 : (a0_1 == 0) = true := beq_iff_eq.mpr c101
              have c101b1 : (a0_1 != 0) = false := bne_eq_false_iff_eq.mpr c101
              clear c101
              simp only [Option.some.injEq, Prod.mk.injEq] at H
              obtain ⟨rfl, rfl, rfl⟩ := H
              have hnb102 := NB141_142.out
              have hnc102 := NB142_141.out
              have hnb103 := NB141_143.out
              have hnc103 := NB143_141.out
              have hcz104_0 : wc.cell? ⟨gb141, 0, none⟩ = some (.int .u32 a0_0) := (blk_cell BK141.out 0).trans rfl
              have hcz104_1 : wc.cell? ⟨gb141, 1, none⟩ = some (.int .u32 a0_1) := (blk_cell BK141.out 1).trans rfl
              have hfz104_0 := blk_frozen BK141.out 0
              have hfz104_1 := blk_frozen BK141.out 1
              have hnb105 := NB143_142.out
              have hnc105 := NB142_143.out
              have hcz106_0 : wc.cell? ⟨gb143, 0, none⟩ = some (.int .u32 a0_0) := (blk_cell BK143.out 0).trans rfl
              have hcz106_1 : wc.cell? ⟨gb143, 1, none⟩ = some (.int .u32 a0_1) := (blk_cell BK143.out 1).trans rfl
              have hfz106_0 := blk_frozen BK143.out 0
              have hfz106_1 := blk_frozen BK143.out 1
              go_wp2
              refine bodyPost_ret (results_ct rfl _ _ gb143 50 #[.int .u32 a0_0, .int .u32 a0_1] (0, 0) _ rfl (by (with_reducible repeat (first | refine blk_drewN ?_ _ | refine blk_drew ?_ | refine blk_alloc ?_ _)); refine blk_put (cs := #[.int .u32 a0_0, .int .u32 a0_1]) ?_ 1 _ rfl; (with_reducible repeat (first | refine blk_drewN ?_ _ | refine blk_drew ?_ | refine blk_alloc ?_ _)); refine blk_put (cs := #[.int .u32 a0_0, .int .u32 a0_1]) ?_ 0 _ rfl; (with_reducible repeat (first | refine blk_drewN ?_ _ | refine blk_drew ?_ | refine blk_alloc ?_ _)); exact BK143.out) Tryd.underlying50 rfl (by kernel_rfl)) rfl ?_
              exact ⟨by first | rfl | (simp [errW_none, errW_some] <;> rfl) | (simp [*, errW_none, errW_some] <;> rfl), by repeat (first | (with_reducible first | exact HB.out | apply below_alloc | apply pw_below_drewN | apply below_drew1 | refine below_set ?_ GE141.out | refine below_set ?_ GE142.out | refine below_set ?_ GE143.out) | exact HB.out)⟩
            · rw [if_neg c101] at H
              have c101b0 : (a0_1 == 0) = false := beq_eq_false_iff_ne.mpr c101
              have c101b1 : (a0_1 != 0) = true := bne_iff_ne.mpr c101
              simp only [Option.some.injEq, Prod.mk.injEq] at H
              obtain ⟨rfl, rfl, rfl⟩ := H
              have hnb107 := NB141_142.out
              have hnc107 := NB142_141.out
              have hnb108 := NB141_143.out
              have hnc108 := NB143_141.out
              have hcz109_0 : wc.cell? ⟨gb141, 0, none⟩ = some (.int .u32 a0_0) := (blk_cell BK141.out 0).trans rfl
              have hcz109_1 : wc.cell? ⟨gb141, 1, none⟩ = some (.int .u32 a0_1) := (blk_cell BK141.out 1).trans rfl
              have hfz109_0 := blk_frozen BK141.out 0
              have hfz109_1 := blk_frozen BK141.out 1
              go_wp2
              refine bodyPost_ret (results_ct rfl _ _ gb143 50 #[.int .u32 a0_0, .int .u32 a0_1] (0, 0) _ rfl (by (with_reducible repeat (first | refine blk_drewN ?_ _ | refine blk_drew ?_ | refine blk_alloc ?_ _)); exact BK143.out) Tryd.underlying50 rfl (by kernel_rfl)) rfl ?_
              exact ⟨by first | rfl | (simp [errW_none, errW_some] <;> rfl) | (simp [*, errW_none, errW_some] <;> rfl), by repeat (first | (with_reducible first | exact HB.out | apply below_alloc | apply pw_below_drewN | apply below_drew1 | refine below_set ?_ GE141.out | refine below_set ?_ GE142.out | refine below_set ?_ GE143.out) | exact HB.out)⟩

end Go.Proofs.YtajifebphcgcpaaDoor.PFnSeqOf
