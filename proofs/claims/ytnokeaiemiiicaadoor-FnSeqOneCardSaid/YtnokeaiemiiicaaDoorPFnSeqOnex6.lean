-- Printed for this claim by a copy of the kit's print that takes hand-proved callees (wip/patch_print.py).
import Derived.Test.YtnokeaiemiiicaaDoorPFnSeqOnex0
namespace Go.Proofs.YtnokeaiemiiicaaDoor.PFnSeqOne
open Go.RowKit Go.Proofs.YtnokeaiemiiicaaDoorW.PrintWords Go.Proofs.YtnokeaiemiiicaaDoorW.PrintLast Go.Proofs.YtnokeaiemiiicaaDoorW.PrintMore
attribute [local go_sem] max2_int min2_int max_two min_two max_three min_three max_four min_four   -- for this text's walks alone
set_option linter.unusedVariables false
set_option linter.unusedSimpArgs false

/-! ### goimap_Seq_Contains: function 33 -/
def goimap_Seq_Contains.f (a0_0 : Int) (a0_1 : Int) (a1 : Int) : Option (Bool) := if a1 = 0 then (some (a0_1 == 0)) else (if a0_0 = 0 then (some false) else (if a0_0 ≤ a1 then (if a1 ≤ a0_1 then (some true) else (some (a0_1 == 0))) else (some false)))
set_option maxHeartbeats 8000000 in
set_option maxRecDepth 100000 in
theorem goimap_Seq_Contains.calls (a0_0 : Int) (a0_1 : Int) (a1 : Int) (r : Bool) (w : World) (h : goimap_Seq_Contains.f a0_0 a0_1 a1 = some r) :
    Calls Tryd.prog 33 #[.agg #[.int .u32 a0_0, .int .u32 a0_1], .int .u32 a1] w fun e w' => e = .returned (.bool r) ∧ Below w.heap.size w w' := by
  have hu47 := Tryd.underlying47
  have HB := Aside0.mk (Below.refl w.heap.size w)
  have H : (if a1 = 0 then (some (a0_1 == 0)) else (if a0_0 = 0 then (some false) else (if a0_0 ≤ a1 then (if a1 ≤ a0_1 then (some true) else (some (a0_1 == 0))) else (some false)))) = some r := h
  clear h
  by_cases c3 : a1 = 0
  · rw [if_pos c3] at H
    have c3b0 : (a1 == 0) = true := beq_iff_eq.mpr c3
    have c3b1 : (a1 != 0) = false := bne_eq_false_iff_eq.mpr c3
    clear c3
    obtain rfl := Option.some.inj H
    go_enter Tryd.func33, Tryd.ntmps33
    go_wp2_with (first | ((with_reducible refine gate_dst (N := 2) rfl ?_); refine box_event ?hg (N := 2) ?hd (cs := #[.int .u32 a0_0, .int .u32 a0_1]) (t := 47) ?hr ?_; (case hd => rfl); (case hg => rfl); (case hr => first | (go_simp; done) | (go_simp; rfl)); intro gb150 hg w4 hbox hb; have n0_ := Aside0.mk (below_step (by repeat (first | (with_reducible first | exact HB.out | apply below_alloc | apply pw_below_drewN | apply below_drew1) | exact HB.out)) hb); have n1_ := Aside0.mk (hbox); have n2_ := Aside0.mk ((by rw [hg]; exact (below_size (by repeat (first | (with_reducible first | exact HB.out | apply below_alloc | apply pw_below_drewN | apply below_drew1) | exact HB.out))) : w.heap.size ≤ gb150)); have n3_ := Aside0.mk ((by rw [hg]; exact (below_size (by repeat (first | (with_reducible first | exact HB.out | apply below_alloc | apply pw_below_drewN | apply below_drew1) | exact HB.out))) : w.heap.size ≤ gb150)); clear HB; have HB := n0_; have BK150 := n1_; have GW150 := n2_; have GE150 := n3_; clear n0_ n1_ n2_ n3_; clear hb hbox hg; have hcz5_0 : w4.cell? ⟨gb150, 0, none⟩ = some (.int .u32 a0_0) := (blk_cell BK150.out 0).trans rfl; have hcz5_1 : w4.cell? ⟨gb150, 1, none⟩ = some (.int .u32 a0_1) := (blk_cell BK150.out 1).trans rfl; have hfz5_0 := blk_frozen BK150.out 0; have hfz5_1 := blk_frozen BK150.out 1))
    go_ret
    exact ⟨by first | rfl | (simp [errW_none, errW_some] <;> rfl) | (simp [*, errW_none, errW_some] <;> rfl), by repeat (first | (with_reducible first | exact HB.out | apply below_alloc | apply pw_below_drewN | apply below_drew1 | refine below_set ?_ GE150.out) | exact HB.out)⟩
  · rw [if_neg c3] at H
    have c3b0 : (a1 == 0) = false := beq_eq_false_iff_ne.mpr c3
    have c3b1 : (a1 != 0) = true := bne_iff_ne.mpr c3
    by_cases c6 : a0_0 = 0
    · rw [if_pos c6] at H
      have c6b0 : (a0_0 == 0) = true := beq_iff_eq.mpr c6
      have c6b1 : (a0_0 != 0) = false := bne_eq_false_iff_eq.mpr c6
      clear c6
      obtain rfl := Option.some.inj H
      go_enter Tryd.func33, Tryd.ntmps33
      go_wp2_with (first | ((with_reducible refine gate_dst (N := 2) rfl ?_); refine box_event ?hg (N := 2) ?hd (cs := #[.int .u32 a0_0, .int .u32 a0_1]) (t := 47) ?hr ?_; (case hd => rfl); (case hg => rfl); (case hr => first | (go_simp; done) | (go_simp; rfl)); intro gb150 hg w7 hbox hb; have n0_ := Aside0.mk (below_step (by repeat (first | (with_reducible first | exact HB.out | apply below_alloc | apply pw_below_drewN | apply below_drew1) | exact HB.out)) hb); have n1_ := Aside0.mk (hbox); have n2_ := Aside0.mk ((by rw [hg]; exact (below_size (by repeat (first | (with_reducible first | exact HB.out | apply below_alloc | apply pw_below_drewN | apply below_drew1) | exact HB.out))) : w.heap.size ≤ gb150)); have n3_ := Aside0.mk ((by rw [hg]; exact (below_size (by repeat (first | (with_reducible first | exact HB.out | apply below_alloc | apply pw_below_drewN | apply below_drew1) | exact HB.out))) : w.heap.size ≤ gb150)); clear HB; have HB := n0_; have BK150 := n1_; have GW150 := n2_; have GE150 := n3_; clear n0_ n1_ n2_ n3_; clear hb hbox hg; have hcz8_0 : w7.cell? ⟨gb150, 0, none⟩ = some (.int .u32 a0_0) := (blk_cell BK150.out 0).trans rfl; have hcz8_1 : w7.cell? ⟨gb150, 1, none⟩ = some (.int .u32 a0_1) := (blk_cell BK150.out 1).trans rfl; have hfz8_0 := blk_frozen BK150.out 0; have hfz8_1 := blk_frozen BK150.out 1))
      go_ret
      exact ⟨by first | rfl | (simp [errW_none, errW_some] <;> rfl) | (simp [*, errW_none, errW_some] <;> rfl), by repeat (first | (with_reducible first | exact HB.out | apply below_alloc | apply pw_below_drewN | apply below_drew1 | refine below_set ?_ GE150.out) | exact HB.out)⟩
    · rw [if_neg c6] at H
      have c6b0 : (a0_0 == 0) = false := beq_eq_false_iff_ne.mpr c6
      have c6b1 : (a0_0 != 0) = true := bne_iff_ne.mpr c6
      by_cases c9 : a0_0 ≤ a1
      · rw [if_pos c9] at H
        have c9b0 : decide (a0_0 ≤ a1) = true := decide_eq_true c9
        clear c9
        by_cases c10 : a1 ≤ a0_1
        · rw [if_pos c10] at H
          have c10b0 : decide (a1 ≤ a0_1) = true := decide_eq_true c10
          clear c10
          obtain rfl := Option.some.inj H
          go_enter Tryd.func33, Tryd.ntmps33
          go_wp2_with (first | ((with_reducible refine gate_dst (N := 2) rfl ?_); refine box_event ?hg (N := 2) ?hd (cs := #[.int .u32 a0_0, .int .u32 a0_1]) (t := 47) ?hr ?_; (case hd => rfl); (case hg => rfl); (case hr => first | (go_simp; done) | (go_simp; rfl)); intro gb150 hg w11 hbox hb; have n0_ := Aside0.mk (below_step (by repeat (first | (with_reducible first | exact HB.out | apply below_alloc | apply pw_below_drewN | apply below_drew1) | exact HB.out)) hb); have n1_ := Aside0.mk (hbox); have n2_ := Aside0.mk ((by rw [hg]; exact (below_size (by repeat (first | (with_reducible first | exact HB.out | apply below_alloc | apply pw_below_drewN | apply below_drew1) | exact HB.out))) : w.heap.size ≤ gb150)); have n3_ := Aside0.mk ((by rw [hg]; exact (below_size (by repeat (first | (with_reducible first | exact HB.out | apply below_alloc | apply pw_below_drewN | apply below_drew1) | exact HB.out))) : w.heap.size ≤ gb150)); clear HB; have HB := n0_; have BK150 := n1_; have GW150 := n2_; have GE150 := n3_; clear n0_ n1_ n2_ n3_; clear hb hbox hg; have hcz12_0 : w11.cell? ⟨gb150, 0, none⟩ = some (.int .u32 a0_0) := (blk_cell BK150.out 0).trans rfl; have hcz12_1 : w11.cell? ⟨gb150, 1, none⟩ = some (.int .u32 a0_1) := (blk_cell BK150.out 1).trans rfl; have hfz12_0 := blk_frozen BK150.out 0; have hfz12_1 := blk_frozen BK150.out 1))
          go_ret
          exact ⟨by first | rfl | (simp [errW_none, errW_some] <;> rfl) | (simp [*, errW_none, errW_some] <;> rfl), by repeat (first | (with_reducible first | exact HB.out | apply below_alloc | apply pw_below_drewN | apply below_drew1 | refine below_set ?_ GE150.out) | exact HB.out)⟩
        · rw [if_neg c10] at H
          have c10b0 : decide (a1 ≤ a0_1) = false := decide_eq_false c10
          clear c10
          obtain rfl := Option.some.inj H
          go_enter Tryd.func33, Tryd.ntmps33
          go_wp2_with (first | ((with_reducible refine gate_dst (N := 2) rfl ?_); refine box_event ?hg (N := 2) ?hd (cs := #[.int .u32 a0_0, .int .u32 a0_1]) (t := 47) ?hr ?_; (case hd => rfl); (case hg => rfl); (case hr => first | (go_simp; done) | (go_simp; rfl)); intro gb150 hg w13 hbox hb; have n0_ := Aside0.mk (below_step (by repeat (first | (with_reducible first | exact HB.out | apply below_alloc | apply pw_below_drewN | apply below_drew1) | exact HB.out)) hb); have n1_ := Aside0.mk (hbox); have n2_ := Aside0.mk ((by rw [hg]; exact (below_size (by repeat (first | (with_reducible first | exact HB.out | apply below_alloc | apply pw_below_drewN | apply below_drew1) | exact HB.out))) : w.heap.size ≤ gb150)); have n3_ := Aside0.mk ((by rw [hg]; exact (below_size (by repeat (first | (with_reducible first | exact HB.out | apply below_alloc | apply pw_below_drewN | apply below_drew1) | exact HB.out))) : w.heap.size ≤ gb150)); clear HB; have HB := n0_; have BK150 := n1_; have GW150 := n2_; have GE150 := n3_; clear n0_ n1_ n2_ n3_; clear hb hbox hg; have hcz14_0 : w13.cell? ⟨gb150, 0, none⟩ = some (.int .u32 a0_0) := (blk_cell BK150.out 0).trans rfl; have hcz14_1 : w13.cell? ⟨gb150, 1, none⟩ = some (.int .u32 a0_1) := (blk_cell BK150.out 1).trans rfl; have hfz14_0 := blk_frozen BK150.out 0; have hfz14_1 := blk_frozen BK150.out 1))
          go_ret
          exact ⟨by first | rfl | (simp [errW_none, errW_some] <;> rfl) | (simp [*, errW_none, errW_some] <;> rfl), by repeat (first | (with_reducible first | exact HB.out | apply below_alloc | apply pw_below_drewN | apply below_drew1 | refine below_set ?_ GE150.out) | exact HB.out)⟩
      · rw [if_neg c9] at H
        have c9b0 : decide (a0_0 ≤ a1) = false := decide_eq_false c9
        clear c9
        obtain rfl := Option.some.inj H
        go_enter Tryd.func33, Tryd.ntmps33
        go_wp2_with (first | ((with_reducible refine gate_dst (N := 2) rfl ?_); refine box_event ?hg (N := 2) ?hd (cs := #[.int .u32 a0_0, .int .u32 a0_1]) (t := 47) ?hr ?_; (case hd => rfl); (case hg => rfl); (case hr => first | (go_simp; done) | (go_simp; rfl)); intro gb150 hg w15 hbox hb; have n0_ := Aside0.mk (below_step (by repeat (first | (with_reducible first | exact HB.out | apply below_alloc | apply pw_below_drewN | apply below_drew1) | exact HB.out)) hb); have n1_ := Aside0.mk (hbox); have n2_ := Aside0.mk ((by rw [hg]; exact (below_size (by repeat (first | (with_reducible first | exact HB.out | apply below_alloc | apply pw_below_drewN | apply below_drew1) | exact HB.out))) : w.heap.size ≤ gb150)); have n3_ := Aside0.mk ((by rw [hg]; exact (below_size (by repeat (first | (with_reducible first | exact HB.out | apply below_alloc | apply pw_below_drewN | apply below_drew1) | exact HB.out))) : w.heap.size ≤ gb150)); clear HB; have HB := n0_; have BK150 := n1_; have GW150 := n2_; have GE150 := n3_; clear n0_ n1_ n2_ n3_; clear hb hbox hg; have hcz16_0 : w15.cell? ⟨gb150, 0, none⟩ = some (.int .u32 a0_0) := (blk_cell BK150.out 0).trans rfl; have hcz16_1 : w15.cell? ⟨gb150, 1, none⟩ = some (.int .u32 a0_1) := (blk_cell BK150.out 1).trans rfl; have hfz16_0 := blk_frozen BK150.out 0; have hfz16_1 := blk_frozen BK150.out 1))
        go_ret
        exact ⟨by first | rfl | (simp [errW_none, errW_some] <;> rfl) | (simp [*, errW_none, errW_some] <;> rfl), by repeat (first | (with_reducible first | exact HB.out | apply below_alloc | apply pw_below_drewN | apply below_drew1 | refine below_set ?_ GE150.out) | exact HB.out)⟩

/-! ### impl_SeqIn: function 12 -/
def impl_SeqIn.f (a0_0 : Int) (a0_1 : Int) (a1 : Int) : Option (Bool) := (goimap_Seq_Contains.f a0_0 a0_1 a1).bind fun t152 => (some t152)
set_option maxHeartbeats 8000000 in
set_option maxRecDepth 100000 in
theorem impl_SeqIn.calls (a0_0 : Int) (a0_1 : Int) (a1 : Int) (r : Bool) (w : World) (h : impl_SeqIn.f a0_0 a0_1 a1 = some r) :
    Calls Tryd.prog 12 #[.agg #[.int .u32 a0_0, .int .u32 a0_1], .int .u32 a1] w fun e w' => e = .returned (.bool r) ∧ Below w.heap.size w w' := by
  have hu24 := Tryd.underlying24
  have hu47 := Tryd.underlying47
  have HB := Aside0.mk (Below.refl w.heap.size w)
  have H : ((goimap_Seq_Contains.f a0_0 a0_1 a1).bind fun t152 => (some t152)) = some r := h
  clear h
  replace H := Option.bind_eq_some_iff.mp H
  obtain ⟨t152, A30, H⟩ := H
  replace H : (some t152) = some r := H
  have A3 := Aside0.mk A30
  clear A30
  obtain rfl := Option.some.inj H
  go_enter Tryd.func12, Tryd.ntmps12
  go_wp2_with (first | ((with_reducible refine gate_dst (N := 2) rfl ?_); refine box_event ?hg (N := 2) ?hd (cs := #[.int .u32 a0_0, .int .u32 a0_1]) (t := 24) ?hr ?_; (case hd => rfl); (case hg => rfl); (case hr => first | (go_simp; done) | (go_simp; rfl)); intro gb151 hg w4 hbox hb; have n0_ := Aside0.mk (below_step (by repeat (first | (with_reducible first | exact HB.out | apply below_alloc | apply pw_below_drewN | apply below_drew1) | exact HB.out)) hb); have n1_ := Aside0.mk (hbox); have n2_ := Aside0.mk ((by rw [hg]; exact (below_size (by repeat (first | (with_reducible first | exact HB.out | apply below_alloc | apply pw_below_drewN | apply below_drew1) | exact HB.out))) : w.heap.size ≤ gb151)); have n3_ := Aside0.mk ((by rw [hg]; exact (below_size (by repeat (first | (with_reducible first | exact HB.out | apply below_alloc | apply pw_below_drewN | apply below_drew1) | exact HB.out))) : w.heap.size ≤ gb151)); clear HB; have HB := n0_; have BK151 := n1_; have GW151 := n2_; have GE151 := n3_; clear n0_ n1_ n2_ n3_; clear hb hbox hg; have hcz5_0 : w4.cell? ⟨gb151, 0, none⟩ = some (.int .u32 a0_0) := (blk_cell BK151.out 0).trans rfl; have hcz5_1 : w4.cell? ⟨gb151, 1, none⟩ = some (.int .u32 a0_1) := (blk_cell BK151.out 1).trans rfl; have hfz5_0 := blk_frozen BK151.out 0; have hfz5_1 := blk_frozen BK151.out 1) | ((with_reducible refine gate_callee (f := 33) rfl ?_); refine goesL_ (some 11) rfl rfl Tryd.func33 (by kernel_rfl) rfl #[.agg #[.int .u32 a0_0, .int .u32 a0_1], .int .u32 a1] rfl (by (try simp only [List.map_toArray, List.map_cons, List.map_nil]); first | done | rfl | (simp only [List.length_drop, List.length_take]; rfl)) ?_; (with_reducible refine (goimap_Seq_Contains.calls a0_0 a0_1 a1 t152 _ A3.out).mono ?_); rintro e w6 ⟨rfl, hb⟩; refine ⟨_, rfl, ?_⟩; have n0_ := Aside0.mk (blk_below (g := gb151) (o := .cells #[.int .u32 a0_0, .int .u32 a0_1] 24 (0, 0)) (by (with_reducible repeat (first | refine blk_drewN ?_ _ | refine blk_drew ?_ | refine blk_alloc ?_ _)); exact BK151.out) hb); have n1_ := Aside0.mk (below_step (by repeat (first | (with_reducible first | exact HB.out | apply below_alloc | apply pw_below_drewN | apply below_drew1 | refine below_set ?_ GE151.out) | exact HB.out)) hb); clear BK151; clear HB; have BK151 := n0_; have HB := n1_; clear n0_ n1_; (try clear hb); (try clear hb2); (try clear hk); (try clear hi)))
  go_ret
  exact ⟨by first | rfl | (simp [errW_none, errW_some] <;> rfl) | (simp [*, errW_none, errW_some] <;> rfl), by repeat (first | (with_reducible first | exact HB.out | apply below_alloc | apply pw_below_drewN | apply below_drew1 | refine below_set ?_ GE151.out) | exact HB.out)⟩

/-! ### spec_Within9: function 13 -/
def spec_Within9.f (a0_0 : Int) (a0_1 : Int) (a1 : Int) : Option (Bool) := if a1 = 0 then (some (a0_1 == 0)) else (if a0_0 = 0 then (some false) else (if a0_0 ≤ a1 then (if a1 ≤ a0_1 then (some true) else (some (a0_1 == 0))) else (some false)))
set_option maxHeartbeats 8000000 in
set_option maxRecDepth 100000 in
theorem spec_Within9.calls (a0_0 : Int) (a0_1 : Int) (a1 : Int) (r : Bool) (w : World) (h : spec_Within9.f a0_0 a0_1 a1 = some r) :
    Calls Tryd.prog 13 #[.agg #[.int .u32 a0_0, .int .u32 a0_1], .int .u32 a1] w fun e w' => e = .returned (.bool r) ∧ Below w.heap.size w w' := by
  have hu24 := Tryd.underlying24
  have HB := Aside0.mk (Below.refl w.heap.size w)
  have H : (if a1 = 0 then (some (a0_1 == 0)) else (if a0_0 = 0 then (some false) else (if a0_0 ≤ a1 then (if a1 ≤ a0_1 then (some true) else (some (a0_1 == 0))) else (some false)))) = some r := h
  clear h
  by_cases c3 : a1 = 0
  · rw [if_pos c3] at H
    have c3b0 : (a1 == 0) = true := beq_iff_eq.mpr c3
    have c3b1 : (a1 != 0) = false := bne_eq_false_iff_eq.mpr c3
    clear c3
    obtain rfl := Option.some.inj H
    go_enter Tryd.func13, Tryd.ntmps13
    go_wp2_with (first | ((with_reducible refine gate_dst (N := 2) rfl ?_); refine box_event ?hg (N := 2) ?hd (cs := #[.int .u32 a0_0, .int .u32 a0_1]) (t := 24) ?hr ?_; (case hd => rfl); (case hg => rfl); (case hr => first | (go_simp; done) | (go_simp; rfl)); intro gb153 hg w4 hbox hb; have n0_ := Aside0.mk (below_step (by repeat (first | (with_reducible first | exact HB.out | apply below_alloc | apply pw_below_drewN | apply below_drew1) | exact HB.out)) hb); have n1_ := Aside0.mk (hbox); have n2_ := Aside0.mk ((by rw [hg]; exact (below_size (by repeat (first | (with_reducible first | exact HB.out | apply below_alloc | apply pw_below_drewN | apply below_drew1) | exact HB.out))) : w.heap.size ≤ gb153)); have n3_ := Aside0.mk ((by rw [hg]; exact (below_size (by repeat (first | (with_reducible first | exact HB.out | apply below_alloc | apply pw_below_drewN | apply below_drew1) | exact HB.out))) : w.heap.size ≤ gb153)); clear HB; have HB := n0_; have BK153 := n1_; have GW153 := n2_; have GE153 := n3_; clear n0_ n1_ n2_ n3_; clear hb hbox hg; have hcz5_0 : w4.cell? ⟨gb153, 0, none⟩ = some (.int .u32 a0_0) := (blk_cell BK153.out 0).trans rfl; have hcz5_1 : w4.cell? ⟨gb153, 1, none⟩ = some (.int .u32 a0_1) := (blk_cell BK153.out 1).trans rfl; have hfz5_0 := blk_frozen BK153.out 0; have hfz5_1 := blk_frozen BK153.out 1))
    go_ret
    exact ⟨by first | rfl | (simp [errW_none, errW_some] <;> rfl) | (simp [*, errW_none, errW_some] <;> rfl), by repeat (first | (with_reducible first | exact HB.out | apply below_alloc | apply pw_below_drewN | apply below_drew1 | refine below_set ?_ GE153.out) | exact HB.out)⟩
  · rw [if_neg c3] at H
    have c3b0 : (a1 == 0) = false := beq_eq_false_iff_ne.mpr c3
    have c3b1 : (a1 != 0) = true := bne_iff_ne.mpr c3
    by_cases c6 : a0_0 = 0
    · rw [if_pos c6] at H
      have c6b0 : (a0_0 == 0) = true := beq_iff_eq.mpr c6
      have c6b1 : (a0_0 != 0) = false := bne_eq_false_iff_eq.mpr c6
      clear c6
      obtain rfl := Option.some.inj H
      go_enter Tryd.func13, Tryd.ntmps13
      go_wp2_with (first | ((with_reducible refine gate_dst (N := 2) rfl ?_); refine box_event ?hg (N := 2) ?hd (cs := #[.int .u32 a0_0, .int .u32 a0_1]) (t := 24) ?hr ?_; (case hd => rfl); (case hg => rfl); (case hr => first | (go_simp; done) | (go_simp; rfl)); intro gb153 hg w7 hbox hb; have n0_ := Aside0.mk (below_step (by repeat (first | (with_reducible first | exact HB.out | apply below_alloc | apply pw_below_drewN | apply below_drew1) | exact HB.out)) hb); have n1_ := Aside0.mk (hbox); have n2_ := Aside0.mk ((by rw [hg]; exact (below_size (by repeat (first | (with_reducible first | exact HB.out | apply below_alloc | apply pw_below_drewN | apply below_drew1) | exact HB.out))) : w.heap.size ≤ gb153)); have n3_ := Aside0.mk ((by rw [hg]; exact (below_size (by repeat (first | (with_reducible first | exact HB.out | apply below_alloc | apply pw_below_drewN | apply below_drew1) | exact HB.out))) : w.heap.size ≤ gb153)); clear HB; have HB := n0_; have BK153 := n1_; have GW153 := n2_; have GE153 := n3_; clear n0_ n1_ n2_ n3_; clear hb hbox hg; have hcz8_0 : w7.cell? ⟨gb153, 0, none⟩ = some (.int .u32 a0_0) := (blk_cell BK153.out 0).trans rfl; have hcz8_1 : w7.cell? ⟨gb153, 1, none⟩ = some (.int .u32 a0_1) := (blk_cell BK153.out 1).trans rfl; have hfz8_0 := blk_frozen BK153.out 0; have hfz8_1 := blk_frozen BK153.out 1))
      go_ret
      exact ⟨by first | rfl | (simp [errW_none, errW_some] <;> rfl) | (simp [*, errW_none, errW_some] <;> rfl), by repeat (first | (with_reducible first | exact HB.out | apply below_alloc | apply pw_below_drewN | apply below_drew1 | refine below_set ?_ GE153.out) | exact HB.out)⟩
    · rw [if_neg c6] at H
      have c6b0 : (a0_0 == 0) = false := beq_eq_false_iff_ne.mpr c6
      have c6b1 : (a0_0 != 0) = true := bne_iff_ne.mpr c6
      by_cases c9 : a0_0 ≤ a1
      · rw [if_pos c9] at H
        have c9b0 : decide (a0_0 ≤ a1) = true := decide_eq_true c9
        clear c9
        by_cases c10 : a1 ≤ a0_1
        · rw [if_pos c10] at H
          have c10b0 : decide (a1 ≤ a0_1) = true := decide_eq_true c10
          clear c10
          obtain rfl := Option.some.inj H
          go_enter Tryd.func13, Tryd.ntmps13
          go_wp2_with (first | ((with_reducible refine gate_dst (N := 2) rfl ?_); refine box_event ?hg (N := 2) ?hd (cs := #[.int .u32 a0_0, .int .u32 a0_1]) (t := 24) ?hr ?_; (case hd => rfl); (case hg => rfl); (case hr => first | (go_simp; done) | (go_simp; rfl)); intro gb153 hg w11 hbox hb; have n0_ := Aside0.mk (below_step (by repeat (first | (with_reducible first | exact HB.out | apply below_alloc | apply pw_below_drewN | apply below_drew1) | exact HB.out)) hb); have n1_ := Aside0.mk (hbox); have n2_ := Aside0.mk ((by rw [hg]; exact (below_size (by repeat (first | (with_reducible first | exact HB.out | apply below_alloc | apply pw_below_drewN | apply below_drew1) | exact HB.out))) : w.heap.size ≤ gb153)); have n3_ := Aside0.mk ((by rw [hg]; exact (below_size (by repeat (first | (with_reducible first | exact HB.out | apply below_alloc | apply pw_below_drewN | apply below_drew1) | exact HB.out))) : w.heap.size ≤ gb153)); clear HB; have HB := n0_; have BK153 := n1_; have GW153 := n2_; have GE153 := n3_; clear n0_ n1_ n2_ n3_; clear hb hbox hg; have hcz12_0 : w11.cell? ⟨gb153, 0, none⟩ = some (.int .u32 a0_0) := (blk_cell BK153.out 0).trans rfl; have hcz12_1 : w11.cell? ⟨gb153, 1, none⟩ = some (.int .u32 a0_1) := (blk_cell BK153.out 1).trans rfl; have hfz12_0 := blk_frozen BK153.out 0; have hfz12_1 := blk_frozen BK153.out 1))
          go_ret
          exact ⟨by first | rfl | (simp [errW_none, errW_some] <;> rfl) | (simp [*, errW_none, errW_some] <;> rfl), by repeat (first | (with_reducible first | exact HB.out | apply below_alloc | apply pw_below_drewN | apply below_drew1 | refine below_set ?_ GE153.out) | exact HB.out)⟩
        · rw [if_neg c10] at H
          have c10b0 : decide (a1 ≤ a0_1) = false := decide_eq_false c10
          clear c10
          obtain rfl := Option.some.inj H
          go_enter Tryd.func13, Tryd.ntmps13
          go_wp2_with (first | ((with_reducible refine gate_dst (N := 2) rfl ?_); refine box_event ?hg (N := 2) ?hd (cs := #[.int .u32 a0_0, .int .u32 a0_1]) (t := 24) ?hr ?_; (case hd => rfl); (case hg => rfl); (case hr => first | (go_simp; done) | (go_simp; rfl)); intro gb153 hg w13 hbox hb; have n0_ := Aside0.mk (below_step (by repeat (first | (with_reducible first | exact HB.out | apply below_alloc | apply pw_below_drewN | apply below_drew1) | exact HB.out)) hb); have n1_ := Aside0.mk (hbox); have n2_ := Aside0.mk ((by rw [hg]; exact (below_size (by repeat (first | (with_reducible first | exact HB.out | apply below_alloc | apply pw_below_drewN | apply below_drew1) | exact HB.out))) : w.heap.size ≤ gb153)); have n3_ := Aside0.mk ((by rw [hg]; exact (below_size (by repeat (first | (with_reducible first | exact HB.out | apply below_alloc | apply pw_below_drewN | apply below_drew1) | exact HB.out))) : w.heap.size ≤ gb153)); clear HB; have HB := n0_; have BK153 := n1_; have GW153 := n2_; have GE153 := n3_; clear n0_ n1_ n2_ n3_; clear hb hbox hg; have hcz14_0 : w13.cell? ⟨gb153, 0, none⟩ = some (.int .u32 a0_0) := (blk_cell BK153.out 0).trans rfl; have hcz14_1 : w13.cell? ⟨gb153, 1, none⟩ = some (.int .u32 a0_1) := (blk_cell BK153.out 1).trans rfl; have hfz14_0 := blk_frozen BK153.out 0; have hfz14_1 := blk_frozen BK153.out 1))
          go_ret
          exact ⟨by first | rfl | (simp [errW_none, errW_some] <;> rfl) | (simp [*, errW_none, errW_some] <;> rfl), by repeat (first | (with_reducible first | exact HB.out | apply below_alloc | apply pw_below_drewN | apply below_drew1 | refine below_set ?_ GE153.out) | exact HB.out)⟩
      · rw [if_neg c9] at H
        have c9b0 : decide (a0_0 ≤ a1) = false := decide_eq_false c9
        clear c9
        obtain rfl := Option.some.inj H
        go_enter Tryd.func13, Tryd.ntmps13
        go_wp2_with (first | ((with_reducible refine gate_dst (N := 2) rfl ?_); refine box_event ?hg (N := 2) ?hd (cs := #[.int .u32 a0_0, .int .u32 a0_1]) (t := 24) ?hr ?_; (case hd => rfl); (case hg => rfl); (case hr => first | (go_simp; done) | (go_simp; rfl)); intro gb153 hg w15 hbox hb; have n0_ := Aside0.mk (below_step (by repeat (first | (with_reducible first | exact HB.out | apply below_alloc | apply pw_below_drewN | apply below_drew1) | exact HB.out)) hb); have n1_ := Aside0.mk (hbox); have n2_ := Aside0.mk ((by rw [hg]; exact (below_size (by repeat (first | (with_reducible first | exact HB.out | apply below_alloc | apply pw_below_drewN | apply below_drew1) | exact HB.out))) : w.heap.size ≤ gb153)); have n3_ := Aside0.mk ((by rw [hg]; exact (below_size (by repeat (first | (with_reducible first | exact HB.out | apply below_alloc | apply pw_below_drewN | apply below_drew1) | exact HB.out))) : w.heap.size ≤ gb153)); clear HB; have HB := n0_; have BK153 := n1_; have GW153 := n2_; have GE153 := n3_; clear n0_ n1_ n2_ n3_; clear hb hbox hg; have hcz16_0 : w15.cell? ⟨gb153, 0, none⟩ = some (.int .u32 a0_0) := (blk_cell BK153.out 0).trans rfl; have hcz16_1 : w15.cell? ⟨gb153, 1, none⟩ = some (.int .u32 a0_1) := (blk_cell BK153.out 1).trans rfl; have hfz16_0 := blk_frozen BK153.out 0; have hfz16_1 := blk_frozen BK153.out 1))
        go_ret
        exact ⟨by first | rfl | (simp [errW_none, errW_some] <;> rfl) | (simp [*, errW_none, errW_some] <;> rfl), by repeat (first | (with_reducible first | exact HB.out | apply below_alloc | apply pw_below_drewN | apply below_drew1 | refine below_set ?_ GE153.out) | exact HB.out)⟩

/-! ### goimap_Seq_Less: function 34 -/
def goimap_Seq_Less.f (a0_0 : Int) (a0_1 : Int) (a1 : Int) : Option (Bool) := if a0_1 < a1 then (some (a0_1 != 0)) else (if a1 = 0 then (some (a0_1 != 0)) else (some false))
set_option maxHeartbeats 8000000 in
set_option maxRecDepth 100000 in
theorem goimap_Seq_Less.calls (a0_0 : Int) (a0_1 : Int) (a1 : Int) (r : Bool) (w : World) (h : goimap_Seq_Less.f a0_0 a0_1 a1 = some r) :
    Calls Tryd.prog 34 #[.agg #[.int .u32 a0_0, .int .u32 a0_1], .int .u32 a1] w fun e w' => e = .returned (.bool r) ∧ Below w.heap.size w w' := by
  have hu47 := Tryd.underlying47
  have HB := Aside0.mk (Below.refl w.heap.size w)
  have H : (if a0_1 < a1 then (some (a0_1 != 0)) else (if a1 = 0 then (some (a0_1 != 0)) else (some false))) = some r := h
  clear h
  by_cases c3 : a0_1 < a1
  · rw [if_pos c3] at H
    have c3b0 : decide (a0_1 < a1) = true := decide_eq_true c3
    clear c3
    obtain rfl := Option.some.inj H
    go_enter Tryd.func34, Tryd.ntmps34
    go_wp2_with (first | ((with_reducible refine gate_dst (N := 2) rfl ?_); refine box_event ?hg (N := 2) ?hd (cs := #[.int .u32 a0_0, .int .u32 a0_1]) (t := 47) ?hr ?_; (case hd => rfl); (case hg => rfl); (case hr => first | (go_simp; done) | (go_simp; rfl)); intro gb154 hg w4 hbox hb; have n0_ := Aside0.mk (below_step (by repeat (first | (with_reducible first | exact HB.out | apply below_alloc | apply pw_below_drewN | apply below_drew1) | exact HB.out)) hb); have n1_ := Aside0.mk (hbox); have n2_ := Aside0.mk ((by rw [hg]; exact (below_size (by repeat (first | (with_reducible first | exact HB.out | apply below_alloc | apply pw_below_drewN | apply below_drew1) | exact HB.out))) : w.heap.size ≤ gb154)); have n3_ := Aside0.mk ((by rw [hg]; exact (below_size (by repeat (first | (with_reducible first | exact HB.out | apply below_alloc | apply pw_below_drewN | apply below_drew1) | exact HB.out))) : w.heap.size ≤ gb154)); clear HB; have HB := n0_; have BK154 := n1_; have GW154 := n2_; have GE154 := n3_; clear n0_ n1_ n2_ n3_; clear hb hbox hg; have hcz5_0 : w4.cell? ⟨gb154, 0, none⟩ = some (.int .u32 a0_0) := (blk_cell BK154.out 0).trans rfl; have hcz5_1 : w4.cell? ⟨gb154, 1, none⟩ = some (.int .u32 a0_1) := (blk_cell BK154.out 1).trans rfl; have hfz5_0 := blk_frozen BK154.out 0; have hfz5_1 := blk_frozen BK154.out 1))
    go_ret
    exact ⟨by first | rfl | (simp [errW_none, errW_some] <;> rfl) | (simp [*, errW_none, errW_some] <;> rfl), by repeat (first | (with_reducible first | exact HB.out | apply below_alloc | apply pw_below_drewN | apply below_drew1 | refine below_set ?_ GE154.out) | exact HB.out)⟩
  · rw [if_neg c3] at H
    have c3b0 : decide (a0_1 < a1) = false := decide_eq_false c3
    clear c3
    by_cases c6 : a1 = 0
    · rw [if_pos c6] at H
      have c6b0 : (a1 == 0) = true := beq_iff_eq.mpr c6
      have c6b1 : (a1 != 0) = false := bne_eq_false_iff_eq.mpr c6
      clear c6
      obtain rfl := Option.some.inj H
      go_enter Tryd.func34, Tryd.ntmps34
      go_wp2_with (first | ((with_reducible refine gate_dst (N := 2) rfl ?_); refine box_event ?hg (N := 2) ?hd (cs := #[.int .u32 a0_0, .int .u32 a0_1]) (t := 47) ?hr ?_; (case hd => rfl); (case hg => rfl); (case hr => first | (go_simp; done) | (go_simp; rfl)); intro gb154 hg w7 hbox hb; have n0_ := Aside0.mk (below_step (by repeat (first | (with_reducible first | exact HB.out | apply below_alloc | apply pw_below_drewN | apply below_drew1) | exact HB.out)) hb); have n1_ := Aside0.mk (hbox); have n2_ := Aside0.mk ((by rw [hg]; exact (below_size (by repeat (first | (with_reducible first | exact HB.out | apply below_alloc | apply pw_below_drewN | apply below_drew1) | exact HB.out))) : w.heap.size ≤ gb154)); have n3_ := Aside0.mk ((by rw [hg]; exact (below_size (by repeat (first | (with_reducible first | exact HB.out | apply below_alloc | apply pw_below_drewN | apply below_drew1) | exact HB.out))) : w.heap.size ≤ gb154)); clear HB; have HB := n0_; have BK154 := n1_; have GW154 := n2_; have GE154 := n3_; clear n0_ n1_ n2_ n3_; clear hb hbox hg; have hcz8_0 : w7.cell? ⟨gb154, 0, none⟩ = some (.int .u32 a0_0) := (blk_cell BK154.out 0).trans rfl; have hcz8_1 : w7.cell? ⟨gb154, 1, none⟩ = some (.int .u32 a0_1) := (blk_cell BK154.out 1).trans rfl; have hfz8_0 := blk_frozen BK154.out 0; have hfz8_1 := blk_frozen BK154.out 1))
      go_ret
      exact ⟨by first | rfl | (simp [errW_none, errW_some] <;> rfl) | (simp [*, errW_none, errW_some] <;> rfl), by repeat (first | (with_reducible first | exact HB.out | apply below_alloc | apply pw_below_drewN | apply below_drew1 | refine below_set ?_ GE154.out) | exact HB.out)⟩
    · rw [if_neg c6] at H
      have c6b0 : (a1 == 0) = false := beq_eq_false_iff_ne.mpr c6
      have c6b1 : (a1 != 0) = true := bne_iff_ne.mpr c6
      obtain rfl := Option.some.inj H
      go_enter Tryd.func34, Tryd.ntmps34
      go_wp2_with (first | ((with_reducible refine gate_dst (N := 2) rfl ?_); refine box_event ?hg (N := 2) ?hd (cs := #[.int .u32 a0_0, .int .u32 a0_1]) (t := 47) ?hr ?_; (case hd => rfl); (case hg => rfl); (case hr => first | (go_simp; done) | (go_simp; rfl)); intro gb154 hg w9 hbox hb; have n0_ := Aside0.mk (below_step (by repeat (first | (with_reducible first | exact HB.out | apply below_alloc | apply pw_below_drewN | apply below_drew1) | exact HB.out)) hb); have n1_ := Aside0.mk (hbox); have n2_ := Aside0.mk ((by rw [hg]; exact (below_size (by repeat (first | (with_reducible first | exact HB.out | apply below_alloc | apply pw_below_drewN | apply below_drew1) | exact HB.out))) : w.heap.size ≤ gb154)); have n3_ := Aside0.mk ((by rw [hg]; exact (below_size (by repeat (first | (with_reducible first | exact HB.out | apply below_alloc | apply pw_below_drewN | apply below_drew1) | exact HB.out))) : w.heap.size ≤ gb154)); clear HB; have HB := n0_; have BK154 := n1_; have GW154 := n2_; have GE154 := n3_; clear n0_ n1_ n2_ n3_; clear hb hbox hg; have hcz10_0 : w9.cell? ⟨gb154, 0, none⟩ = some (.int .u32 a0_0) := (blk_cell BK154.out 0).trans rfl; have hcz10_1 : w9.cell? ⟨gb154, 1, none⟩ = some (.int .u32 a0_1) := (blk_cell BK154.out 1).trans rfl; have hfz10_0 := blk_frozen BK154.out 0; have hfz10_1 := blk_frozen BK154.out 1))
      go_ret
      exact ⟨by first | rfl | (simp [errW_none, errW_some] <;> rfl) | (simp [*, errW_none, errW_some] <;> rfl), by repeat (first | (with_reducible first | exact HB.out | apply below_alloc | apply pw_below_drewN | apply below_drew1 | refine below_set ?_ GE154.out) | exact HB.out)⟩

/-! ### impl_SeqLess: function 14 -/
def impl_SeqLess.f (a0_0 : Int) (a0_1 : Int) (a1 : Int) : Option (Bool) := (goimap_Seq_Less.f a0_0 a0_1 a1).bind fun t156 => (some t156)
set_option maxHeartbeats 8000000 in
set_option maxRecDepth 100000 in
theorem impl_SeqLess.calls (a0_0 : Int) (a0_1 : Int) (a1 : Int) (r : Bool) (w : World) (h : impl_SeqLess.f a0_0 a0_1 a1 = some r) :
    Calls Tryd.prog 14 #[.agg #[.int .u32 a0_0, .int .u32 a0_1], .int .u32 a1] w fun e w' => e = .returned (.bool r) ∧ Below w.heap.size w w' := by
  have hu24 := Tryd.underlying24
  have hu47 := Tryd.underlying47
  have HB := Aside0.mk (Below.refl w.heap.size w)
  have H : ((goimap_Seq_Less.f a0_0 a0_1 a1).bind fun t156 => (some t156)) = some r := h
  clear h
  replace H := Option.bind_eq_some_iff.mp H
  obtain ⟨t156, A30, H⟩ := H
  replace H : (some t156) = some r := H
  have A3 := Aside0.mk A30
  clear A30
  obtain rfl := Option.some.inj H
  go_enter Tryd.func14, Tryd.ntmps14
  go_wp2_with (first | ((with_reducible refine gate_dst (N := 2) rfl ?_); refine box_event ?hg (N := 2) ?hd (cs := #[.int .u32 a0_0, .int .u32 a0_1]) (t := 24) ?hr ?_; (case hd => rfl); (case hg => rfl); (case hr => first | (go_simp; done) | (go_simp; rfl)); intro gb155 hg w4 hbox hb; have n0_ := Aside0.mk (below_step (by repeat (first | (with_reducible first | exact HB.out | apply below_alloc | apply pw_below_drewN | apply below_drew1) | exact HB.out)) hb); have n1_ := Aside0.mk (hbox); have n2_ := Aside0.mk ((by rw [hg]; exact (below_size (by repeat (first | (with_reducible first | exact HB.out | apply below_alloc | apply pw_below_drewN | apply below_drew1) | exact HB.out))) : w.heap.size ≤ gb155)); have n3_ := Aside0.mk ((by rw [hg]; exact (below_size (by repeat (first | (with_reducible first | exact HB.out | apply below_alloc | apply pw_below_drewN | apply below_drew1) | exact HB.out))) : w.heap.size ≤ gb155)); clear HB; have HB := n0_; have BK155 := n1_; have GW155 := n2_; have GE155 := n3_; clear n0_ n1_ n2_ n3_; clear hb hbox hg; have hcz5_0 : w4.cell? ⟨gb155, 0, none⟩ = some (.int .u32 a0_0) := (blk_cell BK155.out 0).trans rfl; have hcz5_1 : w4.cell? ⟨gb155, 1, none⟩ = some (.int .u32 a0_1) := (blk_cell BK155.out 1).trans rfl; have hfz5_0 := blk_frozen BK155.out 0; have hfz5_1 := blk_frozen BK155.out 1) | ((with_reducible refine gate_callee (f := 34) rfl ?_); refine goesL_ (some 11) rfl rfl Tryd.func34 (by kernel_rfl) rfl #[.agg #[.int .u32 a0_0, .int .u32 a0_1], .int .u32 a1] rfl (by (try simp only [List.map_toArray, List.map_cons, List.map_nil]); first | done | rfl | (simp only [List.length_drop, List.length_take]; rfl)) ?_; (with_reducible refine (goimap_Seq_Less.calls a0_0 a0_1 a1 t156 _ A3.out).mono ?_); rintro e w6 ⟨rfl, hb⟩; refine ⟨_, rfl, ?_⟩; have n0_ := Aside0.mk (blk_below (g := gb155) (o := .cells #[.int .u32 a0_0, .int .u32 a0_1] 24 (0, 0)) (by (with_reducible repeat (first | refine blk_drewN ?_ _ | refine blk_drew ?_ | refine blk_alloc ?_ _)); exact BK155.out) hb); have n1_ := Aside0.mk (below_step (by repeat (first | (with_reducible first | exact HB.out | apply below_alloc | apply pw_below_drewN | apply below_drew1 | refine below_set ?_ GE155.out) | exact HB.out)) hb); clear BK155; clear HB; have BK155 := n0_; have HB := n1_; clear n0_ n1_; (try clear hb); (try clear hb2); (try clear hk); (try clear hi)))
  go_ret
  exact ⟨by first | rfl | (simp [errW_none, errW_some] <;> rfl) | (simp [*, errW_none, errW_some] <;> rfl), by repeat (first | (with_reducible first | exact HB.out | apply below_alloc | apply pw_below_drewN | apply below_drew1 | refine below_set ?_ GE155.out) | exact HB.out)⟩

end Go.Proofs.YtnokeaiemiiicaaDoor.PFnSeqOne
