-- Printed for this claim by a copy of the kit's print that takes hand-proved callees (wip/patch_print.py).
import Derived.Test.YtajifebphcgcpaaDoorPFnSeqOfx0
namespace Go.Proofs.YtajifebphcgcpaaDoor.PFnSeqOf
open Go.RowKit Go.Proofs.YtajifebphcgcpaaDoorW.PrintWords Go.Proofs.YtajifebphcgcpaaDoorW.PrintLast Go.Proofs.YtajifebphcgcpaaDoorW.PrintMore
attribute [local go_sem] max2_int min2_int max_two min_two max_three min_three max_four min_four   -- for this text's walks alone
set_option linter.unusedVariables false
set_option linter.unusedSimpArgs false

/-! ### goimap_Seq_Contains: function 24 -/
def goimap_Seq_Contains.f (a0_0 : Int) (a0_1 : Int) (a1 : Int) : Option (Bool) := if a1 = 0 then (some (a0_1 == 0)) else (if a0_0 = 0 then (some false) else (if a0_0 ≤ a1 then (if a1 ≤ a0_1 then (some true) else (some (a0_1 == 0))) else (some false)))
set_option maxHeartbeats 8000000 in
set_option maxRecDepth 100000 in
theorem goimap_Seq_Contains.calls (a0_0 : Int) (a0_1 : Int) (a1 : Int) (r : Bool) (w : World) (h : goimap_Seq_Contains.f a0_0 a0_1 a1 = some r) :
    Calls Tryd.prog 24 #[.agg #[.int .u32 a0_0, .int .u32 a0_1], .int .u32 a1] w fun e w' => e = .returned (.bool r) ∧ Below w.heap.size w w' := by
  have hu50 := Tryd.underlying50
  have HB := Aside0.mk (Below.refl w.heap.size w)
  have H : (if a1 = 0 then (some (a0_1 == 0)) else (if a0_0 = 0 then (some false) else (if a0_0 ≤ a1 then (if a1 ≤ a0_1 then (some true) else (some (a0_1 == 0))) else (some false)))) = some r := h
  clear h
  by_cases c3 : a1 = 0
  · rw [if_pos c3] at H
    have c3b0 : (a1 == 0) = true := beq_iff_eq.mpr c3
    have c3b1 : (a1 != 0) = false := bne_eq_false_iff_eq.mpr c3
    clear c3
    obtain rfl := Option.some.inj H
    go_enter Tryd.func24, Tryd.ntmps24
    go_wp2_with (first | ((with_reducible refine gate_dst (N := 2) rfl ?_); refine box_event ?hg (N := 2) ?hd (cs := #[.int .u32 a0_0, .int .u32 a0_1]) (t := 50) ?hr ?_; (case hd => rfl); (case hg => rfl); (case hr => first | (go_simp; done) | (go_simp; rfl)); intro gb144 hg w4 hbox hb; have n0_ := Aside0.mk (below_step (by repeat (first | (with_reducible first | exact HB.out | apply below_alloc | apply pw_below_drewN | apply below_drew1) | exact HB.out)) hb); have n1_ := Aside0.mk (hbox); have n2_ := Aside0.mk ((by rw [hg]; exact (below_size (by repeat (first | (with_reducible first | exact HB.out | apply below_alloc | apply pw_below_drewN | apply below_drew1) | exact HB.out))) : w.heap.size ≤ gb144)); have n3_ := Aside0.mk ((by rw [hg]; exact (below_size (by repeat (first | (with_reducible first | exact HB.out | apply below_alloc | apply pw_below_drewN | apply below_drew1) | exact HB.out))) : w.heap.size ≤ gb144)); clear HB; have HB := n0_; have BK144 := n1_; have GW144 := n2_; have GE144 := n3_; clear n0_ n1_ n2_ n3_; clear hb hbox hg; have hcz5_0 : w4.cell? ⟨gb144, 0, none⟩ = some (.int .u32 a0_0) := (blk_cell BK144.out 0).trans rfl; have hcz5_1 : w4.cell? ⟨gb144, 1, none⟩ = some (.int .u32 a0_1) := (blk_cell BK144.out 1).trans rfl; have hfz5_0 := blk_frozen BK144.out 0; have hfz5_1 := blk_frozen BK144.out 1))
    go_ret
    exact ⟨by first | rfl | (simp [errW_none, errW_some] <;> rfl) | (simp [*, errW_none, errW_some] <;> rfl), by repeat (first | (with_reducible first | exact HB.out | apply below_alloc | apply pw_below_drewN | apply below_drew1 | refine below_set ?_ GE144.out) | exact HB.out)⟩
  · rw [if_neg c3] at H
    have c3b0 : (a1 == 0) = false := beq_eq_false_iff_ne.mpr c3
    have c3b1 : (a1 != 0) = true := bne_iff_ne.mpr c3
    by_cases c6 : a0_0 = 0
    · rw [if_pos c6] at H
      have c6b0 : (a0_0 == 0) = true := beq_iff_eq.mpr c6
      have c6b1 : (a0_0 != 0) = false := bne_eq_false_iff_eq.mpr c6
      clear c6
      obtain rfl := Option.some.inj H
      go_enter Tryd.func24, Tryd.ntmps24
      go_wp2_with (first | ((with_reducible refine gate_dst (N := 2) rfl ?_); refine box_event ?hg (N := 2) ?hd (cs := #[.int .u32 a0_0, .int .u32 a0_1]) (t := 50) ?hr ?_; (case hd => rfl); (case hg => rfl); (case hr => first | (go_simp; done) | (go_simp; rfl)); intro gb144 hg w7 hbox hb; have n0_ := Aside0.mk (below_step (by repeat (first | (with_reducible first | exact HB.out | apply below_alloc | apply pw_below_drewN | apply below_drew1) | exact HB.out)) hb); have n1_ := Aside0.mk (hbox); have n2_ := Aside0.mk ((by rw [hg]; exact (below_size (by repeat (first | (with_reducible first | exact HB.out | apply below_alloc | apply pw_below_drewN | apply below_drew1) | exact HB.out))) : w.heap.size ≤ gb144)); have n3_ := Aside0.mk ((by rw [hg]; exact (below_size (by repeat (first | (with_reducible first | exact HB.out | apply below_alloc | apply pw_below_drewN | apply below_drew1) | exact HB.out))) : w.heap.size ≤ gb144)); clear HB; have HB := n0_; have BK144 := n1_; have GW144 := n2_; have GE144 := n3_; clear n0_ n1_ n2_ n3_; clear hb hbox hg; have hcz8_0 : w7.cell? ⟨gb144, 0, none⟩ = some (.int .u32 a0_0) := (blk_cell BK144.out 0).trans rfl; have hcz8_1 : w7.cell? ⟨gb144, 1, none⟩ = some (.int .u32 a0_1) := (blk_cell BK144.out 1).trans rfl; have hfz8_0 := blk_frozen BK144.out 0; have hfz8_1 := blk_frozen BK144.out 1))
      go_ret
      exact ⟨by first | rfl | (simp [errW_none, errW_some] <;> rfl) | (simp [*, errW_none, errW_some] <;> rfl), by repeat (first | (with_reducible first | exact HB.out | apply below_alloc | apply pw_below_drewN | apply below_drew1 | refine below_set ?_ GE144.out) | exact HB.out)⟩
    · rw [if_neg c6] at H
      have c6b0 : (a0_0 == 0) = false := beq_eq_false_iff_ne.mpr c6
      have c6b1 : (a0_0 != 0) = true := bne_iff_ne.mpr c6
      by_cases c9 : a0_0 ≤ a1
      · rw [if_pos c9] at H
        have c9b0 : decide (a0_0 ≤ a1) = true := decide_eq_true c9
        clear c9
        by_cases c10 : a1 ≤ a0_1
        · rw [if_pos c10] at H
          have c10b0 : decide (a1 ≤ a0_1) = true := decide_eq_true c10
          clear c10
          obtain rfl := Option.some.inj H
          go_enter Tryd.func24, Tryd.ntmps24
          go_wp2_with (first | ((with_reducible refine gate_dst (N := 2) rfl ?_); refine box_event ?hg (N := 2) ?hd (cs := #[.int .u32 a0_0, .int .u32 a0_1]) (t := 50) ?hr ?_; (case hd => rfl); (case hg => rfl); (case hr => first | (go_simp; done) | (go_simp; rfl)); intro gb144 hg w11 hbox hb; have n0_ := Aside0.mk (below_step (by repeat (first | (with_reducible first | exact HB.out | apply below_alloc | apply pw_below_drewN | apply below_drew1) | exact HB.out)) hb); have n1_ := Aside0.mk (hbox); have n2_ := Aside0.mk ((by rw [hg]; exact (below_size (by repeat (first | (with_reducible first | exact HB.out | apply below_alloc | apply pw_below_drewN | apply below_drew1) | exact HB.out))) : w.heap.size ≤ gb144)); have n3_ := Aside0.mk ((by rw [hg]; exact (below_size (by repeat (first | (with_reducible first | exact HB.out | apply below_alloc | apply pw_below_drewN | apply below_drew1) | exact HB.out))) : w.heap.size ≤ gb144)); clear HB; have HB := n0_; have BK144 := n1_; have GW144 := n2_; have GE144 := n3_; clear n0_ n1_ n2_ n3_; clear hb hbox hg; have hcz12_0 : w11.cell? ⟨gb144, 0, none⟩ = some (.int .u32 a0_0) := (blk_cell BK144.out 0).trans rfl; have hcz12_1 : w11.cell? ⟨gb144, 1, none⟩ = some (.int .u32 a0_1) := (blk_cell BK144.out 1).trans rfl; have hfz12_0 := blk_frozen BK144.out 0; have hfz12_1 := blk_frozen BK144.out 1))
          go_ret
          exact ⟨by first | rfl | (simp [errW_none, errW_some] <;> rfl) | (simp [*, errW_none, errW_some] <;> rfl), by repeat (first | (with_reducible first | exact HB.out | apply below_alloc | apply pw_below_drewN | apply below_drew1 | refine below_set ?_ GE144.out) | exact HB.out)⟩
        · rw [if_neg c10] at H
          have c10b0 : decide (a1 ≤ a0_1) = false := decide_eq_false c10
          clear c10
          obtain rfl := Option.some.inj H
          go_enter Tryd.func24, Tryd.ntmps24
          go_wp2_with (first | ((with_reducible refine gate_dst (N := 2) rfl ?_); refine box_event ?hg (N := 2) ?hd (cs := #[.int .u32 a0_0, .int .u32 a0_1]) (t := 50) ?hr ?_; (case hd => rfl); (case hg => rfl); (case hr => first | (go_simp; done) | (go_simp; rfl)); intro gb144 hg w13 hbox hb; have n0_ := Aside0.mk (below_step (by repeat (first | (with_reducible first | exact HB.out | apply below_alloc | apply pw_below_drewN | apply below_drew1) | exact HB.out)) hb); have n1_ := Aside0.mk (hbox); have n2_ := Aside0.mk ((by rw [hg]; exact (below_size (by repeat (first | (with_reducible first | exact HB.out | apply below_alloc | apply pw_below_drewN | apply below_drew1) | exact HB.out))) : w.heap.size ≤ gb144)); have n3_ := Aside0.mk ((by rw [hg]; exact (below_size (by repeat (first | (with_reducible first | exact HB.out | apply below_alloc | apply pw_below_drewN | apply below_drew1) | exact HB.out))) : w.heap.size ≤ gb144)); clear HB; have HB := n0_; have BK144 := n1_; have GW144 := n2_; have GE144 := n3_; clear n0_ n1_ n2_ n3_; clear hb hbox hg; have hcz14_0 : w13.cell? ⟨gb144, 0, none⟩ = some (.int .u32 a0_0) := (blk_cell BK144.out 0).trans rfl; have hcz14_1 : w13.cell? ⟨gb144, 1, none⟩ = some (.int .u32 a0_1) := (blk_cell BK144.out 1).trans rfl; have hfz14_0 := blk_frozen BK144.out 0; have hfz14_1 := blk_frozen BK144.out 1))
          go_ret
          exact ⟨by first | rfl | (simp [errW_none, errW_some] <;> rfl) | (simp [*, errW_none, errW_some] <;> rfl), by repeat (first | (with_reducible first | exact HB.out | apply below_alloc | apply pw_below_drewN | apply below_drew1 | refine below_set ?_ GE144.out) | exact HB.out)⟩
      · rw [if_neg c9] at H
        have c9b0 : decide (a0_0 ≤ a1) = false := decide_eq_false c9
        clear c9
        obtain rfl := Option.some.inj H
        go_enter Tryd.func24, Tryd.ntmps24
        go_wp2_with (first | ((with_reducible refine gate_dst (N := 2) rfl ?_); refine box_event ?hg (N := 2) ?hd (cs := #[.int .u32 a0_0, .int .u32 a0_1]) (t := 50) ?hr ?_; (case hd => rfl); (case hg => rfl); (case hr => first | (go_simp; done) | (go_simp; rfl)); intro gb144 hg w15 hbox hb; have n0_ := Aside0.mk (below_step (by repeat (first | (with_reducible first | exact HB.out | apply below_alloc | apply pw_below_drewN | apply below_drew1) | exact HB.out)) hb); have n1_ := Aside0.mk (hbox); have n2_ := Aside0.mk ((by rw [hg]; exact (below_size (by repeat (first | (with_reducible first | exact HB.out | apply below_alloc | apply pw_below_drewN | apply below_drew1) | exact HB.out))) : w.heap.size ≤ gb144)); have n3_ := Aside0.mk ((by rw [hg]; exact (below_size (by repeat (first | (with_reducible first | exact HB.out | apply below_alloc | apply pw_below_drewN | apply below_drew1) | exact HB.out))) : w.heap.size ≤ gb144)); clear HB; have HB := n0_; have BK144 := n1_; have GW144 := n2_; have GE144 := n3_; clear n0_ n1_ n2_ n3_; clear hb hbox hg; have hcz16_0 : w15.cell? ⟨gb144, 0, none⟩ = some (.int .u32 a0_0) := (blk_cell BK144.out 0).trans rfl; have hcz16_1 : w15.cell? ⟨gb144, 1, none⟩ = some (.int .u32 a0_1) := (blk_cell BK144.out 1).trans rfl; have hfz16_0 := blk_frozen BK144.out 0; have hfz16_1 := blk_frozen BK144.out 1))
        go_ret
        exact ⟨by first | rfl | (simp [errW_none, errW_some] <;> rfl) | (simp [*, errW_none, errW_some] <;> rfl), by repeat (first | (with_reducible first | exact HB.out | apply below_alloc | apply pw_below_drewN | apply below_drew1 | refine below_set ?_ GE144.out) | exact HB.out)⟩

/-! ### goimap_Seq_Less: function 25 -/
def goimap_Seq_Less.f (a0_0 : Int) (a0_1 : Int) (a1 : Int) : Option (Bool) := if a0_1 < a1 then (some (a0_1 != 0)) else (if a1 = 0 then (some (a0_1 != 0)) else (some false))
set_option maxHeartbeats 8000000 in
set_option maxRecDepth 100000 in
theorem goimap_Seq_Less.calls (a0_0 : Int) (a0_1 : Int) (a1 : Int) (r : Bool) (w : World) (h : goimap_Seq_Less.f a0_0 a0_1 a1 = some r) :
    Calls Tryd.prog 25 #[.agg #[.int .u32 a0_0, .int .u32 a0_1], .int .u32 a1] w fun e w' => e = .returned (.bool r) ∧ Below w.heap.size w w' := by
  have hu50 := Tryd.underlying50
  have HB := Aside0.mk (Below.refl w.heap.size w)
  have H : (if a0_1 < a1 then (some (a0_1 != 0)) else (if a1 = 0 then (some (a0_1 != 0)) else (some false))) = some r := h
  clear h
  by_cases c3 : a0_1 < a1
  · rw [if_pos c3] at H
    have c3b0 : decide (a0_1 < a1) = true := decide_eq_true c3
    clear c3
    obtain rfl := Option.some.inj H
    go_enter Tryd.func25, Tryd.ntmps25
    go_wp2_with (first | ((with_reducible refine gate_dst (N := 2) rfl ?_); refine box_event ?hg (N := 2) ?hd (cs := #[.int .u32 a0_0, .int .u32 a0_1]) (t := 50) ?hr ?_; (case hd => rfl); (case hg => rfl); (case hr => first | (go_simp; done) | (go_simp; rfl)); intro gb145 hg w4 hbox hb; have n0_ := Aside0.mk (below_step (by repeat (first | (with_reducible first | exact HB.out | apply below_alloc | apply pw_below_drewN | apply below_drew1) | exact HB.out)) hb); have n1_ := Aside0.mk (hbox); have n2_ := Aside0.mk ((by rw [hg]; exact (below_size (by repeat (first | (with_reducible first | exact HB.out | apply below_alloc | apply pw_below_drewN | apply below_drew1) | exact HB.out))) : w.heap.size ≤ gb145)); have n3_ := Aside0.mk ((by rw [hg]; exact (below_size (by repeat (first | (with_reducible first | exact HB.out | apply below_alloc | apply pw_below_drewN | apply below_drew1) | exact HB.out))) : w.heap.size ≤ gb145)); clear HB; have HB := n0_; have BK145 := n1_; have GW145 := n2_; have GE145 := n3_; clear n0_ n1_ n2_ n3_; clear hb hbox hg; have hcz5_0 : w4.cell? ⟨gb145, 0, none⟩ = some (.int .u32 a0_0) := (blk_cell BK145.out 0).trans rfl; have hcz5_1 : w4.cell? ⟨gb145, 1, none⟩ = some (.int .u32 a0_1) := (blk_cell BK145.out 1).trans rfl; have hfz5_0 := blk_frozen BK145.out 0; have hfz5_1 := blk_frozen BK145.out 1))
    go_ret
    exact ⟨by first | rfl | (simp [errW_none, errW_some] <;> rfl) | (simp [*, errW_none, errW_some] <;> rfl), by repeat (first | (with_reducible first | exact HB.out | apply below_alloc | apply pw_below_drewN | apply below_drew1 | refine below_set ?_ GE145.out) | exact HB.out)⟩
  · rw [if_neg c3] at H
    have c3b0 : decide (a0_1 < a1) = false := decide_eq_false c3
    clear c3
    by_cases c6 : a1 = 0
    · rw [if_pos c6] at H
      have c6b0 : (a1 == 0) = true := beq_iff_eq.mpr c6
      have c6b1 : (a1 != 0) = false := bne_eq_false_iff_eq.mpr c6
      clear c6
      obtain rfl := Option.some.inj H
      go_enter Tryd.func25, Tryd.ntmps25
      go_wp2_with (first | ((with_reducible refine gate_dst (N := 2) rfl ?_); refine box_event ?hg (N := 2) ?hd (cs := #[.int .u32 a0_0, .int .u32 a0_1]) (t := 50) ?hr ?_; (case hd => rfl); (case hg => rfl); (case hr => first | (go_simp; done) | (go_simp; rfl)); intro gb145 hg w7 hbox hb; have n0_ := Aside0.mk (below_step (by repeat (first | (with_reducible first | exact HB.out | apply below_alloc | apply pw_below_drewN | apply below_drew1) | exact HB.out)) hb); have n1_ := Aside0.mk (hbox); have n2_ := Aside0.mk ((by rw [hg]; exact (below_size (by repeat (first | (with_reducible first | exact HB.out | apply below_alloc | apply pw_below_drewN | apply below_drew1) | exact HB.out))) : w.heap.size ≤ gb145)); have n3_ := Aside0.mk ((by rw [hg]; exact (below_size (by repeat (first | (with_reducible first | exact HB.out | apply below_alloc | apply pw_below_drewN | apply below_drew1) | exact HB.out))) : w.heap.size ≤ gb145)); clear HB; have HB := n0_; have BK145 := n1_; have GW145 := n2_; have GE145 := n3_; clear n0_ n1_ n2_ n3_; clear hb hbox hg; have hcz8_0 : w7.cell? ⟨gb145, 0, none⟩ = some (.int .u32 a0_0) := (blk_cell BK145.out 0).trans rfl; have hcz8_1 : w7.cell? ⟨gb145, 1, none⟩ = some (.int .u32 a0_1) := (blk_cell BK145.out 1).trans rfl; have hfz8_0 := blk_frozen BK145.out 0; have hfz8_1 := blk_frozen BK145.out 1))
      go_ret
      exact ⟨by first | rfl | (simp [errW_none, errW_some] <;> rfl) | (simp [*, errW_none, errW_some] <;> rfl), by repeat (first | (with_reducible first | exact HB.out | apply below_alloc | apply pw_below_drewN | apply below_drew1 | refine below_set ?_ GE145.out) | exact HB.out)⟩
    · rw [if_neg c6] at H
      have c6b0 : (a1 == 0) = false := beq_eq_false_iff_ne.mpr c6
      have c6b1 : (a1 != 0) = true := bne_iff_ne.mpr c6
      obtain rfl := Option.some.inj H
      go_enter Tryd.func25, Tryd.ntmps25
      go_wp2_with (first | ((with_reducible refine gate_dst (N := 2) rfl ?_); refine box_event ?hg (N := 2) ?hd (cs := #[.int .u32 a0_0, .int .u32 a0_1]) (t := 50) ?hr ?_; (case hd => rfl); (case hg => rfl); (case hr => first | (go_simp; done) | (go_simp; rfl)); intro gb145 hg w9 hbox hb; have n0_ := Aside0.mk (below_step (by repeat (first | (with_reducible first | exact HB.out | apply below_alloc | apply pw_below_drewN | apply below_drew1) | exact HB.out)) hb); have n1_ := Aside0.mk (hbox); have n2_ := Aside0.mk ((by rw [hg]; exact (below_size (by repeat (first | (with_reducible first | exact HB.out | apply below_alloc | apply pw_below_drewN | apply below_drew1) | exact HB.out))) : w.heap.size ≤ gb145)); have n3_ := Aside0.mk ((by rw [hg]; exact (below_size (by repeat (first | (with_reducible first | exact HB.out | apply below_alloc | apply pw_below_drewN | apply below_drew1) | exact HB.out))) : w.heap.size ≤ gb145)); clear HB; have HB := n0_; have BK145 := n1_; have GW145 := n2_; have GE145 := n3_; clear n0_ n1_ n2_ n3_; clear hb hbox hg; have hcz10_0 : w9.cell? ⟨gb145, 0, none⟩ = some (.int .u32 a0_0) := (blk_cell BK145.out 0).trans rfl; have hcz10_1 : w9.cell? ⟨gb145, 1, none⟩ = some (.int .u32 a0_1) := (blk_cell BK145.out 1).trans rfl; have hfz10_0 := blk_frozen BK145.out 0; have hfz10_1 := blk_frozen BK145.out 1))
      go_ret
      exact ⟨by first | rfl | (simp [errW_none, errW_some] <;> rfl) | (simp [*, errW_none, errW_some] <;> rfl), by repeat (first | (with_reducible first | exact HB.out | apply below_alloc | apply pw_below_drewN | apply below_drew1 | refine below_set ?_ GE145.out) | exact HB.out)⟩

/-! ### goimap_SeqSet_search: function 45 -/
def goimap_SeqSet_search.l0 : Nat → Int → Int → Int → List (S50) → Option (Int × Bool)
  | 0, _, _, _, _ => none
  | k + 1, x1, x6, x7, x147000 => if x6 < x7 then (if 0 ≤ ((wrap64 (x6 + x7)) / 2) then (if ((wrap64 (x6 + x7)) / 2) < (x147000.length : Int) then ((goimap_Seq_Less.f ((rd_T50 x147000 ((wrap64 (x6 + x7)) / 2)).f0) ((rd_T50 x147000 ((wrap64 (x6 + x7)) / 2)).f1) x1).bind fun t148 => (if t148 = true then (goimap_SeqSet_search.l0 k x1 (wrap64 (((wrap64 (x6 + x7)) / 2) + 1)) x7 x147000) else (goimap_SeqSet_search.l0 k x1 x6 ((wrap64 (x6 + x7)) / 2) x147000))) else (none)) else (none)) else (if x7 < 0 then (some ((x147000.length : Int), false)) else (if 0 ≤ x6 then (if x6 < (x147000.length : Int) then ((goimap_Seq_Less.f ((rd_T50 x147000 x6).f0) ((rd_T50 x147000 x6).f1) x1).bind fun t150 => (if t150 = true then (some ((x147000.length : Int), false)) else ((goimap_Seq_Contains.f ((rd_T50 x147000 x6).f0) ((rd_T50 x147000 x6).f1) x1).bind fun t152 => (some (x6, t152))))) else (none)) else (none)))
def goimap_SeqSet_search.f (k : Nat) (l0_0 : List (S50)) (a1 : Int) : Option (Int × Bool) := goimap_SeqSet_search.l0 k a1 0 (wrap64 ((l0_0.length : Int) - 1)) l0_0
theorem goimap_SeqSet_search.mono_l : ∀ k, (∀ y0 y1 y2 y3, LeO (goimap_SeqSet_search.l0 k y0 y1 y2 y3) (goimap_SeqSet_search.l0 (k + 1) y0 y1 y2 y3))
  | 0 => fun _ _ _ _ r h => by simp [goimap_SeqSet_search.l0] at h
  | k + 1 => by
    have ih0 := goimap_SeqSet_search.mono_l k
    · intro y0 y1 y2 y3
      unfold goimap_SeqSet_search.l0
      repeat' first
      | (with_reducible exact ih0 _ _ _ _)
      | (with_reducible exact LeO.refl _)
      | (with_reducible exact LeO.none _)
      | (with_reducible refine LeO.ite ?_ ?_)
      | (with_reducible refine LeO.bind ?_ (fun _ => ?_))
      | exact ih0 _ _ _ _
      | exact LeO.none _
      | refine LeO.ite ?_ ?_
      | refine LeO.bind ?_ (fun _ => ?_)
theorem goimap_SeqSet_search.mono : ∀ a0 a1 k, LeO (goimap_SeqSet_search.f k a0 a1) (goimap_SeqSet_search.f (k + 1) a0 a1) := by
  intro a0 a1 k
  have ih0 := goimap_SeqSet_search.mono_l k
  unfold goimap_SeqSet_search.f
  repeat' first
      | (with_reducible exact ih0 _ _ _ _)
      | (with_reducible exact LeO.refl _)
      | (with_reducible exact LeO.none _)
      | (with_reducible refine LeO.ite ?_ ?_)
      | (with_reducible refine LeO.bind ?_ (fun _ => ?_))
      | exact ih0 _ _ _ _
      | exact LeO.none _
      | refine LeO.ite ?_ ?_
      | refine LeO.bind ?_ (fun _ => ?_)
set_option maxHeartbeats 8000000 in
set_option maxRecDepth 100000 in
theorem goimap_SeqSet_search.calls (k : Nat) (A0_0 : Option Addr) (c0_0 : Nat) (l0_0 : List (S50)) (a1 : Int) (r1 : Int) (r2 : Bool) (w : World) (hr0_0 : Kd.C k50 w A0_0 l0_0.length l0_0) (hc0_0 : l0_0.length ≤ c0_0) (h : goimap_SeqSet_search.f k l0_0 a1 = some (r1, r2)) :
    Calls Tryd.prog 45 #[.agg #[.slice A0_0 l0_0.length c0_0], .int .u32 a1] w fun e w' => e = .returned (.tuple #[.int .i64 r1, .bool r2]) ∧ Below w.heap.size w w' := by
  have hu66 := Tryd.underlying66
  have hu50 := Tryd.underlying50
  have HR0_0 := Aside0.mk hr0_0
  have HC0_0 := Aside0.mk hc0_0
  clear hr0_0 hc0_0
  have HB := Aside0.mk (Below.refl w.heap.size w)
  have H : (goimap_SeqSet_search.l0 k a1 0 (wrap64 ((l0_0.length : Int) - 1)) l0_0) = some (r1, r2) := h
  clear h
  have H' := Aside0.mk H
  clear H
  go_enter Tryd.func45, Tryd.ntmps45
  go_wp2_with (first | ((with_reducible refine gate_dst (N := 2) rfl ?_); refine box_event ?hg (N := 2) ?hd (cs := #[.slice A0_0 l0_0.length c0_0]) (t := 66) ?hr ?_; (case hd => rfl); (case hg => rfl); (case hr => first | (go_simp; done) | (go_simp; rfl)); intro gb146 hg w3 hbox hb; have n0_ := Aside0.mk (below_step (by repeat (first | (with_reducible first | exact HB.out | apply below_alloc | apply pw_below_drewN | apply below_drew1) | exact HB.out)) hb); have n1_ := Aside0.mk (hbox); have n2_ := Aside0.mk ((by rw [hg]; exact (below_size (by repeat (first | (with_reducible first | exact HB.out | apply below_alloc | apply pw_below_drewN | apply below_drew1) | exact HB.out))) : w.heap.size ≤ gb146)); have n3_ := Aside0.mk ((by rw [hg]; exact (below_size (by repeat (first | (with_reducible first | exact HB.out | apply below_alloc | apply pw_below_drewN | apply below_drew1) | exact HB.out))) : w.heap.size ≤ gb146)); clear HB; have HB := n0_; have BK146 := n1_; have GW146 := n2_; have GE146 := n3_; clear n0_ n1_ n2_ n3_; clear hb hbox hg; have hcz4_0 : w3.cell? ⟨gb146, 0, none⟩ = some (.slice A0_0 l0_0.length c0_0) := (blk_cell BK146.out 0).trans rfl; have hfz4_0 := blk_frozen BK146.out 0))
  repeat (go_quiet (first | ((with_reducible refine gate_dst (N := 2) rfl ?_); refine box_event ?hg (N := 2) ?hd (cs := #[.slice A0_0 l0_0.length c0_0]) (t := 66) ?hr ?_; (case hd => rfl); (case hg => rfl); (case hr => first | (go_simp; done) | (go_simp; rfl)); intro gb146 hg w3 hbox hb; have n0_ := Aside0.mk (below_step (by repeat (first | (with_reducible first | exact HB.out | apply below_alloc | apply pw_below_drewN | apply below_drew1) | exact HB.out)) hb); have n1_ := Aside0.mk (hbox); have n2_ := Aside0.mk ((by rw [hg]; exact (below_size (by repeat (first | (with_reducible first | exact HB.out | apply below_alloc | apply pw_below_drewN | apply below_drew1) | exact HB.out))) : w.heap.size ≤ gb146)); have n3_ := Aside0.mk ((by rw [hg]; exact (below_size (by repeat (first | (with_reducible first | exact HB.out | apply below_alloc | apply pw_below_drewN | apply below_drew1) | exact HB.out))) : w.heap.size ≤ gb146)); clear HB; have HB := n0_; have BK146 := n1_; have GW146 := n2_; have GE146 := n3_; clear n0_ n1_ n2_ n3_; clear hb hbox hg; have hcz4_0 : w3.cell? ⟨gb146, 0, none⟩ = some (.slice A0_0 l0_0.length c0_0) := (blk_cell BK146.out 0).trans rfl; have hfz4_0 := blk_frozen BK146.out 0)); try go_wp2_with (first | ((with_reducible refine gate_dst (N := 2) rfl ?_); refine box_event ?hg (N := 2) ?hd (cs := #[.slice A0_0 l0_0.length c0_0]) (t := 66) ?hr ?_; (case hd => rfl); (case hg => rfl); (case hr => first | (go_simp; done) | (go_simp; rfl)); intro gb146 hg w3 hbox hb; have n0_ := Aside0.mk (below_step (by repeat (first | (with_reducible first | exact HB.out | apply below_alloc | apply pw_below_drewN | apply below_drew1) | exact HB.out)) hb); have n1_ := Aside0.mk (hbox); have n2_ := Aside0.mk ((by rw [hg]; exact (below_size (by repeat (first | (with_reducible first | exact HB.out | apply below_alloc | apply pw_below_drewN | apply below_drew1) | exact HB.out))) : w.heap.size ≤ gb146)); have n3_ := Aside0.mk ((by rw [hg]; exact (below_size (by repeat (first | (with_reducible first | exact HB.out | apply below_alloc | apply pw_below_drewN | apply below_drew1) | exact HB.out))) : w.heap.size ≤ gb146)); clear HB; have HB := n0_; have BK146 := n1_; have GW146 := n2_; have GE146 := n3_; clear n0_ n1_ n2_ n3_; clear hb hbox hg; have hcz4_0 : w3.cell? ⟨gb146, 0, none⟩ = some (.slice A0_0 l0_0.length c0_0) := (blk_cell BK146.out 0).trans rfl; have hfz4_0 := blk_frozen BK146.out 0)))
  go_loopg [6, 7] k (fun kq v6 v7 w' => ∃ (x6_1 : Int) (x7_1 : Int), v6 = .int .i64 x6_1 ∧ v7 = .int .i64 x7_1 ∧ Aside0 (goimap_SeqSet_search.l0 kq a1 x6_1 x7_1 l0_0 = some (r1, r2)) ∧ Aside0 (kq ≤ k) ∧ Aside0 (w'.heap[gb146]? = some (.cells #[(.slice A0_0 l0_0.length c0_0)] 66 (0, 0))) ∧ Aside0 (Below w.heap.size w w'))
  case atStart => exact ⟨(0), (wrap64 ((l0_0.length : Int) - 1)), (by first | rfl | (simp; done) | (simp [*]; done)), (by first | rfl | (simp; done) | (simp [*]; done)), H', ⟨Nat.le_refl _⟩, ⟨by (with_reducible repeat (first | refine blk_drewN ?_ _ | refine blk_drew ?_ | refine blk_alloc ?_ _)); exact BK146.out⟩, ⟨by repeat (first | (with_reducible first | exact HB.out | apply below_alloc | apply pw_below_drewN | apply below_drew1 | refine below_set ?_ GE146.out) | exact HB.out)⟩⟩
  case round =>
    clear H'
    try clear p2
    try clear c4
    try clear hcz4_0
    try clear hfz4_0
    obtain ⟨x6_1, x7_1, rfl, rfl, HA, HK1, BK146, HB⟩ := hrel
    cases gk with
    | zero => exact absurd HA.out (by simp [goimap_SeqSet_search.l0])
    | succ k1 =>
      have H := HA.out
      clear HA
      simp only [goimap_SeqSet_search.l0] at H
      by_cases c5 : x6_1 < x7_1
      · rw [if_pos c5] at H
        have c5b0 : decide (x6_1 < x7_1) = true := decide_eq_true c5
        clear c5
        obtain ⟨ji6, hji6⟩ : ∃ j_ : Int, ((wrap64 (x6_1 + x7_1)) / 2) = j_ := ⟨_, rfl⟩
        replace H : (if 0 ≤ (ji6) then (if (ji6) < (l0_0.length : Int) then ((goimap_Seq_Less.f ((rd_T50 l0_0 (ji6)).f0) ((rd_T50 l0_0 (ji6)).f1) a1).bind fun t148 => (if t148 = true then (goimap_SeqSet_search.l0 k1 a1 (wrap64 ((ji6) + 1)) x7_1 l0_0) else (goimap_SeqSet_search.l0 k1 a1 x6_1 ji6 l0_0))) else (none)) else (none)) = some (r1, r2) := by first | (rw [hji6] at H; exact H) | (simp only [hji6] at H ⊢; exact H)
        by_cases c7 : 0 ≤ (ji6)
        · rw [if_pos c7] at H
          have c7b0 : decide (0 ≤ (ji6)) = true := decide_eq_true c7
          clear c7
          by_cases c8 : (ji6) < (l0_0.length : Int)
          · rw [if_pos c8] at H
            have c8b0 : decide ((ji6) < (l0_0.length : Int)) = true := decide_eq_true c8
            clear c8
            replace H := Option.bind_eq_some_iff.mp H
            obtain ⟨t148, A90, H⟩ := H
            replace H : (if t148 = true then (goimap_SeqSet_search.l0 k1 a1 (wrap64 ((ji6) + 1)) x7_1 l0_0) else (goimap_SeqSet_search.l0 k1 a1 x6_1 ji6 l0_0)) = some (r1, r2) := H
            have A9 := Aside0.mk A90
            clear A90
            by_cases c10 : t148 = true
            · subst c10
              have H1 : (goimap_SeqSet_search.l0 k1 a1 (wrap64 ((ji6) + 1)) x7_1 l0_0) = some (r1, r2) := by rw [if_pos rfl] at H; exact H
              clear H
              have H := H1
              clear H1
              have H' := Aside0.mk H
              clear H
              have hcz11_0 : wr.cell? ⟨gb146, 0, none⟩ = some (.slice A0_0 l0_0.length c0_0) := (blk_cell BK146.out 0).trans rfl
              have hfz11_0 := blk_frozen BK146.out 0
              have p147 : 0 ≤ ((ji6) : Int) := of_decide_eq_true (by first | (with_reducible assumption) | assumption)
              have q147 : (ji6) < (l0_0.length : Int) := of_decide_eq_true (by first | (with_reducible assumption) | assumption)
              obtain ⟨ad147, e147, hx147_0, hx147_1⟩ := at_T50 HR0_0.out (ji6) p147 q147
              cases e147
              replace hx147_0 := (HB.out.cell (World.block_lt_of_cell? w _ hx147_0)).trans hx147_0
              replace hx147_1 := (HB.out.cell (World.block_lt_of_cell? w _ hx147_1)).trans hx147_1
              replace p147 := eq_true p147
              replace q147 := eq_true q147
              go_wp2_with (first | (go_at_call 25; (with_reducible refine (goimap_Seq_Less.calls ((rd_T50 l0_0 (ji6)).f0) ((rd_T50 l0_0 (ji6)).f1) a1 true _ A9.out).mono ?_); rintro e w12 ⟨rfl, hb⟩; have n0_ := Aside0.mk (blk_below (g := gb146) (o := .cells #[.slice (some ad147) l0_0.length c0_0] 66 (0, 0)) (by (with_reducible repeat (first | refine blk_drewN ?_ _ | refine blk_drew ?_ | refine blk_alloc ?_ _)); exact BK146.out) hb); have n1_ := Aside0.mk (below_step (by repeat (first | (with_reducible first | exact HB.out | apply below_alloc | apply pw_below_drewN | apply below_drew1 | refine below_set ?_ GE146.out) | exact HB.out)) hb); clear BK146; clear HB; have BK146 := n0_; have HB := n1_; clear n0_ n1_; (try clear hb); (try clear hb2); (try clear hk); (try clear hi)))
              repeat (go_quiet (first | (go_at_call 25; (with_reducible refine (goimap_Seq_Less.calls ((rd_T50 l0_0 (ji6)).f0) ((rd_T50 l0_0 (ji6)).f1) a1 true _ A9.out).mono ?_); rintro e w12 ⟨rfl, hb⟩; have n0_ := Aside0.mk (blk_below (g := gb146) (o := .cells #[.slice (some ad147) l0_0.length c0_0] 66 (0, 0)) (by (with_reducible repeat (first | refine blk_drewN ?_ _ | refine blk_drew ?_ | refine blk_alloc ?_ _)); exact BK146.out) hb); have n1_ := Aside0.mk (below_step (by repeat (first | (with_reducible first | exact HB.out | apply below_alloc | apply pw_below_drewN | apply below_drew1 | refine below_set ?_ GE146.out) | exact HB.out)) hb); clear BK146; clear HB; have BK146 := n0_; have HB := n1_; clear n0_ n1_; (try clear hb); (try clear hb2); (try clear hk); (try clear hi))); try go_wp2_with (first | (go_at_call 25; (with_reducible refine (goimap_Seq_Less.calls ((rd_T50 l0_0 (ji6)).f0) ((rd_T50 l0_0 (ji6)).f1) a1 true _ A9.out).mono ?_); rintro e w12 ⟨rfl, hb⟩; have n0_ := Aside0.mk (blk_below (g := gb146) (o := .cells #[.slice (some ad147) l0_0.length c0_0] 66 (0, 0)) (by (with_reducible repeat (first | refine blk_drewN ?_ _ | refine blk_drew ?_ | refine blk_alloc ?_ _)); exact BK146.out) hb); have n1_ := Aside0.mk (below_step (by repeat (first | (with_reducible first | exact HB.out | apply below_alloc | apply pw_below_drewN | apply below_drew1 | refine below_set ?_ GE146.out) | exact HB.out)) hb); clear BK146; clear HB; have BK146 := n0_; have HB := n1_; clear n0_ n1_; (try clear hb); (try clear hb2); (try clear hk); (try clear hi))))
              go_roundg k1
              case measure => have := HK1.out; omega
              case rel => exact ⟨(wrap64 ((ji6) + 1)), (x7_1), (by first | rfl | (simp; done) | (simp only [← hji6] <;> (first | rfl | simp)) | (simp [*]; done)), (by first | rfl | (simp; done) | (simp [*]; done)), (by first | exact H' | (rw [hji6]; exact H') | (simp only [hji6]; exact H')), ⟨by have := HK1.out; omega⟩, ⟨by (with_reducible repeat (first | refine blk_drewN ?_ _ | refine blk_drew ?_ | refine blk_alloc ?_ _)); exact BK146.out⟩, ⟨by repeat (first | (with_reducible first | exact HB.out | apply below_alloc | apply pw_below_drewN | apply below_drew1 | refine below_set ?_ GE146.out) | exact HB.out)⟩⟩
            · replace c10 := Bool.eq_false_iff.mpr c10
              subst c10
              have H1 : (goimap_SeqSet_search.l0 k1 a1 x6_1 ji6 l0_0) = some (r1, r2) := by rw [if_neg (show ¬ (false = true) by decide)] at H; exact H
              clear H
              have H := H1
              clear H1
              have H' := Aside0.mk H
              clear H
              have hcz13_0 : wr.cell? ⟨gb146, 0, none⟩ = some (.slice A0_0 l0_0.length c0_0) := (blk_cell BK146.out 0).trans rfl
              have hfz13_0 := blk_frozen BK146.out 0
              have p147 : 0 ≤ ((ji6) : Int) := of_decide_eq_true (by first | (with_reducible assumption) | assumption)
              have q147 : (ji6) < (l0_0.length : Int) := of_decide_eq_true (by first | (with_reducible assumption) | assumption)
              obtain ⟨ad147, e147, hx147_0, hx147_1⟩ := at_T50 HR0_0.out (ji6) p147 q147
              cases e147
              replace hx147_0 := (HB.out.cell (World.block_lt_of_cell? w _ hx147_0)).trans hx147_0
              replace hx147_1 := (HB.out.cell (World.block_lt_of_cell? w _ hx147_1)).trans hx147_1
              replace p147 := eq_true p147
              replace q147 := eq_true q147
              go_wp2_with (first | (go_at_call 25; (with_reducible refine (goimap_Seq_Less.calls ((rd_T50 l0_0 (ji6)).f0) ((rd_T50 l0_0 (ji6)).f1) a1 false _ A9.out).mono ?_); rintro e w14 ⟨rfl, hb⟩; have n0_ := Aside0.mk (blk_below (g := gb146) (o := .cells #[.slice (some ad147) l0_0.length c0_0] 66 (0, 0)) (by (with_reducible repeat (first | refine blk_drewN ?_ _ | refine blk_drew ?_ | refine blk_alloc ?_ _)); exact BK146.out) hb); have n1_ := Aside0.mk (below_step (by repeat (first | (with_reducible first | exact HB.out | apply below_alloc | apply pw_below_drewN | apply below_drew1 | refine below_set ?_ GE146.out) | exact HB.out)) hb); clear BK146; clear HB; have BK146 := n0_; have HB := n1_; clear n0_ n1_; (try clear hb); (try clear hb2); (try clear hk); (try clear hi)))
              repeat (go_quiet (first | (go_at_call 25; (with_reducible refine (goimap_Seq_Less.calls ((rd_T50 l0_0 (ji6)).f0) ((rd_T50 l0_0 (ji6)).f1) a1 false _ A9.out).mono ?_); rintro e w14 ⟨rfl, hb⟩; have n0_ := Aside0.mk (blk_below (g := gb146) (o := .cells #[.slice (some ad147) l0_0.length c0_0] 66 (0, 0)) (by (with_reducible repeat (first | refine blk_drewN ?_ _ | refine blk_drew ?_ | refine blk_alloc ?_ _)); exact BK146.out) hb); have n1_ := Aside0.mk (below_step (by repeat (first | (with_reducible first | exact HB.out | apply below_alloc | apply pw_below_drewN | apply below_drew1 | refine below_set ?_ GE146.out) | exact HB.out)) hb); clear BK146; clear HB; have BK146 := n0_; have HB := n1_; clear n0_ n1_; (try clear hb); (try clear hb2); (try clear hk); (try clear hi))); try go_wp2_with (first | (go_at_call 25; (with_reducible refine (goimap_Seq_Less.calls ((rd_T50 l0_0 (ji6)).f0) ((rd_T50 l0_0 (ji6)).f1) a1 false _ A9.out).mono ?_); rintro e w14 ⟨rfl, hb⟩; have n0_ := Aside0.mk (blk_below (g := gb146) (o := .cells #[.slice (some ad147) l0_0.length c0_0] 66 (0, 0)) (by (with_reducible repeat (first | refine blk_drewN ?_ _ | refine blk_drew ?_ | refine blk_alloc ?_ _)); exact BK146.out) hb); have n1_ := Aside0.mk (below_step (by repeat (first | (with_reducible first | exact HB.out | apply below_alloc | apply pw_below_drewN | apply below_drew1 | refine below_set ?_ GE146.out) | exact HB.out)) hb); clear BK146; clear HB; have BK146 := n0_; have HB := n1_; clear n0_ n1_; (try clear hb); (try clear hb2); (try clear hk); (try clear hi))))
              go_roundg k1
              case measure => have := HK1.out; omega
              case rel => exact ⟨(x6_1), (ji6), (by first | rfl | (simp; done) | (simp [*]; done)), (by first | rfl | (simp; done) | (simp only [← hji6] <;> (first | rfl | simp)) | (simp [*]; done)), (by first | exact H' | (rw [hji6]; exact H') | (simp only [hji6]; exact H')), ⟨by have := HK1.out; omega⟩, ⟨by (with_reducible repeat (first | refine blk_drewN ?_ _ | refine blk_drew ?_ | refine blk_alloc ?_ _)); exact BK146.out⟩, ⟨by repeat (first | (with_reducible first | exact HB.out | apply below_alloc | apply pw_below_drewN | apply below_drew1 | refine below_set ?_ GE146.out) | exact HB.out)⟩⟩
          · rw [if_neg c8] at H
            exact absurd H (by simp)
        · rw [if_neg c7] at H
          exact absurd H (by simp)
      · rw [if_neg c5] at H
        have c5b0 : decide (x6_1 < x7_1) = false := decide_eq_false c5
        clear c5
        by_cases c15 : x7_1 < 0
        · rw [if_pos c15] at H
          have c15b0 : decide (x7_1 < 0) = true := decide_eq_true c15
          clear c15
          simp only [Option.some.injEq, Prod.mk.injEq] at H
          obtain ⟨rfl, rfl⟩ := H
          have hcz16_0 : wr.cell? ⟨gb146, 0, none⟩ = some (.slice A0_0 l0_0.length c0_0) := (blk_cell BK146.out 0).trans rfl
          have hfz16_0 := blk_frozen BK146.out 0
          go_wp2
          repeat (go_quiet (fail); try go_wp2)
          go_ret2
          exact ⟨by first | rfl | (simp [errW_none, errW_some] <;> rfl) | (simp [*, errW_none, errW_some] <;> rfl), by repeat (first | (with_reducible first | exact HB.out | apply below_alloc | apply pw_below_drewN | apply below_drew1 | refine below_set ?_ GE146.out) | exact HB.out)⟩
        · rw [if_neg c15] at H
          have c15b0 : decide (x7_1 < 0) = false := decide_eq_false c15
          clear c15
          by_cases c17 : 0 ≤ x6_1
          · rw [if_pos c17] at H
            have c17b0 : decide (0 ≤ x6_1) = true := decide_eq_true c17
            clear c17
            by_cases c18 : x6_1 < (l0_0.length : Int)
            · rw [if_pos c18] at H
              have c18b0 : decide (x6_1 < (l0_0.length : Int)) = true := decide_eq_true c18
              clear c18
              replace H := Option.bind_eq_some_iff.mp H
              obtain ⟨t150, A190, H⟩ := H
              replace H : (if t150 = true then (some ((l0_0.length : Int), false)) else ((goimap_Seq_Contains.f ((rd_T50 l0_0 x6_1).f0) ((rd_T50 l0_0 x6_1).f1) a1).bind fun t152 => (some (x6_1, t152)))) = some (r1, r2) := H
              have A19 := Aside0.mk A190
              clear A190
              by_cases c20 : t150 = true
              · subst c20
                have H1 : (some ((l0_0.length : Int), false)) = some (r1, r2) := by rw [if_pos rfl] at H; exact H
                clear H
                have H := H1
                clear H1
                simp only [Option.some.injEq, Prod.mk.injEq] at H
                obtain ⟨rfl, rfl⟩ := H
                have hcz21_0 : wr.cell? ⟨gb146, 0, none⟩ = some (.slice A0_0 l0_0.length c0_0) := (blk_cell BK146.out 0).trans rfl
                have hfz21_0 := blk_frozen BK146.out 0
                have p149 : 0 ≤ (x6_1 : Int) := of_decide_eq_true (by first | (with_reducible assumption) | assumption)
                have q149 : x6_1 < (l0_0.length : Int) := of_decide_eq_true (by first | (with_reducible assumption) | assumption)
                obtain ⟨ad149, e149, hx149_0, hx149_1⟩ := at_T50 HR0_0.out x6_1 p149 q149
                cases e149
                replace hx149_0 := (HB.out.cell (World.block_lt_of_cell? w _ hx149_0)).trans hx149_0
                replace hx149_1 := (HB.out.cell (World.block_lt_of_cell? w _ hx149_1)).trans hx149_1
                replace p149 := eq_true p149
                replace q149 := eq_true q149
                go_wp2_with (first | (go_at_call 25; (with_reducible refine (goimap_Seq_Less.calls ((rd_T50 l0_0 x6_1).f0) ((rd_T50 l0_0 x6_1).f1) a1 true _ A19.out).mono ?_); rintro e w22 ⟨rfl, hb⟩; have n0_ := Aside0.mk (blk_below (g := gb146) (o := .cells #[.slice (some ad149) l0_0.length c0_0] 66 (0, 0)) (by (with_reducible repeat (first | refine blk_drewN ?_ _ | refine blk_drew ?_ | refine blk_alloc ?_ _)); exact BK146.out) hb); have n1_ := Aside0.mk (below_step (by repeat (first | (with_reducible first | exact HB.out | apply below_alloc | apply pw_below_drewN | apply below_drew1 | refine below_set ?_ GE146.out) | exact HB.out)) hb); clear BK146; clear HB; have BK146 := n0_; have HB := n1_; clear n0_ n1_; (try clear hb); (try clear hb2); (try clear hk); (try clear hi); have hcz23_0 : w22.cell? ⟨gb146, 0, none⟩ = some (.slice (some ad149) l0_0.length c0_0) := (blk_cell BK146.out 0).trans rfl; have hfz23_0 := blk_frozen BK146.out 0))
                repeat (go_quiet (first | (go_at_call 25; (with_reducible refine (goimap_Seq_Less.calls ((rd_T50 l0_0 x6_1).f0) ((rd_T50 l0_0 x6_1).f1) a1 true _ A19.out).mono ?_); rintro e w22 ⟨rfl, hb⟩; have n0_ := Aside0.mk (blk_below (g := gb146) (o := .cells #[.slice (some ad149) l0_0.length c0_0] 66 (0, 0)) (by (with_reducible repeat (first | refine blk_drewN ?_ _ | refine blk_drew ?_ | refine blk_alloc ?_ _)); exact BK146.out) hb); have n1_ := Aside0.mk (below_step (by repeat (first | (with_reducible first | exact HB.out | apply below_alloc | apply pw_below_drewN | apply below_drew1 | refine below_set ?_ GE146.out) | exact HB.out)) hb); clear BK146; clear HB; have BK146 := n0_; have HB := n1_; clear n0_ n1_; (try clear hb); (try clear hb2); (try clear hk); (try clear hi); have hcz23_0 : w22.cell? ⟨gb146, 0, none⟩ = some (.slice (some ad149) l0_0.length c0_0) := (blk_cell BK146.out 0).trans rfl; have hfz23_0 := blk_frozen BK146.out 0)); try go_wp2_with (first | (go_at_call 25; (with_reducible refine (goimap_Seq_Less.calls ((rd_T50 l0_0 x6_1).f0) ((rd_T50 l0_0 x6_1).f1) a1 true _ A19.out).mono ?_); rintro e w22 ⟨rfl, hb⟩; have n0_ := Aside0.mk (blk_below (g := gb146) (o := .cells #[.slice (some ad149) l0_0.length c0_0] 66 (0, 0)) (by (with_reducible repeat (first | refine blk_drewN ?_ _ | refine blk_drew ?_ | refine blk_alloc ?_ _)); exact BK146.out) hb); have n1_ := Aside0.mk (below_step (by repeat (first | (with_reducible first | exact HB.out | apply below_alloc | apply pw_below_drewN | apply below_drew1 | refine below_set ?_ GE146.out) | exact HB.out)) hb); clear BK146; clear HB; have BK146 := n0_; have HB := n1_; clear n0_ n1_; (try clear hb); (try clear hb2); (try clear hk); (try clear hi); have hcz23_0 : w22.cell? ⟨gb146, 0, none⟩ = some (.slice (some ad149) l0_0.length c0_0) := (blk_cell BK146.out 0).trans rfl; have hfz23_0 := blk_frozen BK146.out 0)))
                go_ret2
                exact ⟨by first | rfl | (simp [errW_none, errW_some] <;> rfl) | (simp [*, errW_none, errW_some] <;> rfl), by repeat (first | (with_reducible first | exact HB.out | apply below_alloc | apply pw_below_drewN | apply below_drew1 | refine below_set ?_ GE146.out) | exact HB.out)⟩
              · replace c20 := Bool.eq_false_iff.mpr c20
                subst c20
                have H1 : ((goimap_Seq_Contains.f ((rd_T50 l0_0 x6_1).f0) ((rd_T50 l0_0 x6_1).f1) a1).bind fun t152 => (some (x6_1, t152))) = some (r1, r2) := by rw [if_neg (show ¬ (false = true) by decide)] at H; exact H
                clear H
                have H := H1
                clear H1
                replace H := Option.bind_eq_some_iff.mp H
                obtain ⟨t152, A240, H⟩ := H
                replace H : (some (x6_1, t152)) = some (r1, r2) := H
                have A24 := Aside0.mk A240
                clear A240
                simp only [Option.some.injEq, Prod.mk.injEq] at H
                obtain ⟨rfl, rfl⟩ := H
                have hcz25_0 : wr.cell? ⟨gb146, 0, none⟩ = some (.slice A0_0 l0_0.length c0_0) := (blk_cell BK146.out 0).trans rfl
                have hfz25_0 := blk_frozen BK146.out 0
                have p149 : 0 ≤ (x6_1 : Int) := of_decide_eq_true (by first | (with_reducible assumption) | assumption)
                have q149 : x6_1 < (l0_0.length : Int) := of_decide_eq_true (by first | (with_reducible assumption) | assumption)
                obtain ⟨ad149, e149, hx149_0, hx149_1⟩ := at_T50 HR0_0.out x6_1 p149 q149
                cases e149
                replace hx149_0 := (HB.out.cell (World.block_lt_of_cell? w _ hx149_0)).trans hx149_0
                replace hx149_1 := (HB.out.cell (World.block_lt_of_cell? w _ hx149_1)).trans hx149_1
                replace p149 := eq_true p149
                replace q149 := eq_true q149
                go_wp2_with (first | (go_at_call 25; (with_reducible refine (goimap_Seq_Less.calls ((rd_T50 l0_0 x6_1).f0) ((rd_T50 l0_0 x6_1).f1) a1 false _ A19.out).mono ?_); rintro e w26 ⟨rfl, hb⟩; have n0_ := Aside0.mk (blk_below (g := gb146) (o := .cells #[.slice (some ad149) l0_0.length c0_0] 66 (0, 0)) (by (with_reducible repeat (first | refine blk_drewN ?_ _ | refine blk_drew ?_ | refine blk_alloc ?_ _)); exact BK146.out) hb); have n1_ := Aside0.mk (below_step (by repeat (first | (with_reducible first | exact HB.out | apply below_alloc | apply pw_below_drewN | apply below_drew1 | refine below_set ?_ GE146.out) | exact HB.out)) hb); clear BK146; clear HB; have BK146 := n0_; have HB := n1_; clear n0_ n1_; (try clear hb); (try clear hb2); (try clear hk); (try clear hi); have hcz27_0 : w26.cell? ⟨gb146, 0, none⟩ = some (.slice (some ad149) l0_0.length c0_0) := (blk_cell BK146.out 0).trans rfl; have hfz27_0 := blk_frozen BK146.out 0; have p151 : 0 ≤ (x6_1 : Int) := of_decide_eq_true (by first | (with_reducible assumption) | assumption); have q151 : x6_1 < (l0_0.length : Int) := of_decide_eq_true (by first | (with_reducible assumption) | assumption); obtain ⟨ad151, e151, hx151_0, hx151_1⟩ := at_T50 HR0_0.out x6_1 p151 q151; obtain rfl : ad149 = ad151 := (by injection e151); replace hx151_0 := (HB.out.cell (World.block_lt_of_cell? w _ hx151_0)).trans hx151_0; replace hx151_1 := (HB.out.cell (World.block_lt_of_cell? w _ hx151_1)).trans hx151_1; replace p151 := eq_true p151; replace q151 := eq_true q151) | (go_at_call 24; (with_reducible refine (goimap_Seq_Contains.calls ((rd_T50 l0_0 x6_1).f0) ((rd_T50 l0_0 x6_1).f1) a1 t152 _ A24.out).mono ?_); rintro e w28 ⟨rfl, hb⟩; have n0_ := Aside0.mk (blk_below (g := gb146) (o := .cells #[.slice (some ad149) l0_0.length c0_0] 66 (0, 0)) (by (with_reducible repeat (first | refine blk_drewN ?_ _ | refine blk_drew ?_ | refine blk_alloc ?_ _)); exact BK146.out) hb); have n1_ := Aside0.mk (below_step (by repeat (first | (with_reducible first | exact HB.out | apply below_alloc | apply pw_below_drewN | apply below_drew1 | refine below_set ?_ GE146.out) | exact HB.out)) hb); clear BK146; clear HB; have BK146 := n0_; have HB := n1_; clear n0_ n1_; (try clear hb); (try clear hb2); (try clear hk); (try clear hi)))
                repeat (go_quiet (first | (go_at_call 25; (with_reducible refine (goimap_Seq_Less.calls ((rd_T50 l0_0 x6_1).f0) ((rd_T50 l0_0 x6_1).f1) a1 false _ A19.out).mono ?_); rintro e w26 ⟨rfl, hb⟩; have n0_ := Aside0.mk (blk_below (g := gb146) (o := .cells #[.slice (some ad149) l0_0.length c0_0] 66 (0, 0)) (by (with_reducible repeat (first | refine blk_drewN ?_ _ | refine blk_drew ?_ | refine blk_alloc ?_ _)); exact BK146.out) hb); have n1_ := Aside0.mk (below_step (by repeat (first | (with_reducible first | exact HB.out | apply below_alloc | apply pw_below_drewN | apply below_drew1 | refine below_set ?_ GE146.out) | exact HB.out)) hb); clear BK146; clear HB; have BK146 := n0_; have HB := n1_; clear n0_ n1_; (try clear hb); (try clear hb2); (try clear hk); (try clear hi); have hcz27_0 : w26.cell? ⟨gb146, 0, none⟩ = some (.slice (some ad149) l0_0.length c0_0) := (blk_cell BK146.out 0).trans rfl; have hfz27_0 := blk_frozen BK146.out 0; have p151 : 0 ≤ (x6_1 : Int) := of_decide_eq_true (by first | (with_reducible assumption) | assumption); have q151 : x6_1 < (l0_0.length : Int) := of_decide_eq_true (by first | (with_reducible assumption) | assumption); obtain ⟨ad151, e151, hx151_0, hx151_1⟩ := at_T50 HR0_0.out x6_1 p151 q151; obtain rfl : ad149 = ad151 := (by injection e151); replace hx151_0 := (HB.out.cell (World.block_lt_of_cell? w _ hx151_0)).trans hx151_0; replace hx151_1 := (HB.out.cell (World.block_lt_of_cell? w _ hx151_1)).trans hx151_1; replace p151 := eq_true p151; replace q151 := eq_true q151) | (go_at_call 24; (with_reducible refine (goimap_Seq_Contains.calls ((rd_T50 l0_0 x6_1).f0) ((rd_T50 l0_0 x6_1).f1) a1 t152 _ A24.out).mono ?_); rintro e w28 ⟨rfl, hb⟩; have n0_ := Aside0.mk (blk_below (g := gb146) (o := .cells #[.slice (some ad149) l0_0.length c0_0] 66 (0, 0)) (by (with_reducible repeat (first | refine blk_drewN ?_ _ | refine blk_drew ?_ | refine blk_alloc ?_ _)); exact BK146.out) hb); have n1_ := Aside0.mk (below_step (by repeat (first | (with_reducible first | exact HB.out | apply below_alloc | apply pw_below_drewN | apply below_drew1 | refine below_set ?_ GE146.out) | exact HB.out)) hb); clear BK146; clear HB; have BK146 := n0_; have HB := n1_; clear n0_ n1_; (try clear hb); (try clear hb2); (try clear hk); (try clear hi))); try go_wp2_with (first | (go_at_call 25; (with_reducible refine (goimap_Seq_Less.calls ((rd_T50 l0_0 x6_1).f0) ((rd_T50 l0_0 x6_1).f1) a1 false _ A19.out).mono ?_); rintro e w26 ⟨rfl, hb⟩; have n0_ := Aside0.mk (blk_below (g := gb146) (o := .cells #[.slice (some ad149) l0_0.length c0_0] 66 (0, 0)) (by (with_reducible repeat (first | refine blk_drewN ?_ _ | refine blk_drew ?_ | refine blk_alloc ?_ _)); exact BK146.out) hb); have n1_ := Aside0.mk (below_step (by repeat (first | (with_reducible first | exact HB.out | apply below_alloc | apply pw_below_drewN | apply below_drew1 | refine below_set ?_ GE146.out) | exact HB.out)) hb); clear BK146; clear HB; have BK146 := n0_; have HB := n1_; clear n0_ n1_; (try clear hb); (try clear hb2); (try clear hk); (try clear hi); have hcz27_0 : w26.cell? ⟨gb146, 0, none⟩ = some (.slice (some ad149) l0_0.length c0_0) := (blk_cell BK146.out 0).trans rfl; have hfz27_0 := blk_frozen BK146.out 0; have p151 : 0 ≤ (x6_1 : Int) := of_decide_eq_true (by first | (with_reducible assumption) | assumption); have q151 : x6_1 < (l0_0.length : Int) := of_decide_eq_true (by first | (with_reducible assumption) | assumption); obtain ⟨ad151, e151, hx151_0, hx151_1⟩ := at_T50 HR0_0.out x6_1 p151 q151; obtain rfl : ad149 = ad151 := (by injection e151); replace hx151_0 := (HB.out.cell (World.block_lt_of_cell? w _ hx151_0)).trans hx151_0; replace hx151_1 := (HB.out.cell (World.block_lt_of_cell? w _ hx151_1)).trans hx151_1; replace p151 := eq_true p151; replace q151 := eq_true q151) | (go_at_call 24; (with_reducible refine (goimap_Seq_Contains.calls ((rd_T50 l0_0 x6_1).f0) ((rd_T50 l0_0 x6_1).f1) a1 t152 _ A24.out).mono ?_); rintro e w28 ⟨rfl, hb⟩; have n0_ := Aside0.mk (blk_below (g := gb146) (o := .cells #[.slice (some ad149) l0_0.length c0_0] 66 (0, 0)) (by (with_reducible repeat (first | refine blk_drewN ?_ _ | refine blk_drew ?_ | refine blk_alloc ?_ _)); exact BK146.out) hb); have n1_ := Aside0.mk (below_step (by repeat (first | (with_reducible first | exact HB.out | apply below_alloc | apply pw_below_drewN | apply below_drew1 | refine below_set ?_ GE146.out) | exact HB.out)) hb); clear BK146; clear HB; have BK146 := n0_; have HB := n1_; clear n0_ n1_; (try clear hb); (try clear hb2); (try clear hk); (try clear hi))))
                go_ret2
                exact ⟨by first | rfl | (simp [errW_none, errW_some] <;> rfl) | (simp [*, errW_none, errW_some] <;> rfl), by repeat (first | (with_reducible first | exact HB.out | apply below_alloc | apply pw_below_drewN | apply below_drew1 | refine below_set ?_ GE146.out) | exact HB.out)⟩
            · rw [if_neg c18] at H
              exact absurd H (by simp)
          · rw [if_neg c17] at H
            exact absurd H (by simp)

-- NOT PRINTED: function 51 (goimap_SeqSet_insertAt)

-- NOT PRINTED: function 46 (goimap_SeqSet_insert)

/-! ### goimap_zzIndex: function 52 -/
def goimap_zzIndex.l0 : Nat → ByteArray → ByteArray → Int → Option (Int)
  | 0, _, _, _ => none
  | k + 1, x0, x1, x5 => if (wrap64 (x5 + (x1.size : Int))) ≤ (x0.size : Int) then (if 0 ≤ x5 then (if x5 ≤ (wrap64 (x5 + (x1.size : Int))) then (if (x0.extract (x5 : Int).toNat ((wrap64 (x5 + (x1.size : Int))) : Int).toNat).toList = x1.toList then (some x5) else (goimap_zzIndex.l0 k x0 x1 (wrap64 (x5 + 1)))) else (none)) else (none)) else (some (-1))
def goimap_zzIndex.f (k : Nat) (a0 : ByteArray) (a1 : ByteArray) : Option (Int) := goimap_zzIndex.l0 k a0 a1 0
theorem goimap_zzIndex.mono_l : ∀ k, (∀ y0 y1 y2, LeO (goimap_zzIndex.l0 k y0 y1 y2) (goimap_zzIndex.l0 (k + 1) y0 y1 y2))
  | 0 => fun _ _ _ r h => by simp [goimap_zzIndex.l0] at h
  | k + 1 => by
    have ih0 := goimap_zzIndex.mono_l k
    · intro y0 y1 y2
      unfold goimap_zzIndex.l0
      repeat' first
      | (with_reducible exact ih0 _ _ _)
      | (with_reducible exact LeO.refl _)
      | (with_reducible exact LeO.none _)
      | (with_reducible refine LeO.ite ?_ ?_)
      | (with_reducible refine LeO.bind ?_ (fun _ => ?_))
      | exact ih0 _ _ _
      | exact LeO.none _
      | refine LeO.ite ?_ ?_
      | refine LeO.bind ?_ (fun _ => ?_)
theorem goimap_zzIndex.mono : ∀ a0 a1 k, LeO (goimap_zzIndex.f k a0 a1) (goimap_zzIndex.f (k + 1) a0 a1) := by
  intro a0 a1 k
  have ih0 := goimap_zzIndex.mono_l k
  unfold goimap_zzIndex.f
  repeat' first
      | (with_reducible exact ih0 _ _ _)
      | (with_reducible exact LeO.refl _)
      | (with_reducible exact LeO.none _)
      | (with_reducible refine LeO.ite ?_ ?_)
      | (with_reducible refine LeO.bind ?_ (fun _ => ?_))
      | exact ih0 _ _ _
      | exact LeO.none _
      | refine LeO.ite ?_ ?_
      | refine LeO.bind ?_ (fun _ => ?_)
set_option maxHeartbeats 8000000 in
set_option maxRecDepth 100000 in
theorem goimap_zzIndex.calls (k : Nat) (a0 : ByteArray) (a1 : ByteArray) (r : Int) (w : World) (h : goimap_zzIndex.f k a0 a1 = some r) :
    Calls Tryd.prog 52 #[.string a0, .string a1] w fun e w' => e = .returned (.int .i64 r) ∧ Drawn0 w w' := by
  have H : (goimap_zzIndex.l0 k a0 a1 0) = some r := h
  clear h
  have H' := Aside0.mk H
  clear H
  go_enter Tryd.func52, Tryd.ntmps52
  go_wp2
  go_loopg [5] k (fun kq v5 w' => ∃ (x5_1 : Int), v5 = .int .i64 x5_1 ∧ Aside0 (goimap_zzIndex.l0 kq a0 a1 x5_1 = some r) ∧ Aside0 (kq ≤ k) ∧ Drawn0 w w')
  case atStart => exact ⟨(0), (by first | rfl | (simp; done) | (simp [*]; done)), H', ⟨Nat.le_refl _⟩, by repeat (first | exact Drawn0.refl _ | apply Drawn0.step)⟩
  case round =>
    clear H'
    try clear p2
    obtain ⟨x5_1, rfl, HA, HK1, ⟨m1, rfl⟩⟩ := hrel
    cases gk with
    | zero => exact absurd HA.out (by simp [goimap_zzIndex.l0])
    | succ k1 =>
      have H := HA.out
      clear HA
      simp only [goimap_zzIndex.l0] at H
      by_cases c3 : (wrap64 (x5_1 + (a1.size : Int))) ≤ (a0.size : Int)
      · rw [if_pos c3] at H
        have c3b0 : decide ((wrap64 (x5_1 + (a1.size : Int))) ≤ (a0.size : Int)) = true := decide_eq_true c3
        clear c3
        by_cases c4 : 0 ≤ x5_1
        · rw [if_pos c4] at H
          have c4b0 := eq_true c4
          have c4b1 : decide (0 ≤ x5_1) = true := decide_eq_true c4
          clear c4
          by_cases c5 : x5_1 ≤ (wrap64 (x5_1 + (a1.size : Int)))
          · rw [if_pos c5] at H
            have c5b0 := eq_true c5
            have c5b1 : decide (x5_1 ≤ (wrap64 (x5_1 + (a1.size : Int)))) = true := decide_eq_true c5
            have c6b0 := eq_true (of_decide_eq_true (by first | (with_reducible assumption) | assumption) : (wrap64 (x5_1 + (a1.size : Int))) ≤ (a0.size : Int))
            by_cases c7 : (a0.extract (x5_1 : Int).toNat ((wrap64 (x5_1 + (a1.size : Int))) : Int).toNat).toList = a1.toList
            · rw [if_pos c7] at H
              have c7b0 : ((a0.extract (x5_1 : Int).toNat ((wrap64 (x5_1 + (a1.size : Int))) : Int).toNat).toList == a1.toList) = true := beq_iff_eq.mpr c7
              have c7b1 : ((a0.extract (x5_1 : Int).toNat ((wrap64 (x5_1 + (a1.size : Int))) : Int).toNat).toList != a1.toList) = false := bne_eq_false_iff_eq.mpr c7
              clear c7
              obtain rfl := Option.some.inj H
              go_wp2
              go_ret
              exact ⟨by first | rfl | (simp; done) | (simp [*]; done), by repeat (first | exact Drawn0.refl _ | apply Drawn0.step)⟩
            · rw [if_neg c7] at H
              have c7b0 : ((a0.extract (x5_1 : Int).toNat ((wrap64 (x5_1 + (a1.size : Int))) : Int).toNat).toList == a1.toList) = false := beq_eq_false_iff_ne.mpr c7
              have c7b1 : ((a0.extract (x5_1 : Int).toNat ((wrap64 (x5_1 + (a1.size : Int))) : Int).toNat).toList != a1.toList) = true := bne_iff_ne.mpr c7
              have H' := Aside0.mk H
              clear H
              go_wp2
              go_roundg k1
              case measure => have := HK1.out; omega
              case rel => exact ⟨(wrap64 (x5_1 + 1)), (by first | rfl | (simp; done) | (simp [*]; done)), H', ⟨by have := HK1.out; omega⟩, by repeat (first | exact Drawn0.refl _ | apply Drawn0.step)⟩
          · rw [if_neg c5] at H
            exact absurd H (by simp)
        · rw [if_neg c4] at H
          exact absurd H (by simp)
      · rw [if_neg c3] at H
        have c3b0 : decide ((wrap64 (x5_1 + (a1.size : Int))) ≤ (a0.size : Int)) = false := decide_eq_false c3
        clear c3
        obtain rfl := Option.some.inj H
        go_wp2
        go_ret
        exact ⟨by first | rfl | (simp; done) | (simp [*]; done), by repeat (first | exact Drawn0.refl _ | apply Drawn0.step)⟩

-- NOT PRINTED: function 47 (goimap_zzSplit)

-- NOT PRINTED: function 53 (goimap_zzIndexRune)

/-! ### strconv_lower: function 69 -/
def strconv_lower.f (a0 : Int) : Option (Int) := some (Go.bits .or .u8 a0 32)
set_option maxHeartbeats 8000000 in
set_option maxRecDepth 100000 in
theorem strconv_lower.calls (a0 : Int) (r : Int) (w : World) (h : strconv_lower.f a0 = some r) :
    Calls Tryd.prog 69 #[.int .u8 a0] w fun e w' => e = .returned (.int .u8 r) ∧ Drawn0 w w' := by
  have H : (some (Go.bits .or .u8 a0 32)) = some r := h
  clear h
  obtain rfl := Option.some.inj H
  go_enter Tryd.func69, Tryd.ntmps69
  go_wp2
  go_ret
  exact ⟨by first | rfl | (simp; done) | (simp [*]; done), by repeat (first | exact Drawn0.refl _ | apply Drawn0.step)⟩

end Go.Proofs.YtajifebphcgcpaaDoor.PFnSeqOf
