-- Printed for this claim by a copy of the kit's print that takes hand-proved callees (wip/patch_print.py).
import Derived.Test.YtldiamldbpobgaaGreatDoorPParamsx0
namespace Go.Proofs.YtldiamldbpobgaaGreatDoor.PParams
open Go.RowKit Go.Proofs.YtldiamldbpobgaaGreatDoorW.PrintWords Go.Proofs.YtldiamldbpobgaaGreatDoorW.PrintLast Go.Proofs.YtldiamldbpobgaaGreatDoorW.PrintMore
attribute [local go_sem] max2_int min2_int max_two min_two max_three min_three max_four min_four   -- for this text's walks alone
set_option linter.unusedVariables false
set_option linter.unusedSimpArgs false

/-! ### spec_put: function 17 -/
def spec_put.l0 : Nat → List (S36) → Int → ByteArray → ByteArray → Bool → Option ((List (S36)))
  | 0, _, _, _, _, _ => none
  | k + 1, x0, x5, x102000, x102001, x102002 => if x5 < (x0.length : Int) then (if 0 ≤ x5 then (if ((rd_T36 x0 x5).f0).toList = x102000.toList then (some (x0.set (x5 : Int).toNat (⟨x102000, x102001, x102002⟩ : S36))) else (spec_put.l0 k x0 (wrap64 (x5 + 1)) x102000 x102001 x102002)) else (none)) else (if x0.length < 3518437208883 then (some (x0 ++ [(⟨x102000, x102001, x102002⟩ : S36)])) else (none))
def spec_put.f (k : Nat) (l0 : List (S36)) (a1_0 : ByteArray) (a1_1 : ByteArray) (a1_2 : Bool) : Option ((List (S36))) := spec_put.l0 k l0 0 a1_0 a1_1 a1_2
theorem spec_put.mono_l : ∀ k, (∀ y0 y1 y2 y3 y4, LeO (spec_put.l0 k y0 y1 y2 y3 y4) (spec_put.l0 (k + 1) y0 y1 y2 y3 y4))
  | 0 => fun _ _ _ _ _ r h => by simp [spec_put.l0] at h
  | k + 1 => by
    have ih0 := spec_put.mono_l k
    · intro y0 y1 y2 y3 y4
      unfold spec_put.l0
      repeat' first
      | (with_reducible exact ih0 _ _ _ _ _)
      | (with_reducible exact LeO.refl _)
      | (with_reducible exact LeO.none _)
      | (with_reducible refine LeO.ite ?_ ?_)
      | (with_reducible refine LeO.bind ?_ (fun _ => ?_))
      | exact ih0 _ _ _ _ _
      | exact LeO.none _
      | refine LeO.ite ?_ ?_
      | refine LeO.bind ?_ (fun _ => ?_)
theorem spec_put.mono : ∀ a0 a1 a2 a3 k, LeO (spec_put.f k a0 a1 a2 a3) (spec_put.f (k + 1) a0 a1 a2 a3) := by
  intro a0 a1 a2 a3 k
  have ih0 := spec_put.mono_l k
  unfold spec_put.f
  repeat' first
      | (with_reducible exact ih0 _ _ _ _ _)
      | (with_reducible exact LeO.refl _)
      | (with_reducible exact LeO.none _)
      | (with_reducible refine LeO.ite ?_ ?_)
      | (with_reducible refine LeO.bind ?_ (fun _ => ?_))
      | exact ih0 _ _ _ _ _
      | exact LeO.none _
      | refine LeO.ite ?_ ?_
      | refine LeO.bind ?_ (fun _ => ?_)
set_option maxHeartbeats 8000000 in
set_option maxRecDepth 100000 in
theorem spec_put.calls (k : Nat) (P0_ : Nat → Prop) (u9000_ : Value) (l0 : List (S36)) (a1_0 : ByteArray) (a1_1 : ByteArray) (a1_2 : Bool) (r : List (S36)) (w0 w : World) (hB : Below w0.heap.size w0 w) (ho0 : Kd.R k36 36 w w0.heap.size P0_ u9000_ l0) (h : spec_put.f k l0 a1_0 a1_1 a1_2 = some r) :
    Calls Tryz.prog 17 #[u9000_, .agg #[.string a1_0, .string a1_1, .bool a1_2]] w fun e w' => ∃ v0_ : Value, e = .returned (v0_) ∧ Kd.R k36 36 w' w0.heap.size (fun k_ => (P0_ k_ ∨ w.heap.size ≤ k_)) v0_ r ∧ Below w0.heap.size w0 w' ∧ Kept w w' (fun k_ => P0_ k_) := by
  have hu36 := Tryz.underlying36
  have HO0 := Aside0.mk (show Kd.R k36 36 w w0.heap.size (fun k_ => (P0_ k_ ∨ w.heap.size ≤ k_)) u9000_ l0 from Kd.R_mono ho0 (fun k_ hk => (.inl hk)))
  have HK := Aside0.mk (Kept.refl w (fun k_ => P0_ k_))
  have HW0 := Aside0.mk hB.size
  have HB := Aside0.mk hB
  clear hB
  have H : (spec_put.l0 k l0 0 a1_0 a1_1 a1_2) = some r := h
  clear h
  have H' := Aside0.mk H
  clear H
  go_enter Tryz.func17, Tryz.ntmps17
  go_wp2_with (first | ((with_reducible refine gate_dst (N := 3) rfl ?_); refine box_event ?hg (N := 3) ?hd (cs := #[.string a1_0, .string a1_1, .bool a1_2]) (t := 36) ?hr ?_; (case hd => rfl); (case hg => rfl); (case hr => first | (go_simp; done) | (go_simp; rfl)); intro gb101 hg w3 hbox hb; have n0_ := Aside0.mk (Kd.R_below (Kd.R_elderB (by (with_reducible repeat (first | apply Kd.R_alloc | apply Kd.R_drewN | apply Kd.R_drew)); exact HO0.out) gb101 (Nat.le_of_eq hg.symm)) hb); have n1_ := Aside0.mk (Kept.below (S := (fun k_ => P0_ k_)) (by repeat (first | (with_reducible first | exact HK.out | apply Kept.alloc | apply Kept.drewN | apply Kept.drew) | exact HK.out)) hb); have n2_ := Aside0.mk (below_step (by repeat (first | (with_reducible first | exact HB.out | apply below_alloc | apply pw_below_drewN | apply below_drew1) | exact HB.out)) hb); have n3_ := Aside0.mk (hbox); have n4_ := Aside0.mk ((by rw [hg]; exact (by first | exact HK.out.1 | exact (show Kept w _ (fun k_ => P0_ k_) from by repeat (first | (with_reducible first | exact HK.out | apply Kept.alloc | apply Kept.drewN | apply Kept.drew) | exact HK.out)).1) : w.heap.size ≤ gb101)); have n5_ := Aside0.mk ((by rw [hg]; exact (below_size (by repeat (first | (with_reducible first | exact HB.out | apply below_alloc | apply pw_below_drewN | apply below_drew1) | exact HB.out))) : w0.heap.size ≤ gb101)); clear HO0; clear HK; clear HB; have HO0 := n0_; have HK := n1_; have HB := n2_; have BK101 := n3_; have GW101 := n4_; have GE101 := n5_; clear n0_ n1_ n2_ n3_ n4_ n5_; clear hb hbox hg))
  repeat (go_quiet (first | ((with_reducible refine gate_dst (N := 3) rfl ?_); refine box_event ?hg (N := 3) ?hd (cs := #[.string a1_0, .string a1_1, .bool a1_2]) (t := 36) ?hr ?_; (case hd => rfl); (case hg => rfl); (case hr => first | (go_simp; done) | (go_simp; rfl)); intro gb101 hg w3 hbox hb; have n0_ := Aside0.mk (Kd.R_below (Kd.R_elderB (by (with_reducible repeat (first | apply Kd.R_alloc | apply Kd.R_drewN | apply Kd.R_drew)); exact HO0.out) gb101 (Nat.le_of_eq hg.symm)) hb); have n1_ := Aside0.mk (Kept.below (S := (fun k_ => P0_ k_)) (by repeat (first | (with_reducible first | exact HK.out | apply Kept.alloc | apply Kept.drewN | apply Kept.drew) | exact HK.out)) hb); have n2_ := Aside0.mk (below_step (by repeat (first | (with_reducible first | exact HB.out | apply below_alloc | apply pw_below_drewN | apply below_drew1) | exact HB.out)) hb); have n3_ := Aside0.mk (hbox); have n4_ := Aside0.mk ((by rw [hg]; exact (by first | exact HK.out.1 | exact (show Kept w _ (fun k_ => P0_ k_) from by repeat (first | (with_reducible first | exact HK.out | apply Kept.alloc | apply Kept.drewN | apply Kept.drew) | exact HK.out)).1) : w.heap.size ≤ gb101)); have n5_ := Aside0.mk ((by rw [hg]; exact (below_size (by repeat (first | (with_reducible first | exact HB.out | apply below_alloc | apply pw_below_drewN | apply below_drew1) | exact HB.out))) : w0.heap.size ≤ gb101)); clear HO0; clear HK; clear HB; have HO0 := n0_; have HK := n1_; have HB := n2_; have BK101 := n3_; have GW101 := n4_; have GE101 := n5_; clear n0_ n1_ n2_ n3_ n4_ n5_; clear hb hbox hg)); try go_wp2_with (first | ((with_reducible refine gate_dst (N := 3) rfl ?_); refine box_event ?hg (N := 3) ?hd (cs := #[.string a1_0, .string a1_1, .bool a1_2]) (t := 36) ?hr ?_; (case hd => rfl); (case hg => rfl); (case hr => first | (go_simp; done) | (go_simp; rfl)); intro gb101 hg w3 hbox hb; have n0_ := Aside0.mk (Kd.R_below (Kd.R_elderB (by (with_reducible repeat (first | apply Kd.R_alloc | apply Kd.R_drewN | apply Kd.R_drew)); exact HO0.out) gb101 (Nat.le_of_eq hg.symm)) hb); have n1_ := Aside0.mk (Kept.below (S := (fun k_ => P0_ k_)) (by repeat (first | (with_reducible first | exact HK.out | apply Kept.alloc | apply Kept.drewN | apply Kept.drew) | exact HK.out)) hb); have n2_ := Aside0.mk (below_step (by repeat (first | (with_reducible first | exact HB.out | apply below_alloc | apply pw_below_drewN | apply below_drew1) | exact HB.out)) hb); have n3_ := Aside0.mk (hbox); have n4_ := Aside0.mk ((by rw [hg]; exact (by first | exact HK.out.1 | exact (show Kept w _ (fun k_ => P0_ k_) from by repeat (first | (with_reducible first | exact HK.out | apply Kept.alloc | apply Kept.drewN | apply Kept.drew) | exact HK.out)).1) : w.heap.size ≤ gb101)); have n5_ := Aside0.mk ((by rw [hg]; exact (below_size (by repeat (first | (with_reducible first | exact HB.out | apply below_alloc | apply pw_below_drewN | apply below_drew1) | exact HB.out))) : w0.heap.size ≤ gb101)); clear HO0; clear HK; clear HB; have HO0 := n0_; have HK := n1_; have HB := n2_; have BK101 := n3_; have GW101 := n4_; have GE101 := n5_; clear n0_ n1_ n2_ n3_ n4_ n5_; clear hb hbox hg)))
  go_loopg [5] k (fun kq v5 w' => ∃ (x0_1 : List (S36)) (x5_1 : Int) (x102000_1 : ByteArray) (x102001_1 : ByteArray) (x102002_1 : Bool), v5 = .int .i64 x5_1 ∧ Aside0 (spec_put.l0 kq x0_1 x5_1 x102000_1 x102001_1 x102002_1 = some r) ∧ Aside0 (kq ≤ k) ∧ Aside0 (Kd.R k36 36 w' w0.heap.size (fun k_ => (P0_ k_ ∨ w.heap.size ≤ k_) ∧ k_ ≠ gb101) u9000_ x0_1) ∧ Aside0 (w'.heap[gb101]? = some (.cells #[.string x102000_1, .string x102001_1, .bool x102002_1] 36 (0, 0))) ∧ Aside0 (Kept w w' (fun k_ => P0_ k_)) ∧ Aside0 (Below w0.heap.size w0 w'))
  case atStart => exact ⟨(l0), (0), (a1_0), (a1_1), (a1_2), (by first | rfl | (simp; done) | (simp [*]; done)), H', ⟨Nat.le_refl _⟩, ⟨by (with_reducible repeat (first | apply Kd.R_alloc | apply Kd.R_drewN | apply Kd.R_drew)); exact HO0.out⟩, ⟨by (with_reducible repeat (first | refine blk_drewN ?_ _ | refine blk_drew ?_ | refine blk_alloc ?_ _)); exact BK101.out⟩, ⟨by repeat (first | (with_reducible first | exact HK.out | apply Kept.alloc | apply Kept.drewN | apply Kept.drew | refine Kept.setCell ?_ (.inr GW101.out) _) | exact HK.out)⟩, ⟨by repeat (first | (with_reducible first | exact HB.out | apply below_alloc | apply pw_below_drewN | apply below_drew1 | refine below_set ?_ GE101.out) | exact HB.out)⟩⟩
  case round =>
    clear H'
    try clear c1
    try clear p2
    obtain ⟨x0_1, x5_1, x102000_1, x102001_1, x102002_1, rfl, HA, HK1, HO_0, BK101, HK, HB⟩ := hrel
    cases gk with
    | zero => exact absurd HA.out (by simp [spec_put.l0])
    | succ k1 =>
      have H := HA.out
      clear HA
      simp only [spec_put.l0] at H
      by_cases c4 : x5_1 < (x0_1.length : Int)
      · rw [if_pos c4] at H
        have c4b0 : decide (x5_1 < (x0_1.length : Int)) = true := decide_eq_true c4
        clear c4
        by_cases c5 : 0 ≤ x5_1
        · rw [if_pos c5] at H
          have c5b0 : decide (0 ≤ x5_1) = true := decide_eq_true c5
          clear c5
          by_cases c6 : ((rd_T36 x0_1 x5_1).f0).toList = x102000_1.toList
          · rw [if_pos c6] at H
            have c6b0 : (((rd_T36 x0_1 x5_1).f0).toList == x102000_1.toList) = true := beq_iff_eq.mpr c6
            have c6b1 : (((rd_T36 x0_1 x5_1).f0).toList != x102000_1.toList) = false := bne_eq_false_iff_eq.mpr c6
            clear c6
            obtain ⟨y103, hy103⟩ : ∃ y_ : List (S36), y_ = (x0_1.set (x5_1 : Int).toNat (⟨x102000_1, x102001_1, x102002_1⟩ : S36)) := ⟨_, rfl⟩
            replace H : (some y103) = some r := by first | (rw [hy103]; with_reducible exact H) | (have H2_ := (Option.bind_some _ _).symm.trans H; rw [hy103]; with_reducible exact H2_) | (have H2_ := (Option.bind_some _ _).symm.trans H; with_reducible exact H2_) | with_reducible exact H | (rw [hy103]; exact H) | exact H
            have Ny103 := Aside0.mk hy103
            clear hy103
            obtain rfl := Option.some.inj H
            obtain ⟨Ao8, co8, eo8⟩ := Kd.R_slice HO_0.out
            subst eo8
            have p102 : 0 ≤ (x5_1 : Int) := of_decide_eq_true (by first | (with_reducible assumption) | assumption)
            have q102 : x5_1 < (x0_1.length : Int) := of_decide_eq_true (by first | (with_reducible assumption) | assumption)
            obtain ⟨ad102, e102, hx102_0, hx102_1, hx102_2⟩ := at_T36 (Kd.R_reads' HO_0.out).2.2 x5_1 p102 q102
            cases e102
            replace p102 := eq_true p102
            replace q102 := eq_true q102
            have hcz9_0 : wr.cell? ⟨gb101, 0, none⟩ = some (.string x102000_1) := (blk_cell BK101.out 0).trans rfl
            have hcz9_1 : wr.cell? ⟨gb101, 1, none⟩ = some (.string x102001_1) := (blk_cell BK101.out 1).trans rfl
            have hcz9_2 : wr.cell? ⟨gb101, 2, none⟩ = some (.bool x102002_1) := (blk_cell BK101.out 2).trans rfl
            have hfz9_0 := blk_frozen BK101.out 0
            have hfz9_1 := blk_frozen BK101.out 1
            have hfz9_2 := blk_frozen BK101.out 2
            have p7 : 0 ≤ (x5_1 : Int) := of_decide_eq_true (by first | (with_reducible assumption) | assumption)
            have q7 : (x5_1 : Int) < ((x0_1.length : Int) : Int) := of_decide_eq_true (by first | (with_reducible assumption) | assumption)
            obtain ⟨go7, co7, eo7, gb7, gl7, cl7, HG7⟩ := Kd.R_form HO_0.out (by omega)
            (first | cases eo7 | (injection eo7 with ea_ en_ ec_; (first | subst ea_ | (injection ea_ with ea_; subst ea_)); subst ec_; clear en_))
            have GB7 := Aside0.mk gb7
            have GG7 := Aside0.mk HG7
            clear gb7 gl7 HG7
            have HMgo7 := Aside0.mk (show (P0_ go7 ∨ w.heap.size ≤ go7) from (HO_0.out.1 _ rfl).1)
            (first | simp only [add_plain] at hx102_0 | skip)
            (first | simp only [add_plain] at hx102_1 | skip)
            (first | simp only [add_plain] at hx102_2 | skip)
            obtain ⟨ce7, hcl7, hM7, hcc7, hfr7⟩ := Kd.R_elem HO_0.out z36 (x5_1 : Int) p7 q7
            obtain rfl := k36_openM hM7
            have hx7_0 : wr.cell? ⟨go7, (x5_1 : Int).toNat * 3, none⟩ = some (.string ((rd_T36 x0_1 x5_1).f0)) := hcc7 0 _ rfl
            have hx7_1 : wr.cell? ⟨go7, (x5_1 : Int).toNat * 3 + 1, none⟩ = some (.string ((rd_T36 x0_1 x5_1).f1)) := hcc7 1 _ rfl
            have hx7_2 : wr.cell? ⟨go7, (x5_1 : Int).toNat * 3 + 2, none⟩ = some (.bool ((rd_T36 x0_1 x5_1).f2)) := hcc7 2 _ rfl
            have hf7_0 : wr.frozen? ⟨go7, (x5_1 : Int).toNat * 3, none⟩ = false := hfr7 0
            have hf7_1 : wr.frozen? ⟨go7, (x5_1 : Int).toNat * 3 + 1, none⟩ = false := hfr7 1
            have hf7_2 : wr.frozen? ⟨go7, (x5_1 : Int).toNat * 3 + 2, none⟩ = false := hfr7 2
            clear hcl7 hcc7 hfr7 hM7
            replace p7 := eq_true p7
            replace q7 := eq_true q7
            have HX10 := Aside0.mk (show Kd.R k36 36 wr w0.heap.size (fun k_ => (P0_ k_ ∨ w.heap.size ≤ k_) ∧ k_ ≠ gb101) (.slice (some ⟨go7, 0, none⟩) x0_1.length co8) x0_1 from (by (with_reducible repeat (first | apply Kd.R_alloc | apply Kd.R_drewN | apply Kd.R_drew)); exact HO_0.out))
            obtain ⟨ce10, hcl10, hM10, hcc10, hfr10⟩ := Kd.R_elem HX10.out z36 (x5_1 : Int) (of_decide_eq_true (by first | (with_reducible assumption) | assumption)) (by have h_ : (x5_1 : Int) < ((x0_1.length : Int) : Int) := of_decide_eq_true (by first | (with_reducible assumption) | assumption); first | exact h_ | (have e_ := (Kd.R_reads' HO_0.out).1; omega) | simpa using h_)
            obtain rfl := k36_openM hM10
            have HP10 := Kd.R_seg HX10.out (x5_1 : Int) (of_decide_eq_true (by first | (with_reducible assumption) | assumption)) (by have h_ : (x5_1 : Int) < ((x0_1.length : Int) : Int) := of_decide_eq_true (by first | (with_reducible assumption) | assumption); first | exact h_ | (have e_ := (Kd.R_reads' HO_0.out).1; omega) | simpa using h_) (seg := [.string x102000_1, .string x102001_1, .bool x102002_1]) (j := 0) hcl10 hcc10 (show 3 ≤ 3 from by decide) (x' := (⟨x102000_1, x102001_1, x102002_1⟩ : S36)) (k36_mkM _ _ _ (⟨x102000_1, x102001_1, x102002_1⟩ : S36) ) (fun _ hk => hk)
            have hx10_0 := hcc10 0 _ rfl
            (try simp only [show (k36).sz = 3 from rfl, Nat.mul_one, Nat.add_zero] at hx10_0)
            have hf10_0 := hfr10 0
            (try simp only [show (k36).sz = 3 from rfl, Nat.mul_one, Nat.add_zero] at hf10_0)
            have hx10_1 := hcc10 1 _ rfl
            (try simp only [show (k36).sz = 3 from rfl, Nat.mul_one, Nat.add_zero] at hx10_1)
            have hf10_1 := hfr10 1
            (try simp only [show (k36).sz = 3 from rfl, Nat.mul_one, Nat.add_zero] at hf10_1)
            have hx10_2 := hcc10 2 _ rfl
            (try simp only [show (k36).sz = 3 from rfl, Nat.mul_one, Nat.add_zero] at hx10_2)
            have hf10_2 := hfr10 2
            (try simp only [show (k36).sz = 3 from rfl, Nat.mul_one, Nat.add_zero] at hf10_2)
            clear hcl10 hcc10 hfr10 hM10
            go_wp2_with (first | ((with_reducible refine gate_store (t := 36) (p := 23) rfl ?_); (try (rw [drewN_self wr]; generalize hq_ : World.drewN wr _ = wr; have n0_ := Aside0.mk (Kd.R_at hq_ HO_0.out); have n1_ := Aside0.mk (blk_at hq_ BK101.out); have n2_ := Aside0.mk (kept_at hq_ HK.out); have n3_ := Aside0.mk (below_at hq_ HB.out); clear hq_ HO_0 BK101 HK HB; have HO_0 := n0_; have BK101 := n1_; have HK := n2_; have HB := n3_; clear n0_ n1_ n2_ n3_; (try (have HX10 := Aside0.mk (show Kd.R k36 36 wr w0.heap.size (fun k_ => (P0_ k_ ∨ w.heap.size ≤ k_) ∧ k_ ≠ gb101) (.slice (some ⟨go7, 0, none⟩) x0_1.length co8) x0_1 from (by (with_reducible repeat (first | apply Kd.R_alloc | apply Kd.R_drewN | apply Kd.R_drew)); exact HO_0.out)))); (try (obtain ⟨ce10, hcl10, hM10, hcc10, hfr10⟩ := Kd.R_elem HX10.out z36 (x5_1 : Int) (of_decide_eq_true (by first | (with_reducible assumption) | assumption)) (by have h_ : (x5_1 : Int) < ((x0_1.length : Int) : Int) := of_decide_eq_true (by first | (with_reducible assumption) | assumption); first | exact h_ | (have e_ := (Kd.R_reads' HO_0.out).1; omega) | simpa using h_))); (try (obtain rfl := k36_openM hM10)); (try (have HP10 := Kd.R_seg HX10.out (x5_1 : Int) (of_decide_eq_true (by first | (with_reducible assumption) | assumption)) (by have h_ : (x5_1 : Int) < ((x0_1.length : Int) : Int) := of_decide_eq_true (by first | (with_reducible assumption) | assumption); first | exact h_ | (have e_ := (Kd.R_reads' HO_0.out).1; omega) | simpa using h_) (seg := [.string x102000_1, .string x102001_1, .bool x102002_1]) (j := 0) hcl10 hcc10 (show 3 ≤ 3 from by decide) (x' := (⟨x102000_1, x102001_1, x102002_1⟩ : S36)) (k36_mkM _ _ _ (⟨x102000_1, x102001_1, x102002_1⟩ : S36) ) (fun _ hk => hk))); (try (have hx10_0 := hcc10 0 _ rfl)); (try (try simp only [show (k36).sz = 3 from rfl, Nat.mul_one, Nat.add_zero] at hx10_0)); (try (have hf10_0 := hfr10 0)); (try (try simp only [show (k36).sz = 3 from rfl, Nat.mul_one, Nat.add_zero] at hf10_0)); (try (have hx10_1 := hcc10 1 _ rfl)); (try (try simp only [show (k36).sz = 3 from rfl, Nat.mul_one, Nat.add_zero] at hx10_1)); (try (have hf10_1 := hfr10 1)); (try (try simp only [show (k36).sz = 3 from rfl, Nat.mul_one, Nat.add_zero] at hf10_1)); (try (have hx10_2 := hcc10 2 _ rfl)); (try (try simp only [show (k36).sz = 3 from rfl, Nat.mul_one, Nat.add_zero] at hx10_2)); (try (have hf10_2 := hfr10 2)); (try (try simp only [show (k36).sz = 3 from rfl, Nat.mul_one, Nat.add_zero] at hf10_2)); (try (clear hcl10 hcc10 hfr10 hM10)))); refine store_event (t := 36) (p := 23) (v := ?vo_w11) (w1 := (((wr.setCell ⟨go7, (x5_1 : Int).toNat * 3, none⟩ (.string x102000_1)).setCell ⟨go7, (x5_1 : Int).toNat * 3 + 1, none⟩ (.string x102001_1)).setCell ⟨go7, (x5_1 : Int).toNat * 3 + 2, none⟩ (.bool x102002_1))) ?hg ?ho ?hn ?hr ?_; (case ho => rfl); (case hg => rfl); (case hn => rfl); (case hr => first | (go_simp; done) | (go_simp; rfl)); intro w11 hw; have hg : wr.grownBy w11 (some go7) := (by rw [hw]; exact HP10.2); have hp_ : Kd.R k36 36 w11 w0.heap.size (fun k_ => (P0_ k_ ∨ w.heap.size ≤ k_) ∧ k_ ≠ gb101) (.slice (some ⟨go7, 0, none⟩) x0_1.length co8) y103 := (by rw [hw, Ny103.out]; exact HP10.1); clear HP10; have n0_ := Aside0.mk (hp_); have n1_ := Aside0.mk (blk_grown (g := gb101) (o := .cells #[.string x102000_1, .string x102001_1, .bool x102002_1] 36 (0, 0)) (by (with_reducible repeat (first | refine blk_drewN ?_ _ | refine blk_drew ?_ | refine blk_alloc ?_ _)); exact BK101.out) hg (Kd.R_away HO_0.out (fun _ hk => hk.2))); have n2_ := Aside0.mk ((by rw [hw]; exact below_set (below_set (below_set (HB.out) GB7.out) GB7.out) GB7.out : Below w0.heap.size w0 w11)); have n3_ := Aside0.mk (Kept.of_grown (S := (fun k_ => P0_ k_)) hg (by repeat (first | (with_reducible first | exact HK.out | apply Kept.alloc | apply Kept.drewN | apply Kept.drew | refine Kept.setCell ?_ (.inr GW101.out) _) | exact HK.out)) (fun k_ e_ => (HO_0.out.1 k_ e_).1)); clear HO_0; clear BK101; clear HB; clear HK; have HO_0 := n0_; have BK101 := n1_; have HB := n2_; have HK := n3_; clear n0_ n1_ n2_ n3_; clear hg hw hp_))
            repeat (go_quiet (first | ((with_reducible refine gate_store (t := 36) (p := 23) rfl ?_); (try (rw [drewN_self wr]; generalize hq_ : World.drewN wr _ = wr; have n0_ := Aside0.mk (Kd.R_at hq_ HO_0.out); have n1_ := Aside0.mk (blk_at hq_ BK101.out); have n2_ := Aside0.mk (kept_at hq_ HK.out); have n3_ := Aside0.mk (below_at hq_ HB.out); clear hq_ HO_0 BK101 HK HB; have HO_0 := n0_; have BK101 := n1_; have HK := n2_; have HB := n3_; clear n0_ n1_ n2_ n3_; (try (have HX10 := Aside0.mk (show Kd.R k36 36 wr w0.heap.size (fun k_ => (P0_ k_ ∨ w.heap.size ≤ k_) ∧ k_ ≠ gb101) (.slice (some ⟨go7, 0, none⟩) x0_1.length co8) x0_1 from (by (with_reducible repeat (first | apply Kd.R_alloc | apply Kd.R_drewN | apply Kd.R_drew)); exact HO_0.out)))); (try (obtain ⟨ce10, hcl10, hM10, hcc10, hfr10⟩ := Kd.R_elem HX10.out z36 (x5_1 : Int) (of_decide_eq_true (by first | (with_reducible assumption) | assumption)) (by have h_ : (x5_1 : Int) < ((x0_1.length : Int) : Int) := of_decide_eq_true (by first | (with_reducible assumption) | assumption); first | exact h_ | (have e_ := (Kd.R_reads' HO_0.out).1; omega) | simpa using h_))); (try (obtain rfl := k36_openM hM10)); (try (have HP10 := Kd.R_seg HX10.out (x5_1 : Int) (of_decide_eq_true (by first | (with_reducible assumption) | assumption)) (by have h_ : (x5_1 : Int) < ((x0_1.length : Int) : Int) := of_decide_eq_true (by first | (with_reducible assumption) | assumption); first | exact h_ | (have e_ := (Kd.R_reads' HO_0.out).1; omega) | simpa using h_) (seg := [.string x102000_1, .string x102001_1, .bool x102002_1]) (j := 0) hcl10 hcc10 (show 3 ≤ 3 from by decide) (x' := (⟨x102000_1, x102001_1, x102002_1⟩ : S36)) (k36_mkM _ _ _ (⟨x102000_1, x102001_1, x102002_1⟩ : S36) ) (fun _ hk => hk))); (try (have hx10_0 := hcc10 0 _ rfl)); (try (try simp only [show (k36).sz = 3 from rfl, Nat.mul_one, Nat.add_zero] at hx10_0)); (try (have hf10_0 := hfr10 0)); (try (try simp only [show (k36).sz = 3 from rfl, Nat.mul_one, Nat.add_zero] at hf10_0)); (try (have hx10_1 := hcc10 1 _ rfl)); (try (try simp only [show (k36).sz = 3 from rfl, Nat.mul_one, Nat.add_zero] at hx10_1)); (try (have hf10_1 := hfr10 1)); (try (try simp only [show (k36).sz = 3 from rfl, Nat.mul_one, Nat.add_zero] at hf10_1)); (try (have hx10_2 := hcc10 2 _ rfl)); (try (try simp only [show (k36).sz = 3 from rfl, Nat.mul_one, Nat.add_zero] at hx10_2)); (try (have hf10_2 := hfr10 2)); (try (try simp only [show (k36).sz = 3 from rfl, Nat.mul_one, Nat.add_zero] at hf10_2)); (try (clear hcl10 hcc10 hfr10 hM10)))); refine store_event (t := 36) (p := 23) (v := ?vo_w11) (w1 := (((wr.setCell ⟨go7, (x5_1 : Int).toNat * 3, none⟩ (.string x102000_1)).setCell ⟨go7, (x5_1 : Int).toNat * 3 + 1, none⟩ (.string x102001_1)).setCell ⟨go7, (x5_1 : Int).toNat * 3 + 2, none⟩ (.bool x102002_1))) ?hg ?ho ?hn ?hr ?_; (case ho => rfl); (case hg => rfl); (case hn => rfl); (case hr => first | (go_simp; done) | (go_simp; rfl)); intro w11 hw; have hg : wr.grownBy w11 (some go7) := (by rw [hw]; exact HP10.2); have hp_ : Kd.R k36 36 w11 w0.heap.size (fun k_ => (P0_ k_ ∨ w.heap.size ≤ k_) ∧ k_ ≠ gb101) (.slice (some ⟨go7, 0, none⟩) x0_1.length co8) y103 := (by rw [hw, Ny103.out]; exact HP10.1); clear HP10; have n0_ := Aside0.mk (hp_); have n1_ := Aside0.mk (blk_grown (g := gb101) (o := .cells #[.string x102000_1, .string x102001_1, .bool x102002_1] 36 (0, 0)) (by (with_reducible repeat (first | refine blk_drewN ?_ _ | refine blk_drew ?_ | refine blk_alloc ?_ _)); exact BK101.out) hg (Kd.R_away HO_0.out (fun _ hk => hk.2))); have n2_ := Aside0.mk ((by rw [hw]; exact below_set (below_set (below_set (HB.out) GB7.out) GB7.out) GB7.out : Below w0.heap.size w0 w11)); have n3_ := Aside0.mk (Kept.of_grown (S := (fun k_ => P0_ k_)) hg (by repeat (first | (with_reducible first | exact HK.out | apply Kept.alloc | apply Kept.drewN | apply Kept.drew | refine Kept.setCell ?_ (.inr GW101.out) _) | exact HK.out)) (fun k_ e_ => (HO_0.out.1 k_ e_).1)); clear HO_0; clear BK101; clear HB; clear HK; have HO_0 := n0_; have BK101 := n1_; have HB := n2_; have HK := n3_; clear n0_ n1_ n2_ n3_; clear hg hw hp_)); try go_wp2_with (first | ((with_reducible refine gate_store (t := 36) (p := 23) rfl ?_); (try (rw [drewN_self wr]; generalize hq_ : World.drewN wr _ = wr; have n0_ := Aside0.mk (Kd.R_at hq_ HO_0.out); have n1_ := Aside0.mk (blk_at hq_ BK101.out); have n2_ := Aside0.mk (kept_at hq_ HK.out); have n3_ := Aside0.mk (below_at hq_ HB.out); clear hq_ HO_0 BK101 HK HB; have HO_0 := n0_; have BK101 := n1_; have HK := n2_; have HB := n3_; clear n0_ n1_ n2_ n3_; (try (have HX10 := Aside0.mk (show Kd.R k36 36 wr w0.heap.size (fun k_ => (P0_ k_ ∨ w.heap.size ≤ k_) ∧ k_ ≠ gb101) (.slice (some ⟨go7, 0, none⟩) x0_1.length co8) x0_1 from (by (with_reducible repeat (first | apply Kd.R_alloc | apply Kd.R_drewN | apply Kd.R_drew)); exact HO_0.out)))); (try (obtain ⟨ce10, hcl10, hM10, hcc10, hfr10⟩ := Kd.R_elem HX10.out z36 (x5_1 : Int) (of_decide_eq_true (by first | (with_reducible assumption) | assumption)) (by have h_ : (x5_1 : Int) < ((x0_1.length : Int) : Int) := of_decide_eq_true (by first | (with_reducible assumption) | assumption); first | exact h_ | (have e_ := (Kd.R_reads' HO_0.out).1; omega) | simpa using h_))); (try (obtain rfl := k36_openM hM10)); (try (have HP10 := Kd.R_seg HX10.out (x5_1 : Int) (of_decide_eq_true (by first | (with_reducible assumption) | assumption)) (by have h_ : (x5_1 : Int) < ((x0_1.length : Int) : Int) := of_decide_eq_true (by first | (with_reducible assumption) | assumption); first | exact h_ | (have e_ := (Kd.R_reads' HO_0.out).1; omega) | simpa using h_) (seg := [.string x102000_1, .string x102001_1, .bool x102002_1]) (j := 0) hcl10 hcc10 (show 3 ≤ 3 from by decide) (x' := (⟨x102000_1, x102001_1, x102002_1⟩ : S36)) (k36_mkM _ _ _ (⟨x102000_1, x102001_1, x102002_1⟩ : S36) ) (fun _ hk => hk))); (try (have hx10_0 := hcc10 0 _ rfl)); (try (try simp only [show (k36).sz = 3 from rfl, Nat.mul_one, Nat.add_zero] at hx10_0)); (try (have hf10_0 := hfr10 0)); (try (try simp only [show (k36).sz = 3 from rfl, Nat.mul_one, Nat.add_zero] at hf10_0)); (try (have hx10_1 := hcc10 1 _ rfl)); (try (try simp only [show (k36).sz = 3 from rfl, Nat.mul_one, Nat.add_zero] at hx10_1)); (try (have hf10_1 := hfr10 1)); (try (try simp only [show (k36).sz = 3 from rfl, Nat.mul_one, Nat.add_zero] at hf10_1)); (try (have hx10_2 := hcc10 2 _ rfl)); (try (try simp only [show (k36).sz = 3 from rfl, Nat.mul_one, Nat.add_zero] at hx10_2)); (try (have hf10_2 := hfr10 2)); (try (try simp only [show (k36).sz = 3 from rfl, Nat.mul_one, Nat.add_zero] at hf10_2)); (try (clear hcl10 hcc10 hfr10 hM10)))); refine store_event (t := 36) (p := 23) (v := ?vo_w11) (w1 := (((wr.setCell ⟨go7, (x5_1 : Int).toNat * 3, none⟩ (.string x102000_1)).setCell ⟨go7, (x5_1 : Int).toNat * 3 + 1, none⟩ (.string x102001_1)).setCell ⟨go7, (x5_1 : Int).toNat * 3 + 2, none⟩ (.bool x102002_1))) ?hg ?ho ?hn ?hr ?_; (case ho => rfl); (case hg => rfl); (case hn => rfl); (case hr => first | (go_simp; done) | (go_simp; rfl)); intro w11 hw; have hg : wr.grownBy w11 (some go7) := (by rw [hw]; exact HP10.2); have hp_ : Kd.R k36 36 w11 w0.heap.size (fun k_ => (P0_ k_ ∨ w.heap.size ≤ k_) ∧ k_ ≠ gb101) (.slice (some ⟨go7, 0, none⟩) x0_1.length co8) y103 := (by rw [hw, Ny103.out]; exact HP10.1); clear HP10; have n0_ := Aside0.mk (hp_); have n1_ := Aside0.mk (blk_grown (g := gb101) (o := .cells #[.string x102000_1, .string x102001_1, .bool x102002_1] 36 (0, 0)) (by (with_reducible repeat (first | refine blk_drewN ?_ _ | refine blk_drew ?_ | refine blk_alloc ?_ _)); exact BK101.out) hg (Kd.R_away HO_0.out (fun _ hk => hk.2))); have n2_ := Aside0.mk ((by rw [hw]; exact below_set (below_set (below_set (HB.out) GB7.out) GB7.out) GB7.out : Below w0.heap.size w0 w11)); have n3_ := Aside0.mk (Kept.of_grown (S := (fun k_ => P0_ k_)) hg (by repeat (first | (with_reducible first | exact HK.out | apply Kept.alloc | apply Kept.drewN | apply Kept.drew | refine Kept.setCell ?_ (.inr GW101.out) _) | exact HK.out)) (fun k_ e_ => (HO_0.out.1 k_ e_).1)); clear HO_0; clear BK101; clear HB; clear HK; have HO_0 := n0_; have BK101 := n1_; have HB := n2_; have HK := n3_; clear n0_ n1_ n2_ n3_; clear hg hw hp_)))
            go_ret
            exact ⟨_, by first | rfl | (simp [errW_none, errW_some] <;> rfl) | (simp [*, errW_none, errW_some] <;> rfl), by (with_reducible repeat (first | apply Kd.R_alloc | apply Kd.R_drewN | apply Kd.R_drew)); exact Kd.R_mono HO_0.out (fun _ hk => hk.1), by repeat (first | (with_reducible first | exact HB.out | apply below_alloc | apply pw_below_drewN | apply below_drew1 | refine below_set ?_ GE101.out) | exact HB.out), by repeat (first | (with_reducible first | exact HK.out | apply Kept.alloc | apply Kept.drewN | apply Kept.drew | refine Kept.setCell ?_ (.inr GW101.out) _) | exact HK.out)⟩
          · rw [if_neg c6] at H
            have c6b0 : (((rd_T36 x0_1 x5_1).f0).toList == x102000_1.toList) = false := beq_eq_false_iff_ne.mpr c6
            have c6b1 : (((rd_T36 x0_1 x5_1).f0).toList != x102000_1.toList) = true := bne_iff_ne.mpr c6
            have H' := Aside0.mk H
            clear H
            obtain ⟨Ao12, co12, eo12⟩ := Kd.R_slice HO_0.out
            subst eo12
            have p102 : 0 ≤ (x5_1 : Int) := of_decide_eq_true (by first | (with_reducible assumption) | assumption)
            have q102 : x5_1 < (x0_1.length : Int) := of_decide_eq_true (by first | (with_reducible assumption) | assumption)
            obtain ⟨ad102, e102, hx102_0, hx102_1, hx102_2⟩ := at_T36 (Kd.R_reads' HO_0.out).2.2 x5_1 p102 q102
            cases e102
            replace p102 := eq_true p102
            replace q102 := eq_true q102
            have hcz13_0 : wr.cell? ⟨gb101, 0, none⟩ = some (.string x102000_1) := (blk_cell BK101.out 0).trans rfl
            have hcz13_1 : wr.cell? ⟨gb101, 1, none⟩ = some (.string x102001_1) := (blk_cell BK101.out 1).trans rfl
            have hcz13_2 : wr.cell? ⟨gb101, 2, none⟩ = some (.bool x102002_1) := (blk_cell BK101.out 2).trans rfl
            have hfz13_0 := blk_frozen BK101.out 0
            have hfz13_1 := blk_frozen BK101.out 1
            have hfz13_2 := blk_frozen BK101.out 2
            go_wp2
            repeat (go_quiet (fail); try go_wp2)
            go_roundg k1
            case measure => have := HK1.out; omega
            case rel => exact ⟨(x0_1), (wrap64 (x5_1 + 1)), (x102000_1), (x102001_1), (x102002_1), (by first | rfl | (simp; done) | (simp [*]; done)), H', ⟨by have := HK1.out; omega⟩, ⟨by (with_reducible repeat (first | apply Kd.R_alloc | apply Kd.R_drewN | apply Kd.R_drew)); exact HO_0.out⟩, ⟨by (with_reducible repeat (first | refine blk_drewN ?_ _ | refine blk_drew ?_ | refine blk_alloc ?_ _)); exact BK101.out⟩, ⟨by repeat (first | (with_reducible first | exact HK.out | apply Kept.alloc | apply Kept.drewN | apply Kept.drew | refine Kept.setCell ?_ (.inr GW101.out) _) | exact HK.out)⟩, ⟨by repeat (first | (with_reducible first | exact HB.out | apply below_alloc | apply pw_below_drewN | apply below_drew1 | refine below_set ?_ GE101.out) | exact HB.out)⟩⟩
        · rw [if_neg c5] at H
          exact absurd H (by simp)
      · rw [if_neg c4] at H
        have c4b0 : decide (x5_1 < (x0_1.length : Int)) = false := decide_eq_false c4
        clear c4
        by_cases c14 : x0_1.length < 3518437208883
        · rw [if_pos c14] at H
          have LMc14 := Aside0.mk c14
          clear c14
          obtain ⟨y104, hy104⟩ : ∃ y_ : List (S36), y_ = (x0_1 ++ [(⟨x102000_1, x102001_1, x102002_1⟩ : S36)]) := ⟨_, rfl⟩
          replace H : (some y104) = some r := by first | (rw [hy104]; with_reducible exact H) | (have H2_ := (Option.bind_some _ _).symm.trans H; rw [hy104]; with_reducible exact H2_) | (have H2_ := (Option.bind_some _ _).symm.trans H; with_reducible exact H2_) | with_reducible exact H | (rw [hy104]; exact H) | exact H
          have Ny104 := Aside0.mk hy104
          clear hy104
          obtain rfl := Option.some.inj H
          obtain ⟨Ao15, co15, eo15⟩ := Kd.R_slice HO_0.out
          subst eo15
          have hcz16_0 : wr.cell? ⟨gb101, 0, none⟩ = some (.string x102000_1) := (blk_cell BK101.out 0).trans rfl
          have hcz16_1 : wr.cell? ⟨gb101, 1, none⟩ = some (.string x102001_1) := (blk_cell BK101.out 1).trans rfl
          have hcz16_2 : wr.cell? ⟨gb101, 2, none⟩ = some (.bool x102002_1) := (blk_cell BK101.out 2).trans rfl
          have hfz16_0 := blk_frozen BK101.out 0
          have hfz16_1 := blk_frozen BK101.out 1
          have hfz16_2 := blk_frozen BK101.out 2
          go_wp2_with (first | ((with_reducible refine gate_builtin (b := .append) (xs := #[.tmp 25, .tmp 27]) rfl ?_); at_builtin; refine Kd.R_append k36 (w0 := w0) w0.heap.size rfl (.tmp 25) (.tmp 27) 30 36 (.agg #[(.string ⟨#[]⟩), (.string ⟨#[]⟩), (.bool false)]) 40 rfl Tryz.underlying30 info36 rfl (by decide) (by omega) (.slice Ao15 x0_1.length co15) x0_1 (⟨x102000_1, x102001_1, x102002_1⟩ : S36) [.string x102000_1, .string x102001_1, .bool x102002_1] (fun k_ => (P0_ k_ ∨ w.heap.size ≤ k_) ∧ k_ ≠ gb101) (fun _ => False) rfl rfl ?aP (fun _ hk => hk.elim) ?aF ?aO ?aB ?aS ?aL ?_; (case aP => exact k36_mkM _ _ _ (⟨x102000_1, x102001_1, x102002_1⟩ : S36)); (case aB => exact (by repeat (first | (with_reducible first | exact HB.out | apply below_alloc | apply pw_below_drewN | apply below_drew1 | refine below_set ?_ GE101.out) | exact HB.out))); (case aF => exact (fun k_ hk => ⟨(.inr (Nat.le_trans (by first | exact HK.out.1 | exact (show Kept w _ (fun k_ => P0_ k_) from by repeat (first | (with_reducible first | exact HK.out | apply Kept.alloc | apply Kept.drewN | apply Kept.drew | refine Kept.setCell ?_ (.inr GW101.out) _) | exact HK.out)).1) hk)), Kd.freshB (g := gb101) (o := .cells #[.string x102000_1, .string x102001_1, .bool x102002_1] 36 (0, 0)) (by (with_reducible repeat (first | refine blk_drewN ?_ _ | refine blk_drew ?_ | refine blk_alloc ?_ _)); exact BK101.out) k_ hk⟩)); (case aO => exact (by (with_reducible repeat (first | apply Kd.R_alloc | apply Kd.R_drewN | apply Kd.R_drew)); exact HO_0.out)); (case aS => exact (below_size (by repeat (first | (with_reducible first | exact HB.out | apply below_alloc | apply pw_below_drewN | apply below_drew1 | refine below_set ?_ GE101.out) | exact HB.out)))); (case aL => have := LMc14.out; omega); intro v105 w17 ho hb hg hat; rw [← Ny104.out] at ho; have n0_ := Aside0.mk (blk_grown (g := gb101) (o := .cells #[.string x102000_1, .string x102001_1, .bool x102002_1] 36 (0, 0)) (by (with_reducible repeat (first | refine blk_drewN ?_ _ | refine blk_drew ?_ | refine blk_alloc ?_ _)); exact BK101.out) hg (Kd.R_away HO_0.out (fun _ hk => hk.2))); have n1_ := Aside0.mk (hb); have n2_ := Aside0.mk (Kept.of_grown (S := (fun k_ => P0_ k_)) hg (by repeat (first | (with_reducible first | exact HK.out | apply Kept.alloc | apply Kept.drewN | apply Kept.drew | refine Kept.setCell ?_ (.inr GW101.out) _) | exact HK.out)) (fun k_ e_ => (HO_0.out.1 k_ e_).1)); have n3_ := Aside0.mk (ho); clear BK101; clear HB; clear HK; clear HO_0; have BK101 := n0_; have HB := n1_; have HK := n2_; have HO106 := n3_; clear n0_ n1_ n2_ n3_; clear ho hb hg hat))
          repeat (go_quiet (first | ((with_reducible refine gate_builtin (b := .append) (xs := #[.tmp 25, .tmp 27]) rfl ?_); at_builtin; refine Kd.R_append k36 (w0 := w0) w0.heap.size rfl (.tmp 25) (.tmp 27) 30 36 (.agg #[(.string ⟨#[]⟩), (.string ⟨#[]⟩), (.bool false)]) 40 rfl Tryz.underlying30 info36 rfl (by decide) (by omega) (.slice Ao15 x0_1.length co15) x0_1 (⟨x102000_1, x102001_1, x102002_1⟩ : S36) [.string x102000_1, .string x102001_1, .bool x102002_1] (fun k_ => (P0_ k_ ∨ w.heap.size ≤ k_) ∧ k_ ≠ gb101) (fun _ => False) rfl rfl ?aP (fun _ hk => hk.elim) ?aF ?aO ?aB ?aS ?aL ?_; (case aP => exact k36_mkM _ _ _ (⟨x102000_1, x102001_1, x102002_1⟩ : S36)); (case aB => exact (by repeat (first | (with_reducible first | exact HB.out | apply below_alloc | apply pw_below_drewN | apply below_drew1 | refine below_set ?_ GE101.out) | exact HB.out))); (case aF => exact (fun k_ hk => ⟨(.inr (Nat.le_trans (by first | exact HK.out.1 | exact (show Kept w _ (fun k_ => P0_ k_) from by repeat (first | (with_reducible first | exact HK.out | apply Kept.alloc | apply Kept.drewN | apply Kept.drew | refine Kept.setCell ?_ (.inr GW101.out) _) | exact HK.out)).1) hk)), Kd.freshB (g := gb101) (o := .cells #[.string x102000_1, .string x102001_1, .bool x102002_1] 36 (0, 0)) (by (with_reducible repeat (first | refine blk_drewN ?_ _ | refine blk_drew ?_ | refine blk_alloc ?_ _)); exact BK101.out) k_ hk⟩)); (case aO => exact (by (with_reducible repeat (first | apply Kd.R_alloc | apply Kd.R_drewN | apply Kd.R_drew)); exact HO_0.out)); (case aS => exact (below_size (by repeat (first | (with_reducible first | exact HB.out | apply below_alloc | apply pw_below_drewN | apply below_drew1 | refine below_set ?_ GE101.out) | exact HB.out)))); (case aL => have := LMc14.out; omega); intro v105 w17 ho hb hg hat; rw [← Ny104.out] at ho; have n0_ := Aside0.mk (blk_grown (g := gb101) (o := .cells #[.string x102000_1, .string x102001_1, .bool x102002_1] 36 (0, 0)) (by (with_reducible repeat (first | refine blk_drewN ?_ _ | refine blk_drew ?_ | refine blk_alloc ?_ _)); exact BK101.out) hg (Kd.R_away HO_0.out (fun _ hk => hk.2))); have n1_ := Aside0.mk (hb); have n2_ := Aside0.mk (Kept.of_grown (S := (fun k_ => P0_ k_)) hg (by repeat (first | (with_reducible first | exact HK.out | apply Kept.alloc | apply Kept.drewN | apply Kept.drew | refine Kept.setCell ?_ (.inr GW101.out) _) | exact HK.out)) (fun k_ e_ => (HO_0.out.1 k_ e_).1)); have n3_ := Aside0.mk (ho); clear BK101; clear HB; clear HK; clear HO_0; have BK101 := n0_; have HB := n1_; have HK := n2_; have HO106 := n3_; clear n0_ n1_ n2_ n3_; clear ho hb hg hat)); try go_wp2_with (first | ((with_reducible refine gate_builtin (b := .append) (xs := #[.tmp 25, .tmp 27]) rfl ?_); at_builtin; refine Kd.R_append k36 (w0 := w0) w0.heap.size rfl (.tmp 25) (.tmp 27) 30 36 (.agg #[(.string ⟨#[]⟩), (.string ⟨#[]⟩), (.bool false)]) 40 rfl Tryz.underlying30 info36 rfl (by decide) (by omega) (.slice Ao15 x0_1.length co15) x0_1 (⟨x102000_1, x102001_1, x102002_1⟩ : S36) [.string x102000_1, .string x102001_1, .bool x102002_1] (fun k_ => (P0_ k_ ∨ w.heap.size ≤ k_) ∧ k_ ≠ gb101) (fun _ => False) rfl rfl ?aP (fun _ hk => hk.elim) ?aF ?aO ?aB ?aS ?aL ?_; (case aP => exact k36_mkM _ _ _ (⟨x102000_1, x102001_1, x102002_1⟩ : S36)); (case aB => exact (by repeat (first | (with_reducible first | exact HB.out | apply below_alloc | apply pw_below_drewN | apply below_drew1 | refine below_set ?_ GE101.out) | exact HB.out))); (case aF => exact (fun k_ hk => ⟨(.inr (Nat.le_trans (by first | exact HK.out.1 | exact (show Kept w _ (fun k_ => P0_ k_) from by repeat (first | (with_reducible first | exact HK.out | apply Kept.alloc | apply Kept.drewN | apply Kept.drew | refine Kept.setCell ?_ (.inr GW101.out) _) | exact HK.out)).1) hk)), Kd.freshB (g := gb101) (o := .cells #[.string x102000_1, .string x102001_1, .bool x102002_1] 36 (0, 0)) (by (with_reducible repeat (first | refine blk_drewN ?_ _ | refine blk_drew ?_ | refine blk_alloc ?_ _)); exact BK101.out) k_ hk⟩)); (case aO => exact (by (with_reducible repeat (first | apply Kd.R_alloc | apply Kd.R_drewN | apply Kd.R_drew)); exact HO_0.out)); (case aS => exact (below_size (by repeat (first | (with_reducible first | exact HB.out | apply below_alloc | apply pw_below_drewN | apply below_drew1 | refine below_set ?_ GE101.out) | exact HB.out)))); (case aL => have := LMc14.out; omega); intro v105 w17 ho hb hg hat; rw [← Ny104.out] at ho; have n0_ := Aside0.mk (blk_grown (g := gb101) (o := .cells #[.string x102000_1, .string x102001_1, .bool x102002_1] 36 (0, 0)) (by (with_reducible repeat (first | refine blk_drewN ?_ _ | refine blk_drew ?_ | refine blk_alloc ?_ _)); exact BK101.out) hg (Kd.R_away HO_0.out (fun _ hk => hk.2))); have n1_ := Aside0.mk (hb); have n2_ := Aside0.mk (Kept.of_grown (S := (fun k_ => P0_ k_)) hg (by repeat (first | (with_reducible first | exact HK.out | apply Kept.alloc | apply Kept.drewN | apply Kept.drew | refine Kept.setCell ?_ (.inr GW101.out) _) | exact HK.out)) (fun k_ e_ => (HO_0.out.1 k_ e_).1)); have n3_ := Aside0.mk (ho); clear BK101; clear HB; clear HK; clear HO_0; have BK101 := n0_; have HB := n1_; have HK := n2_; have HO106 := n3_; clear n0_ n1_ n2_ n3_; clear ho hb hg hat)))
          go_ret
          exact ⟨_, by first | rfl | (simp [errW_none, errW_some] <;> rfl) | (simp [*, errW_none, errW_some] <;> rfl), by (with_reducible repeat (first | apply Kd.R_alloc | apply Kd.R_drewN | apply Kd.R_drew)); exact Kd.R_mono HO106.out (fun _ hk => hk.1), by repeat (first | (with_reducible first | exact HB.out | apply below_alloc | apply pw_below_drewN | apply below_drew1 | refine below_set ?_ GE101.out) | exact HB.out), by repeat (first | (with_reducible first | exact HK.out | apply Kept.alloc | apply Kept.drewN | apply Kept.drew | refine Kept.setCell ?_ (.inr GW101.out) _) | exact HK.out)⟩
        · rw [if_neg c14] at H
          exact absurd H (by simp)

/-! ### spec_Params: function 9 -/
mutual
def spec_Params.l0 : Nat → ByteArray → List (S36) → Int → Option ((List (S36)) × Bool)
  | 0, _, _, _ => none
  | k + 1, x0, x2, x4 => if x4 < (x0.size : Int) then (if 0 ≤ x4 then (if (bt x0 x4) = 32 then (spec_Params.l0 k x0 x2 (wrap64 (x4 + 1))) else (spec_Params.l1 k x0 x2 x4 x4)) else (none)) else (some (x2, true))
def spec_Params.j2 : Nat → ByteArray → List (S36) → Int → Int → Option ((List (S36)) × Bool)
  | 0, _, _, _, _ => none
  | k + 1, x0, x2, x4, x5 => if 0 ≤ x5 then (if x5 ≤ x4 then (if x4 ≤ (x0.size : Int) then ((Own.spec_Upper.f (x0.extract (x5 : Int).toNat (x4 : Int).toNat)).bind fun t107 => (spec_Params.l2 k x0 x2 x4 x5 x5 t107 (⟨#[]⟩ : ByteArray) false)) else (none)) else (none)) else (none)
def spec_Params.l2 : Nat → ByteArray → List (S36) → Int → Int → Int → ByteArray → ByteArray → Bool → Option ((List (S36)) × Bool)
  | 0, _, _, _, _, _, _, _, _ => none
  | k + 1, x0, x2, x4, x5, x7, x109000, x109001, x109002 => if x7 < x4 then (if 0 ≤ x7 then (if x7 < (x0.size : Int) then (if (bt x0 x7) = 61 then (if x109002 = true then (some (([] : List (S36)), false)) else (if 0 ≤ x5 then (if x5 ≤ x7 then (if x7 ≤ (x0.size : Int) then ((Own.spec_Upper.f (x0.extract (x5 : Int).toNat (x7 : Int).toNat)).bind fun t112 => (if 0 ≤ (wrap64 (x7 + 1)) then (if (wrap64 (x7 + 1)) ≤ x4 then (if x4 ≤ (x0.size : Int) then (spec_Params.l2 k x0 x2 x4 x5 (wrap64 (x7 + 1)) t112 (x0.extract ((wrap64 (x7 + 1)) : Int).toNat (x4 : Int).toNat) true) else (none)) else (none)) else (none))) else (none)) else (none)) else (none))) else (spec_Params.l2 k x0 x2 x4 x5 (wrap64 (x7 + 1)) x109000 x109001 x109002)) else (none)) else (none)) else ((spec_put.f k x2 x109000 x109001 x109002).bind fun t109 => (spec_Params.l0 k x0 t109 x4))
def spec_Params.l1 : Nat → ByteArray → List (S36) → Int → Int → Option ((List (S36)) × Bool)
  | 0, _, _, _, _ => none
  | k + 1, x0, x2, x4, x5 => if x4 < (x0.size : Int) then (if 0 ≤ x4 then (if (bt x0 x4) = 32 then (spec_Params.j2 k x0 x2 x4 x5) else (spec_Params.l1 k x0 x2 (wrap64 (x4 + 1)) x5)) else (none)) else (spec_Params.j2 k x0 x2 x4 x5)
end
def spec_Params.f (k : Nat) (a0 : ByteArray) : Option ((List (S36)) × Bool) := spec_Params.l0 k a0 ([] : List (S36)) 0
theorem spec_Params.mono_l : ∀ k, (∀ y0 y1 y2, LeO (spec_Params.l0 k y0 y1 y2) (spec_Params.l0 (k + 1) y0 y1 y2)) ∧ (∀ y0 y1 y2 y3, LeO (spec_Params.j2 k y0 y1 y2 y3) (spec_Params.j2 (k + 1) y0 y1 y2 y3)) ∧ (∀ y0 y1 y2 y3 y4 y5 y6 y7, LeO (spec_Params.l2 k y0 y1 y2 y3 y4 y5 y6 y7) (spec_Params.l2 (k + 1) y0 y1 y2 y3 y4 y5 y6 y7)) ∧ (∀ y0 y1 y2 y3, LeO (spec_Params.l1 k y0 y1 y2 y3) (spec_Params.l1 (k + 1) y0 y1 y2 y3))
  | 0 => ⟨fun _ _ _ r h => by simp [spec_Params.l0] at h, fun _ _ _ _ r h => by simp [spec_Params.j2] at h, fun _ _ _ _ _ _ _ _ r h => by simp [spec_Params.l2] at h, fun _ _ _ _ r h => by simp [spec_Params.l1] at h⟩
  | k + 1 => by
    obtain ⟨ih0, ih1, ih2, ih3⟩ := spec_Params.mono_l k
    refine ⟨?_, ?_, ?_, ?_⟩
    · intro y0 y1 y2
      unfold spec_Params.l0
      repeat' first
      | (with_reducible exact ih0 _ _ _)
      | (with_reducible exact ih1 _ _ _ _)
      | (with_reducible exact ih2 _ _ _ _ _ _ _ _)
      | (with_reducible exact ih3 _ _ _ _)
      | (with_reducible exact spec_put.mono _ _ _ _ _)
      | (with_reducible exact LeO.refl _)
      | (with_reducible exact LeO.none _)
      | (with_reducible refine LeO.ite ?_ ?_)
      | (with_reducible refine LeO.bind ?_ (fun _ => ?_))
      | exact ih0 _ _ _
      | exact ih1 _ _ _ _
      | exact ih2 _ _ _ _ _ _ _ _
      | exact ih3 _ _ _ _
      | exact spec_put.mono _ _ _ _ _
      | exact LeO.none _
      | refine LeO.ite ?_ ?_
      | refine LeO.bind ?_ (fun _ => ?_)
    · intro y0 y1 y2 y3
      unfold spec_Params.j2
      repeat' first
      | (with_reducible exact ih0 _ _ _)
      | (with_reducible exact ih1 _ _ _ _)
      | (with_reducible exact ih2 _ _ _ _ _ _ _ _)
      | (with_reducible exact ih3 _ _ _ _)
      | (with_reducible exact spec_put.mono _ _ _ _ _)
      | (with_reducible exact LeO.refl _)
      | (with_reducible exact LeO.none _)
      | (with_reducible refine LeO.ite ?_ ?_)
      | (with_reducible refine LeO.bind ?_ (fun _ => ?_))
      | exact ih0 _ _ _
      | exact ih1 _ _ _ _
      | exact ih2 _ _ _ _ _ _ _ _
      | exact ih3 _ _ _ _
      | exact spec_put.mono _ _ _ _ _
      | exact LeO.none _
      | refine LeO.ite ?_ ?_
      | refine LeO.bind ?_ (fun _ => ?_)
    · intro y0 y1 y2 y3 y4 y5 y6 y7
      unfold spec_Params.l2
      repeat' first
      | (with_reducible exact ih0 _ _ _)
      | (with_reducible exact ih1 _ _ _ _)
      | (with_reducible exact ih2 _ _ _ _ _ _ _ _)
      | (with_reducible exact ih3 _ _ _ _)
      | (with_reducible exact spec_put.mono _ _ _ _ _)
      | (with_reducible exact LeO.refl _)
      | (with_reducible exact LeO.none _)
      | (with_reducible refine LeO.ite ?_ ?_)
      | (with_reducible refine LeO.bind ?_ (fun _ => ?_))
      | exact ih0 _ _ _
      | exact ih1 _ _ _ _
      | exact ih2 _ _ _ _ _ _ _ _
      | exact ih3 _ _ _ _
      | exact spec_put.mono _ _ _ _ _
      | exact LeO.none _
      | refine LeO.ite ?_ ?_
      | refine LeO.bind ?_ (fun _ => ?_)
    · intro y0 y1 y2 y3
      unfold spec_Params.l1
      repeat' first
      | (with_reducible exact ih0 _ _ _)
      | (with_reducible exact ih1 _ _ _ _)
      | (with_reducible exact ih2 _ _ _ _ _ _ _ _)
      | (with_reducible exact ih3 _ _ _ _)
      | (with_reducible exact spec_put.mono _ _ _ _ _)
      | (with_reducible exact LeO.refl _)
      | (with_reducible exact LeO.none _)
      | (with_reducible refine LeO.ite ?_ ?_)
      | (with_reducible refine LeO.bind ?_ (fun _ => ?_))
      | exact ih0 _ _ _
      | exact ih1 _ _ _ _
      | exact ih2 _ _ _ _ _ _ _ _
      | exact ih3 _ _ _ _
      | exact spec_put.mono _ _ _ _ _
      | exact LeO.none _
      | refine LeO.ite ?_ ?_
      | refine LeO.bind ?_ (fun _ => ?_)
theorem spec_Params.mono : ∀ a0 k, LeO (spec_Params.f k a0) (spec_Params.f (k + 1) a0) := by
  intro a0 k
  obtain ⟨ih0, ih1, ih2, ih3⟩ := spec_Params.mono_l k
  unfold spec_Params.f
  repeat' first
      | (with_reducible exact ih0 _ _ _)
      | (with_reducible exact ih1 _ _ _ _)
      | (with_reducible exact ih2 _ _ _ _ _ _ _ _)
      | (with_reducible exact ih3 _ _ _ _)
      | (with_reducible exact spec_put.mono _ _ _ _ _)
      | (with_reducible exact LeO.refl _)
      | (with_reducible exact LeO.none _)
      | (with_reducible refine LeO.ite ?_ ?_)
      | (with_reducible refine LeO.bind ?_ (fun _ => ?_))
      | exact ih0 _ _ _
      | exact ih1 _ _ _ _
      | exact ih2 _ _ _ _ _ _ _ _
      | exact ih3 _ _ _ _
      | exact spec_put.mono _ _ _ _ _
      | exact LeO.none _
      | refine LeO.ite ?_ ?_
      | refine LeO.bind ?_ (fun _ => ?_)
def spec_Params.T15 : Bool × List (List Nat × List Nat) := (true, [([], []), ([], []), ([], []), ([0, 1, 2], [0, 1, 2]), ([3], [3]), ([], []), ([], []), ([6], [6]), ([], []), ([5, 7, 8], [5, 7, 8]), ([4, 9], [4, 9]), ([10, 4, 0, 1, 2, 3, 4, 5, 6, 7, 8, 9, 10], [10])])
def spec_Params.B15 : List Nat := [0, 0, 0, 7, 15, 0, 0, 64, 0, 480, 1023, 2047]
theorem spec_Params.tab15 : rtab .any (opsOf Tryz.f9 15) = spec_Params.T15 := by kernel_rfl
theorem spec_Params.bits15 : waitsOk spec_Params.T15.2 spec_Params.B15 = true := by kernel_rfl
set_option maxHeartbeats 8000000 in
set_option maxRecDepth 100000 in
theorem spec_Params.calls (k : Nat) (a0 : ByteArray) (r1 : List (S36)) (r2 : Bool) (w : World) (h : spec_Params.f k a0 = some (r1, r2)) :
    Calls Tryz.prog 9 #[.string a0] w fun e w' => ∃ v0_ : Value, e = .returned (.tuple #[v0_, .bool r2]) ∧ Kd.R k36 36 w' w.heap.size (fun _ => True) v0_ r1 ∧ Below w.heap.size w w' := by
  have hu36 := Tryz.underlying36
  have HB := Aside0.mk (Below.refl w.heap.size w)
  have H : (spec_Params.l0 k a0 ([] : List (S36)) 0) = some (r1, r2) := h
  clear h
  have H' := Aside0.mk H
  clear H
  go_enter Tryz.func9, Tryz.ntmps9
  go_wp2
  go_loopg [2, 4] k (fun kq v2 v4 w' => ∃ (x2_1 : List (S36)) (x4_1 : Int), v4 = .int .i64 x4_1 ∧ Aside0 (spec_Params.l0 kq a0 x2_1 x4_1 = some (r1, r2)) ∧ Aside0 (kq ≤ k) ∧ Aside0 (Kd.R k36 36 w' w.heap.size (fun _ => True) v2 x2_1) ∧ Aside0 (Below w.heap.size w w'))
  case atStart => exact ⟨(([] : List (S36))), (0), (by first | rfl | (simp; done) | (simp [*]; done)), H', ⟨Nat.le_refl _⟩, ⟨by first | exact Kd.R_nil _ _ _ _ _ | exact Kd.N_nil _ _ _ _ _ | exact Kd.V_nil _ _ _ _ _ | exact Kd.Q_nil _ _ _ _ _ | exact Kd.S_nil _ _ _ _ _⟩, ⟨by repeat (first | (with_reducible first | exact HB.out | apply below_alloc | apply pw_below_drewN | apply below_drew1) | exact HB.out)⟩⟩
  case round =>
    clear H'
    obtain ⟨x2_1, x4_1, rfl, HA, HK1, HO_2, HB⟩ := hrel
    cases gk with
    | zero => exact absurd HA.out (by simp [spec_Params.l0])
    | succ k1 =>
      have H := HA.out
      clear HA
      simp only [spec_Params.l0] at H
      by_cases c2 : x4_1 < (a0.size : Int)
      · rw [if_pos c2] at H
        have c2b0 : decide (x4_1 < (a0.size : Int)) = true := decide_eq_true c2
        clear c2
        by_cases c3 : 0 ≤ x4_1
        · rw [if_pos c3] at H
          have c3b0 : decide (0 ≤ x4_1) = true := decide_eq_true c3
          clear c3
          by_cases c5 : (bt a0 x4_1) = 32
          · rw [if_pos c5] at H
            have c5b0 : ((bt a0 x4_1) == 32) = true := beq_iff_eq.mpr c5
            have c5b1 : ((bt a0 x4_1) != 32) = false := bne_eq_false_iff_eq.mpr c5
            clear c5
            have H' := Aside0.mk H
            clear H
            have p4 : 0 ≤ (x4_1 : Int) := of_decide_eq_true (by first | (with_reducible assumption) | assumption)
            have q4 : x4_1 < (a0.size : Int) := of_decide_eq_true (by first | (with_reducible assumption) | assumption)
            have hx4 := bt_at a0 x4_1
            replace p4 := eq_true p4
            replace q4 := eq_true q4
            go_wp2
            go_roundg k1
            case measure => have := HK1.out; omega
            case rel => exact ⟨(x2_1), (wrap64 (x4_1 + 1)), (by first | rfl | (simp; done) | (simp [*]; done)), H', ⟨by have := HK1.out; omega⟩, ⟨by (with_reducible repeat (first | apply Kd.R_alloc | apply Kd.R_drewN | apply Kd.R_drew)); exact HO_2.out⟩, ⟨by repeat (first | (with_reducible first | exact HB.out | apply below_alloc | apply pw_below_drewN | apply below_drew1) | exact HB.out)⟩⟩
          · rw [if_neg c5] at H
            have c5b0 : ((bt a0 x4_1) == 32) = false := beq_eq_false_iff_ne.mpr c5
            have c5b1 : ((bt a0 x4_1) != 32) = true := bne_iff_ne.mpr c5
            have HC6 := Aside0.mk H
            clear H
            have p4 : 0 ≤ (x4_1 : Int) := of_decide_eq_true (by first | (with_reducible assumption) | assumption)
            have q4 : x4_1 < (a0.size : Int) := of_decide_eq_true (by first | (with_reducible assumption) | assumption)
            have hx4 := bt_at a0 x4_1
            replace p4 := eq_true p4
            replace q4 := eq_true q4
            go_upto_block 2 with (fail)
            go_cut [4] (fun v4 wc => ∃ (kq : Nat) (x4_5 : Int), v4 = .int .i64 x4_5 ∧ Aside0 (spec_Params.j2 kq a0 x2_1 x4_5 x4_1 = some (r1, r2)) ∧ Aside0 (kq ≤ k1) ∧ Aside0 (Kd.R k36 36 wc w.heap.size (fun _ => True) u2 x2_1) ∧ Aside0 (Below w.heap.size w wc))
            case first =>
              have H := HC6.out
              clear HC6
              have H' := Aside0.mk H
              clear H
              go_wp2
              go_loopg [4] k1 (fun kq v4 w' => ∃ (x4_2 : Int), v4 = .int .i64 x4_2 ∧ Aside0 (spec_Params.l1 kq a0 x2_1 x4_2 x4_1 = some (r1, r2)) ∧ Aside0 (kq ≤ k1) ∧ Aside0 (Kd.R k36 36 w' w.heap.size (fun _ => True) u2 x2_1) ∧ Aside0 (Below w.heap.size w w'))
              case atStart => exact ⟨(x4_1), (by first | rfl | (simp; done) | (simp [*]; done)), H', ⟨Nat.le_refl _⟩, ⟨by (with_reducible repeat (first | apply Kd.R_alloc | apply Kd.R_drewN | apply Kd.R_drew)); exact HO_2.out⟩, ⟨by repeat (first | (with_reducible first | exact HB.out | apply below_alloc | apply pw_below_drewN | apply below_drew1) | exact HB.out)⟩⟩
              case round =>
                clear H'
                try clear c2
                try clear c2b0
                try clear p2
                try clear c3
                try clear c3b0
                try clear p4
                try clear q4
                try clear hx4
                try clear c5
                try clear c5b0
                try clear c5b1
                try clear p6
                try clear p4
                try clear q4
                obtain ⟨x4_2, rfl, HA, HK2, HO_2, HB⟩ := hrel
                cases gk with
                | zero => exact absurd HA.out (by simp [spec_Params.l1])
                | succ k2 =>
                  have H := HA.out
                  clear HA
                  simp only [spec_Params.l1] at H
                  by_cases c7 : x4_2 < (a0.size : Int)
                  · rw [if_pos c7] at H
                    have c7b0 : decide (x4_2 < (a0.size : Int)) = true := decide_eq_true c7
                    clear c7
                    (first | rw [c7b0] | (simp only [i64_w, i32_w]; rw [c7b0]) | skip)
                    by_cases c8 : 0 ≤ x4_2
                    · rw [if_pos c8] at H
                      have c8b0 : decide (0 ≤ x4_2) = true := decide_eq_true c8
                      clear c8
                      by_cases c10 : (bt a0 x4_2) = 32
                      · rw [if_pos c10] at H
                        have c10b0 : ((bt a0 x4_2) == 32) = true := beq_iff_eq.mpr c10
                        have c10b1 : ((bt a0 x4_2) != 32) = false := bne_eq_false_iff_eq.mpr c10
                        clear c10
                        have H' := Aside0.mk H
                        clear H
                        have p9 : 0 ≤ (x4_2 : Int) := of_decide_eq_true (by first | (with_reducible assumption) | assumption)
                        have q9 : x4_2 < (a0.size : Int) := of_decide_eq_true (by first | (with_reducible assumption) | assumption)
                        have hx9 := bt_at a0 x4_2
                        replace p9 := eq_true p9
                        replace q9 := eq_true q9
                        go_wp2
                        go_meet
                        case rel => exact ⟨_, (x4_2), (by first | rfl | (simp; done) | (simp [*]; done)), H', ⟨by have := HK1.out; have := HK2.out; first | omega | exact Nat.le_refl _⟩, ⟨by (with_reducible repeat (first | apply Kd.R_alloc | apply Kd.R_drewN | apply Kd.R_drew)); exact HO_2.out⟩, ⟨by repeat (first | (with_reducible first | exact HB.out | apply below_alloc | apply pw_below_drewN | apply below_drew1) | exact HB.out)⟩⟩
                      · rw [if_neg c10] at H
                        have c10b0 : ((bt a0 x4_2) == 32) = false := beq_eq_false_iff_ne.mpr c10
                        have c10b1 : ((bt a0 x4_2) != 32) = true := bne_iff_ne.mpr c10
                        have H' := Aside0.mk H
                        clear H
                        have p9 : 0 ≤ (x4_2 : Int) := of_decide_eq_true (by first | (with_reducible assumption) | assumption)
                        have q9 : x4_2 < (a0.size : Int) := of_decide_eq_true (by first | (with_reducible assumption) | assumption)
                        have hx9 := bt_at a0 x4_2
                        replace p9 := eq_true p9
                        replace q9 := eq_true q9
                        go_wp2
                        go_roundg k2
                        case measure => have := HK1.out; have := HK2.out; omega
                        case rel => exact ⟨(wrap64 (x4_2 + 1)), (by first | rfl | (simp; done) | (simp [*]; done)), H', ⟨by have := HK1.out; have := HK2.out; omega⟩, ⟨by (with_reducible repeat (first | apply Kd.R_alloc | apply Kd.R_drewN | apply Kd.R_drew)); exact HO_2.out⟩, ⟨by repeat (first | (with_reducible first | exact HB.out | apply below_alloc | apply pw_below_drewN | apply below_drew1) | exact HB.out)⟩⟩
                    · rw [if_neg c8] at H
                      exact absurd H (by simp)
                  · rw [if_neg c7] at H
                    have c7b0 : decide (x4_2 < (a0.size : Int)) = false := decide_eq_false c7
                    clear c7
                    (first | rw [c7b0] | (simp only [i64_w, i32_w]; rw [c7b0]) | skip)
                    have H' := Aside0.mk H
                    clear H
                    go_wp2
                    go_meet
                    case rel => exact ⟨_, (x4_2), (by first | rfl | (simp; done) | (simp [*]; done)), H', ⟨by have := HK1.out; have := HK2.out; first | omega | exact Nat.le_refl _⟩, ⟨by (with_reducible repeat (first | apply Kd.R_alloc | apply Kd.R_drewN | apply Kd.R_drew)); exact HO_2.out⟩, ⟨by repeat (first | (with_reducible first | exact HB.out | apply below_alloc | apply pw_below_drewN | apply below_drew1) | exact HB.out)⟩⟩
            case rest =>
              clear HC6
              try clear c1
              try clear c2
              try clear c2b0
              try clear p2
              try clear c3
              try clear c3b0
              try clear p4
              try clear q4
              try clear hx4
              try clear c5
              try clear c5b0
              try clear c5b1
              try clear p6
              try clear c7
              try clear c7b0
              try clear c8
              try clear c8b0
              try clear c9
              try clear p9
              try clear q9
              try clear hx9
              try clear c10
              try clear c10b0
              try clear c10b1
              try clear p2
              try clear p4
              try clear p6
              try clear p9
              try clear q4
              try clear q9
              obtain ⟨kq, x4_5, rfl, HA, HJ5, HO_2, HB⟩ := hcut
              cases kq with
              | zero => exact absurd HA.out (by simp [spec_Params.j2])
              | succ kj5 =>
                have H := HA.out
                clear HA
                simp only [spec_Params.j2] at H
                by_cases c11 : 0 ≤ x4_1
                · rw [if_pos c11] at H
                  have c11b0 := eq_true c11
                  have c11b1 : decide (0 ≤ x4_1) = true := decide_eq_true c11
                  clear c11
                  by_cases c12 : x4_1 ≤ x4_5
                  · rw [if_pos c12] at H
                    have c12b0 := eq_true c12
                    have c12b1 : decide (x4_1 ≤ x4_5) = true := decide_eq_true c12
                    clear c12
                    by_cases c13 : x4_5 ≤ (a0.size : Int)
                    · rw [if_pos c13] at H
                      have c13b0 := eq_true c13
                      have c13b1 : decide (x4_5 ≤ (a0.size : Int)) = true := decide_eq_true c13
                      clear c13
                      replace H := Option.bind_eq_some_iff.mp H
                      obtain ⟨t107, A140, H⟩ := H
                      replace H : (spec_Params.l2 kj5 a0 x2_1 x4_5 x4_1 x4_1 t107 (⟨#[]⟩ : ByteArray) false) = some (r1, r2) := H
                      have A14 := Aside0.mk A140
                      clear A140
                      have H' := Aside0.mk H
                      clear H
                      go_wp2_with (first | ((with_reducible refine gate_callee (f := 11) rfl ?_); refine goesL_ (some 35) rfl rfl Tryz.func11 (by kernel_rfl) rfl #[.string (a0.extract (x4_1 : Int).toNat (x4_5 : Int).toNat)] rfl (by (try simp only [List.map_toArray, List.map_cons, List.map_nil]); first | done | rfl | (simp only [List.length_drop, List.length_take]; rfl)) ?_; (with_reducible refine (Own.spec_Upper.calls (a0.extract (x4_1 : Int).toNat (x4_5 : Int).toNat) t107 _ A14.out).mono ?_); rintro e w15 ⟨rfl, hb⟩; refine ⟨_, rfl, ?_⟩; have n0_ := Aside0.mk (Kd.R_below (by (with_reducible repeat (first | apply Kd.R_alloc | apply Kd.R_drewN | apply Kd.R_drew)); exact HO_2.out) hb); have n1_ := Aside0.mk (below_step (by repeat (first | (with_reducible first | exact HB.out | apply below_alloc | apply pw_below_drewN | apply below_drew1) | exact HB.out)) hb); clear HO_2; clear HB; have HO_2 := n0_; have HB := n1_; clear n0_ n1_; (try clear hb); (try clear hb2); (try clear hk); (try clear hi)) | ((with_reducible refine gate_dst (N := 6) rfl ?_); refine box_event ?hg (N := 6) ?hd (cs := #[.string (⟨#[]⟩ : ByteArray), .string (⟨#[]⟩ : ByteArray), .bool false]) (t := 36) ?hr ?_; (case hd => rfl); (case hg => rfl); (case hr => first | (go_simp; done) | (go_simp; rfl)); intro gb108 hg w16 hbox hb; have n0_ := Aside0.mk (Kd.R_below (Kd.R_elderB (by (with_reducible repeat (first | apply Kd.R_alloc | apply Kd.R_drewN | apply Kd.R_drew)); exact HO_2.out) gb108 (Nat.le_of_eq hg.symm)) hb); have n1_ := Aside0.mk (below_step (by repeat (first | (with_reducible first | exact HB.out | apply below_alloc | apply pw_below_drewN | apply below_drew1) | exact HB.out)) hb); have n2_ := Aside0.mk (hbox); have n3_ := Aside0.mk ((by rw [hg]; exact (below_size (by repeat (first | (with_reducible first | exact HB.out | apply below_alloc | apply pw_below_drewN | apply below_drew1) | exact HB.out))) : w.heap.size ≤ gb108)); have n4_ := Aside0.mk ((by rw [hg]; exact (below_size (by repeat (first | (with_reducible first | exact HB.out | apply below_alloc | apply pw_below_drewN | apply below_drew1) | exact HB.out))) : w.heap.size ≤ gb108)); clear HO_2; clear HB; have HO_2 := n0_; have HB := n1_; have BK108 := n2_; have GW108 := n3_; have GE108 := n4_; clear n0_ n1_ n2_ n3_ n4_; clear hb hbox hg; have hcz17_0 : w16.cell? ⟨gb108, 0, none⟩ = some (.string (⟨#[]⟩ : ByteArray)) := (blk_cell BK108.out 0).trans rfl; have hcz17_1 : w16.cell? ⟨gb108, 1, none⟩ = some (.string (⟨#[]⟩ : ByteArray)) := (blk_cell BK108.out 1).trans rfl; have hcz17_2 : w16.cell? ⟨gb108, 2, none⟩ = some (.bool false) := (blk_cell BK108.out 2).trans rfl; have hfz17_0 := blk_frozen BK108.out 0; have hfz17_1 := blk_frozen BK108.out 1; have hfz17_2 := blk_frozen BK108.out 2))
                      go_loopg [2, 7] kj5 (fun kq v2 v7 w' => ∃ (x2_3 : List (S36)) (x7_3 : Int) (x109000_3 : ByteArray) (x109001_3 : ByteArray) (x109002_3 : Bool), v7 = .int .i64 x7_3 ∧ Aside0 (spec_Params.l2 kq a0 x2_3 x4_5 x4_1 x7_3 x109000_3 x109001_3 x109002_3 = some (r1, r2)) ∧ Aside0 (kq ≤ kj5) ∧ Aside0 (Kd.R k36 36 w' w.heap.size (fun k_ => k_ ≠ gb108) v2 x2_3) ∧ Aside0 (w'.heap[gb108]? = some (.cells #[.string x109000_3, .string x109001_3, .bool x109002_3] 36 (0, 0))) ∧ Aside0 (Below w.heap.size w w'))
                      case atStart => exact ⟨(x2_1), (x4_1), (t107), ((⟨#[]⟩ : ByteArray)), (false), (by first | rfl | (simp; done) | (simp [*]; done)), H', ⟨Nat.le_refl _⟩, ⟨by (with_reducible repeat (first | apply Kd.R_alloc | apply Kd.R_drewN | apply Kd.R_drew)); exact Kd.R_mono (Kd.R_far (p := ⟨gb108, 2, none⟩) (Kd.R_far (p := ⟨gb108, 1, none⟩) (Kd.R_far (p := ⟨gb108, 0, none⟩) (Kd.R_mono HO_2.out (fun k_ hk => (⟨hk, hk.2⟩ : _ ∧ k_ ≠ gb108))) (fun _ hk => hk.2) (.string t107)) (fun _ hk => hk.2) (.string (⟨#[]⟩ : ByteArray))) (fun _ hk => hk.2) (.bool false)) (fun _ hk => hk.1.2)⟩, ⟨by (with_reducible repeat (first | refine blk_drewN ?_ _ | refine blk_drew ?_ | refine blk_alloc ?_ _)); refine blk_put (cs := #[.string t107, .string (⟨#[]⟩ : ByteArray), .bool false]) ?_ 2 _ rfl; (with_reducible repeat (first | refine blk_drewN ?_ _ | refine blk_drew ?_ | refine blk_alloc ?_ _)); refine blk_put (cs := #[.string t107, .string (⟨#[]⟩ : ByteArray), .bool false]) ?_ 1 _ rfl; (with_reducible repeat (first | refine blk_drewN ?_ _ | refine blk_drew ?_ | refine blk_alloc ?_ _)); refine blk_put (cs := #[.string (⟨#[]⟩ : ByteArray), .string (⟨#[]⟩ : ByteArray), .bool false]) ?_ 0 _ rfl; (with_reducible repeat (first | refine blk_drewN ?_ _ | refine blk_drew ?_ | refine blk_alloc ?_ _)); exact BK108.out⟩, ⟨by repeat (first | (with_reducible first | exact HB.out | apply below_alloc | apply pw_below_drewN | apply below_drew1 | refine below_set ?_ GE108.out) | exact HB.out)⟩⟩
                      case round =>
                        clear H'
                        try clear c1
                        try clear c2
                        try clear c2b0
                        try clear p2
                        try clear c3
                        try clear c3b0
                        try clear p4
                        try clear q4
                        try clear hx4
                        try clear c5
                        try clear c5b0
                        try clear c5b1
                        try clear p6
                        try clear c7
                        try clear c7b0
                        try clear c8
                        try clear c8b0
                        try clear c9
                        try clear p9
                        try clear q9
                        try clear hx9
                        try clear c10
                        try clear c10b0
                        try clear c10b1
                        try clear c11
                        try clear c11b0
                        try clear c11b1
                        try clear c12
                        try clear c12b0
                        try clear c12b1
                        try clear c13
                        try clear c13b0
                        try clear c13b1
                        try clear hcz17_0
                        try clear hcz17_1
                        try clear hcz17_2
                        try clear hfz17_0
                        try clear hfz17_1
                        try clear hfz17_2
                        try clear p2
                        try clear p4
                        try clear p6
                        try clear p9
                        try clear q4
                        try clear q9
                        obtain ⟨x2_3, x7_3, x109000_3, x109001_3, x109002_3, rfl, HA, HK3, HO_2, BK108, HB⟩ := hrel
                        cases gk with
                        | zero => exact absurd HA.out (by simp [spec_Params.l2])
                        | succ k3 =>
                          have H := HA.out
                          clear HA
                          simp only [spec_Params.l2] at H
                          by_cases c18 : x7_3 < x4_5
                          · rw [if_pos c18] at H
                            have c18b0 : decide (x7_3 < x4_5) = true := decide_eq_true c18
                            clear c18
                            by_cases c19 : 0 ≤ x7_3
                            · rw [if_pos c19] at H
                              have c19b0 : decide (0 ≤ x7_3) = true := decide_eq_true c19
                              clear c19
                              by_cases c20 : x7_3 < (a0.size : Int)
                              · rw [if_pos c20] at H
                                have c20b0 : decide (x7_3 < (a0.size : Int)) = true := decide_eq_true c20
                                clear c20
                                by_cases c22 : (bt a0 x7_3) = 61
                                · rw [if_pos c22] at H
                                  have c22b0 : ((bt a0 x7_3) == 61) = true := beq_iff_eq.mpr c22
                                  have c22b1 : ((bt a0 x7_3) != 61) = false := bne_eq_false_iff_eq.mpr c22
                                  clear c22
                                  by_cases c23 : x109002_3 = true
                                  · subst c23
                                    have H1 : (some (([] : List (S36)), false)) = some (r1, r2) := by rw [if_pos rfl] at H; exact H
                                    clear H
                                    have H := H1
                                    clear H1
                                    simp only [Option.some.injEq, Prod.mk.injEq] at H
                                    obtain ⟨rfl, rfl⟩ := H
                                    have p21 : 0 ≤ (x7_3 : Int) := of_decide_eq_true (by first | (with_reducible assumption) | assumption)
                                    have q21 : x7_3 < (a0.size : Int) := of_decide_eq_true (by first | (with_reducible assumption) | assumption)
                                    have hx21 := bt_at a0 x7_3
                                    replace p21 := eq_true p21
                                    replace q21 := eq_true q21
                                    have hcz24_0 : wr.cell? ⟨gb108, 0, none⟩ = some (.string x109000_3) := (blk_cell BK108.out 0).trans rfl
                                    have hcz24_1 : wr.cell? ⟨gb108, 1, none⟩ = some (.string x109001_3) := (blk_cell BK108.out 1).trans rfl
                                    have hcz24_2 : wr.cell? ⟨gb108, 2, none⟩ = some (.bool true) := (blk_cell BK108.out 2).trans rfl
                                    have hfz24_0 := blk_frozen BK108.out 0
                                    have hfz24_1 := blk_frozen BK108.out 1
                                    have hfz24_2 := blk_frozen BK108.out 2
                                    go_wp2
                                    go_ret2
                                    exact ⟨_, by first | rfl | (simp [errW_none, errW_some] <;> rfl) | (simp [*, errW_none, errW_some] <;> rfl), by first | exact Kd.R_nil _ _ _ _ _ | exact Kd.N_nil _ _ _ _ _ | exact Kd.V_nil _ _ _ _ _ | exact Kd.Q_nil _ _ _ _ _ | exact Kd.S_nil _ _ _ _ _, by repeat (first | (with_reducible first | exact HB.out | apply below_alloc | apply pw_below_drewN | apply below_drew1 | refine below_set ?_ GE108.out) | exact HB.out)⟩
                                  · replace c23 := Bool.eq_false_iff.mpr c23
                                    subst c23
                                    have H1 : (if 0 ≤ x4_1 then (if x4_1 ≤ x7_3 then (if x7_3 ≤ (a0.size : Int) then ((Own.spec_Upper.f (a0.extract (x4_1 : Int).toNat (x7_3 : Int).toNat)).bind fun t112 => (if 0 ≤ (wrap64 (x7_3 + 1)) then (if (wrap64 (x7_3 + 1)) ≤ x4_5 then (if x4_5 ≤ (a0.size : Int) then (spec_Params.l2 k3 a0 x2_3 x4_5 x4_1 (wrap64 (x7_3 + 1)) t112 (a0.extract ((wrap64 (x7_3 + 1)) : Int).toNat (x4_5 : Int).toNat) true) else (none)) else (none)) else (none))) else (none)) else (none)) else (none)) = some (r1, r2) := by rw [if_neg (show ¬ (false = true) by decide)] at H; exact H
                                    clear H
                                    have H := H1
                                    clear H1
                                    by_cases c25 : 0 ≤ x4_1
                                    · rw [if_pos c25] at H
                                      have c25b0 := eq_true c25
                                      have c25b1 : decide (0 ≤ x4_1) = true := decide_eq_true c25
                                      clear c25
                                      by_cases c26 : x4_1 ≤ x7_3
                                      · rw [if_pos c26] at H
                                        have c26b0 := eq_true c26
                                        have c26b1 : decide (x4_1 ≤ x7_3) = true := decide_eq_true c26
                                        clear c26
                                        by_cases c27 : x7_3 ≤ (a0.size : Int)
                                        · rw [if_pos c27] at H
                                          have c27b0 := eq_true c27
                                          have c27b1 : decide (x7_3 ≤ (a0.size : Int)) = true := decide_eq_true c27
                                          clear c27
                                          replace H := Option.bind_eq_some_iff.mp H
                                          obtain ⟨t112, A280, H⟩ := H
                                          replace H : (if 0 ≤ (wrap64 (x7_3 + 1)) then (if (wrap64 (x7_3 + 1)) ≤ x4_5 then (if x4_5 ≤ (a0.size : Int) then (spec_Params.l2 k3 a0 x2_3 x4_5 x4_1 (wrap64 (x7_3 + 1)) t112 (a0.extract ((wrap64 (x7_3 + 1)) : Int).toNat (x4_5 : Int).toNat) true) else (none)) else (none)) else (none)) = some (r1, r2) := H
                                          have A28 := Aside0.mk A280
                                          clear A280
                                          obtain ⟨ji29, hji29⟩ : ∃ j_ : Int, (wrap64 (x7_3 + 1)) = j_ := ⟨_, rfl⟩
                                          replace H : (if 0 ≤ (ji29) then (if (ji29) ≤ x4_5 then (if x4_5 ≤ (a0.size : Int) then (spec_Params.l2 k3 a0 x2_3 x4_5 x4_1 ji29 t112 (a0.extract ((ji29) : Int).toNat (x4_5 : Int).toNat) true) else (none)) else (none)) else (none)) = some (r1, r2) := by first | (rw [hji29] at H; exact H) | (simp only [hji29] at H ⊢; exact H)
                                          (try rw [hji29] at A28)
                                          have hji29w : (IntKind.i64.wrap (x7_3 + 1)) = ji29 := (i64_w _).trans hji29
                                          by_cases c30 : 0 ≤ (ji29)
                                          · rw [if_pos c30] at H
                                            have c30b0 := eq_true c30
                                            have c30b1 : decide (0 ≤ (ji29)) = true := decide_eq_true c30
                                            clear c30
                                            by_cases c31 : (ji29) ≤ x4_5
                                            · rw [if_pos c31] at H
                                              have c31b0 := eq_true c31
                                              have c31b1 : decide ((ji29) ≤ x4_5) = true := decide_eq_true c31
                                              clear c31
                                              by_cases c32 : x4_5 ≤ (a0.size : Int)
                                              · rw [if_pos c32] at H
                                                have c32b0 := eq_true c32
                                                have c32b1 : decide (x4_5 ≤ (a0.size : Int)) = true := decide_eq_true c32
                                                clear c32
                                                have H' := Aside0.mk H
                                                clear H
                                                have p21 : 0 ≤ (x7_3 : Int) := of_decide_eq_true (by first | (with_reducible assumption) | assumption)
                                                have q21 : x7_3 < (a0.size : Int) := of_decide_eq_true (by first | (with_reducible assumption) | assumption)
                                                have hx21 := bt_at a0 x7_3
                                                replace p21 := eq_true p21
                                                replace q21 := eq_true q21
                                                have hcz33_0 : wr.cell? ⟨gb108, 0, none⟩ = some (.string x109000_3) := (blk_cell BK108.out 0).trans rfl
                                                have hcz33_1 : wr.cell? ⟨gb108, 1, none⟩ = some (.string x109001_3) := (blk_cell BK108.out 1).trans rfl
                                                have hcz33_2 : wr.cell? ⟨gb108, 2, none⟩ = some (.bool false) := (blk_cell BK108.out 2).trans rfl
                                                have hfz33_0 := blk_frozen BK108.out 0
                                                have hfz33_1 := blk_frozen BK108.out 1
                                                have hfz33_2 := blk_frozen BK108.out 2
                                                try go_wp2
                                                have n0_ := Aside0.mk (Kd.R_drew HO_2.out)
                                                have n1_ := Aside0.mk (blk_drew BK108.out)
                                                have n2_ := Aside0.mk (below_drew1 HB.out)
                                                clear HO_2
                                                clear BK108
                                                clear HB
                                                have HO_2 := n0_
                                                have BK108 := n1_
                                                have HB := n2_
                                                clear n0_ n1_ n2_
                                                refine start_ (n := 12) (S := fun w' => True) (ds := []) #[false, false, false, false, false, false, false, false, false, false, false, false] (by kernel_rfl) rfl rfl trivial (fun hHeld => ?_); refine with_tabW spec_Params.tab15 spec_Params.bits15 (fun HT_ HW_ => ?_)
                                                generalize wr.drew = w34 at HO_2 BK108 HB hHeld ⊢
                                                refine pure_ (i := 0) (N := some 49) (v := ?_) (a' := ?_) #[true, false, false, false, false, false, false, false, false, false, false, false] rfl rfl (any_of HT_.out (by kernel_rfl)) (fun _ _ _ h => h) (Or.inl ⟨by rfl, ?_⟩) ?_ ?_
                                                rotate_left
                                                · intro w'
                                                  go_simp
                                                  with_reducible rfl
                                                rotate_left
                                                · simp only [Act.put, List.setIfInBounds_toArray, List.set_cons_zero, List.set_cons_succ, i64_w, i32_w]
                                                  rfl
                                                refine pure_ (i := 1) (N := some 50) (v := ?_) (a' := ?_) #[true, true, false, false, false, false, false, false, false, false, false, false] rfl rfl (any_of HT_.out (by kernel_rfl)) (fun _ _ _ h => h) (Or.inl ⟨by rfl, ?_⟩) ?_ ?_
                                                rotate_left
                                                · intro w'
                                                  go_simp
                                                  with_reducible rfl
                                                rotate_left
                                                · simp only [Act.put, List.setIfInBounds_toArray, List.set_cons_zero, List.set_cons_succ, i64_w, i32_w]
                                                  rfl
                                                refine pure_ (i := 2) (N := some 51) (v := ?_) (a' := ?_) #[true, true, true, false, false, false, false, false, false, false, false, false] rfl rfl (any_of HT_.out (by kernel_rfl)) (fun _ _ _ h => h) (Or.inl ⟨by rfl, ?_⟩) ?_ ?_
                                                rotate_left
                                                · intro w'
                                                  go_simp
                                                  with_reducible rfl
                                                rotate_left
                                                · simp only [Act.put, List.setIfInBounds_toArray, List.set_cons_zero, List.set_cons_succ, i64_w, i32_w]
                                                  rfl
                                                refine pure_ (i := 3) (N := some 52) (v := ?_) (a' := ?_) #[true, true, true, true, false, false, false, false, false, false, false, false] rfl rfl (any_of HT_.out (by kernel_rfl)) (fun _ _ _ h => h) (Or.inl ⟨by rfl, ?_⟩) ?_ ?_
                                                rotate_left
                                                · intro w'
                                                  go_simp
                                                  with_reducible rfl
                                                rotate_left
                                                · simp only [Act.put, List.setIfInBounds_toArray, List.set_cons_zero, List.set_cons_succ, i64_w, i32_w]
                                                  rfl
                                                refine pure_ (i := 5) (N := some 54) (v := ?_) (a' := ?_) #[true, true, true, true, false, true, false, false, false, false, false, false] rfl rfl (any_of HT_.out (by kernel_rfl)) (fun _ _ _ h => h) (Or.inl ⟨by rfl, ?_⟩) ?_ ?_
                                                rotate_left
                                                · intro w'
                                                  go_simp
                                                  with_reducible rfl
                                                rotate_left
                                                · simp only [Act.put, List.setIfInBounds_toArray, List.set_cons_zero, List.set_cons_succ, i64_w, i32_w]
                                                  rfl
                                                refine pure_ (i := 6) (N := some 55) (v := ?_) (a' := ?_) #[true, true, true, true, false, true, true, false, false, false, false, false] rfl rfl (any_of HT_.out (by kernel_rfl)) (fun _ _ _ h => h) (Or.inl ⟨by rfl, ?_⟩) ?_ ?_
                                                rotate_left
                                                · intro w'
                                                  go_simp
                                                  with_reducible rfl
                                                rotate_left
                                                · simp only [Act.put, List.setIfInBounds_toArray, List.set_cons_zero, List.set_cons_succ, i64_w, i32_w]
                                                  rfl
                                                refine pure_ (i := 7) (N := some 56) (v := ?_) (a' := ?_) #[true, true, true, true, false, true, true, true, false, false, false, false] rfl rfl (any_of HT_.out (by kernel_rfl)) (fun _ _ _ h => h) (Or.inl ⟨by rfl, ?_⟩) ?_ ?_
                                                rotate_left
                                                · intro w'
                                                  go_simp
                                                  with_reducible rfl
                                                rotate_left
                                                · simp only [Act.put, List.setIfInBounds_toArray, List.set_cons_zero, List.set_cons_succ, i64_w, i32_w]
                                                  rfl
                                                refine pure_ (i := 8) (N := some 57) (v := ?_) (a' := ?_) #[true, true, true, true, false, true, true, true, true, false, false, false] rfl rfl (any_of HT_.out (by kernel_rfl)) (fun _ _ _ h => h) (Or.inl ⟨by rfl, ?_⟩) ?_ ?_
                                                rotate_left
                                                · intro w'
                                                  go_simp
                                                  with_reducible rfl
                                                rotate_left
                                                · simp only [Act.put, List.setIfInBounds_toArray, List.set_cons_zero, List.set_cons_succ, i64_w, i32_w]
                                                  rfl
                                                refine pure_ (i := 9) (N := some 58) (v := ?_) (a' := ?_) #[true, true, true, true, false, true, true, true, true, true, false, false] rfl rfl (any_of HT_.out (by kernel_rfl)) (fun _ _ _ h => h) (Or.inl ⟨by rfl, ?_⟩) ?_ ?_
                                                rotate_left
                                                · intro w'
                                                  go_simp
                                                  with_reducible rfl
                                                rotate_left
                                                · simp only [Act.put, List.setIfInBounds_toArray, List.set_cons_zero, List.set_cons_succ, i64_w, i32_w]
                                                  rfl
                                                refine one_ (i := 4) (N := some 53) #[true, true, true, true, true, true, true, true, true, true, false, false] rfl rfl (one_of HT_.out (by kernel_rfl)) (by decide) (fun K hK => ?_)
                                                refine goes_ Tryz.func11 (by kernel_rfl) rfl #[.string (a0.extract (x4_1 : Int).toNat (x7_3 : Int).toNat)] (by rfl) rfl rfl (by (try simp only [List.map_toArray, List.map_cons, List.map_nil]); first | done | rfl | (simp only [List.length_drop, List.length_take]; rfl)) ?_
                                                with_reducible refine (Own.spec_Upper.calls (a0.extract (x4_1 : Int).toNat (x7_3 : Int).toNat) t112 _ A28.out).mono ?_
                                                rintro e w35 ⟨rfl, hb⟩
                                                refine ⟨_, rfl, ?_⟩
                                                have n0_ := Aside0.mk (Kd.R_below (by (with_reducible repeat (first | apply Kd.R_alloc | apply Kd.R_drewN | apply Kd.R_drew)); exact HO_2.out) hb)
                                                have n1_ := Aside0.mk (blk_below (g := gb108) (o := .cells #[.string x109000_3, .string x109001_3, .bool false] 36 (0, 0)) (by (with_reducible repeat (first | refine blk_drewN ?_ _ | refine blk_drew ?_ | refine blk_alloc ?_ _)); exact BK108.out) hb)
                                                have n2_ := Aside0.mk (below_step (by repeat (first | (with_reducible first | exact HB.out | apply below_alloc | apply pw_below_drewN | apply below_drew1 | refine below_set ?_ GE108.out) | exact HB.out)) hb)
                                                clear HO_2
                                                clear BK108
                                                clear HB
                                                have HO_2 := n0_
                                                have BK108 := n1_
                                                have HB := n2_
                                                clear n0_ n1_ n2_
                                                (try clear hb)
                                                (try clear hb2)
                                                (try clear hk)
                                                (try clear hi)
                                                refine hK.out _ _ trivial (fun hHeld => ?_)
                                                clear hK K
                                                refine norm_ (a' := ?_) ?_ ?_
                                                rotate_left
                                                · show Act.put _ (some 53) _ = _
                                                  simp only [Act.put, List.setIfInBounds_toArray, List.set_cons_zero, List.set_cons_succ, i64_w, i32_w]
                                                  rfl
                                                refine pure_ (i := 10) (N := some 59) (v := ?_) (a' := ?_) #[true, true, true, true, true, true, true, true, true, true, true, false] rfl rfl (any_of HT_.out (by kernel_rfl)) (fun _ _ _ h => h) (Or.inl ⟨by rfl, ?_⟩) ?_ ?_
                                                rotate_left
                                                · intro w'
                                                  go_simp
                                                  with_reducible rfl
                                                rotate_left
                                                · simp only [Act.put, List.setIfInBounds_toArray, List.set_cons_zero, List.set_cons_succ, i64_w, i32_w]
                                                  rfl
                                                refine one_ (i := 11) (N := none) #[true, true, true, true, true, true, true, true, true, true, true, true] rfl rfl (one_of HT_.out (by kernel_rfl)) (by decide) (fun K hK => ?_)
                                                have hs36 : w35.cell? ⟨gb108, 0, none⟩ = some (.string x109000_3) := (blk_cell BK108.out 0).trans rfl
                                                have hfs36 := blk_frozen BK108.out 0
                                                have hs37 : w35.cell? ⟨gb108, 1, none⟩ = some (.string x109001_3) := (blk_cell BK108.out 1).trans rfl
                                                have hfs37 := blk_frozen BK108.out 1
                                                have hs38 : w35.cell? ⟨gb108, 2, none⟩ = some (.bool false) := (blk_cell BK108.out 2).trans rfl
                                                have hfs38 := blk_frozen BK108.out 2
                                                refine skip_ (w1 := ?_) (by rfl) rfl ?_ ?_
                                                rotate_left
                                                · go_simp
                                                  rfl
                                                refine hK.out _ _ trivial (fun hHeld => ?_)
                                                clear hK K
                                                refine done_ (done_of HT_.out (by kernel_rfl)) ?_
                                                try go_wp2
                                                go_roundg k3
                                                case measure => have := HK1.out; have := HJ5.out; have := HK3.out; omega
                                                case rel => exact ⟨(x2_3), (ji29), (t112), (a0.extract ((ji29) : Int).toNat (x4_5 : Int).toNat), (true), (by first | rfl | (simp; done) | (simp only [← hji29] <;> (first | rfl | simp)) | (simp [*]; done)), (by first | exact H' | (rw [hji29]; exact H') | (simp only [hji29]; exact H')), ⟨by have := HK1.out; have := HJ5.out; have := HK3.out; omega⟩, ⟨by (with_reducible repeat (first | apply Kd.R_alloc | apply Kd.R_drewN | apply Kd.R_drew)); exact Kd.R_mono (Kd.R_far (p := ⟨gb108, 2, none⟩) (Kd.R_far (p := ⟨gb108, 1, none⟩) (Kd.R_far (p := ⟨gb108, 0, none⟩) (Kd.R_mono HO_2.out (fun k_ hk => (⟨hk, hk⟩ : _ ∧ k_ ≠ gb108))) (fun _ hk => hk.2) (.string t112)) (fun _ hk => hk.2) (.string (a0.extract ((ji29) : Int).toNat (x4_5 : Int).toNat))) (fun _ hk => hk.2) (.bool true)) (fun _ hk => hk.1)⟩, ⟨by (with_reducible repeat (first | refine blk_drewN ?_ _ | refine blk_drew ?_ | refine blk_alloc ?_ _)); refine blk_put (cs := #[.string t112, .string (a0.extract ((ji29) : Int).toNat (x4_5 : Int).toNat), .bool false]) ?_ 2 _ rfl; (with_reducible repeat (first | refine blk_drewN ?_ _ | refine blk_drew ?_ | refine blk_alloc ?_ _)); refine blk_put (cs := #[.string t112, .string x109001_3, .bool false]) ?_ 1 _ rfl; (with_reducible repeat (first | refine blk_drewN ?_ _ | refine blk_drew ?_ | refine blk_alloc ?_ _)); refine blk_put (cs := #[.string x109000_3, .string x109001_3, .bool false]) ?_ 0 _ rfl; (with_reducible repeat (first | refine blk_drewN ?_ _ | refine blk_drew ?_ | refine blk_alloc ?_ _)); exact BK108.out⟩, ⟨by repeat (first | (with_reducible first | exact HB.out | apply below_alloc | apply pw_below_drewN | apply below_drew1 | refine below_set ?_ GE108.out) | exact HB.out)⟩⟩
                                              · rw [if_neg c32] at H
                                                exact absurd H (by simp)
                                            · rw [if_neg c31] at H
                                              exact absurd H (by simp)
                                          · rw [if_neg c30] at H
                                            exact absurd H (by simp)
                                        · rw [if_neg c27] at H
                                          exact absurd H (by simp)
                                      · rw [if_neg c26] at H
                                        exact absurd H (by simp)
                                    · rw [if_neg c25] at H
                                      exact absurd H (by simp)
                                · rw [if_neg c22] at H
                                  have c22b0 : ((bt a0 x7_3) == 61) = false := beq_eq_false_iff_ne.mpr c22
                                  have c22b1 : ((bt a0 x7_3) != 61) = true := bne_iff_ne.mpr c22
                                  have H' := Aside0.mk H
                                  clear H
                                  have p21 : 0 ≤ (x7_3 : Int) := of_decide_eq_true (by first | (with_reducible assumption) | assumption)
                                  have q21 : x7_3 < (a0.size : Int) := of_decide_eq_true (by first | (with_reducible assumption) | assumption)
                                  have hx21 := bt_at a0 x7_3
                                  replace p21 := eq_true p21
                                  replace q21 := eq_true q21
                                  go_wp2
                                  go_roundg k3
                                  case measure => have := HK1.out; have := HJ5.out; have := HK3.out; omega
                                  case rel => exact ⟨(x2_3), (wrap64 (x7_3 + 1)), (x109000_3), (x109001_3), (x109002_3), (by first | rfl | (simp; done) | (simp [*]; done)), H', ⟨by have := HK1.out; have := HJ5.out; have := HK3.out; omega⟩, ⟨by (with_reducible repeat (first | apply Kd.R_alloc | apply Kd.R_drewN | apply Kd.R_drew)); exact HO_2.out⟩, ⟨by (with_reducible repeat (first | refine blk_drewN ?_ _ | refine blk_drew ?_ | refine blk_alloc ?_ _)); exact BK108.out⟩, ⟨by repeat (first | (with_reducible first | exact HB.out | apply below_alloc | apply pw_below_drewN | apply below_drew1 | refine below_set ?_ GE108.out) | exact HB.out)⟩⟩
                              · rw [if_neg c20] at H
                                exact absurd H (by simp)
                            · rw [if_neg c19] at H
                              exact absurd H (by simp)
                          · rw [if_neg c18] at H
                            have c18b0 : decide (x7_3 < x4_5) = false := decide_eq_false c18
                            clear c18
                            replace H := Option.bind_eq_some_iff.mp H
                            obtain ⟨t109, A390, H⟩ := H
                            replace H : (spec_Params.l0 k3 a0 t109 x4_5) = some (r1, r2) := H
                            have A39 := Aside0.mk A390
                            clear A390
                            have H' := Aside0.mk H
                            clear H
                            have hcz40_0 : wr.cell? ⟨gb108, 0, none⟩ = some (.string x109000_3) := (blk_cell BK108.out 0).trans rfl
                            have hcz40_1 : wr.cell? ⟨gb108, 1, none⟩ = some (.string x109001_3) := (blk_cell BK108.out 1).trans rfl
                            have hcz40_2 : wr.cell? ⟨gb108, 2, none⟩ = some (.bool x109002_3) := (blk_cell BK108.out 2).trans rfl
                            have hfz40_0 := blk_frozen BK108.out 0
                            have hfz40_1 := blk_frozen BK108.out 1
                            have hfz40_2 := blk_frozen BK108.out 2
                            obtain ⟨Ao41, co41, eo41⟩ := Kd.R_slice HO_2.out
                            subst eo41
                            go_wp2_with (first | ((with_reducible refine gate_callee (f := 17) rfl ?_); refine goesL_ (some 62) rfl rfl Tryz.func17 (by kernel_rfl) rfl #[.slice Ao41 x2_3.length co41, .agg #[.string x109000_3, .string x109001_3, .bool x109002_3]] rfl (by (try simp only [List.map_toArray, List.map_cons, List.map_nil]); first | done | rfl | (simp only [List.length_drop, List.length_take]; rfl)) ?_; (with_reducible refine (spec_put.calls k3 (fun k_ => some k_ = (.slice Ao41 x2_3.length co41 : Value).ownBlock) (.slice Ao41 x2_3.length co41) x2_3 x109000_3 x109001_3 x109002_3 t109 w _ ?side1 ?side2 A39.out).mono ?_); (case side1 => repeat (first | (with_reducible first | exact HB.out | apply below_alloc | apply pw_below_drewN | apply below_drew1 | refine below_set ?_ GE108.out) | exact HB.out)); (case side2 => exact Kd.R_tight rfl HO_2.out); rintro e w42 ⟨v110, rfl, ho0, hb, hkp⟩; refine ⟨_, rfl, ?_⟩; have n0_ := Aside0.mk (blk_kept (by (with_reducible repeat (first | refine blk_drewN ?_ _ | refine blk_drew ?_ | refine blk_alloc ?_ _)); exact BK108.out) hkp (fun hs_ => (fun e_ => (Kd.R_away HO_2.out (fun _ hk => hk)) e_) hs_)); have n1_ := Aside0.mk (Kd.R_mono (ok' := fun k_ => k_ ≠ gb108) ho0 (fun k_ hk_ => Or.elim hk_ (fun hs_ => fun e_ => (Kd.R_away HO_2.out (fun _ hk => hk)) (by rw [← e_]; exact hs_)) (fun hn_ => (Kd.freshB (g := gb108) (o := .cells #[.string x109000_3, .string x109001_3, .bool x109002_3] 36 (0, 0)) (by (with_reducible repeat (first | refine blk_drewN ?_ _ | refine blk_drew ?_ | refine blk_alloc ?_ _)); exact BK108.out) k_ hn_)))); have n2_ := Aside0.mk (hb); clear BK108; clear HB; clear HO_2; have BK108 := n0_; have HO111 := n1_; have HB := n2_; clear n0_ n1_ n2_; (try clear hb); (try clear hkp); (try clear ho0)))
                            go_roundg k3
                            case measure => have := HK1.out; have := HJ5.out; have := HK3.out; omega
                            case rel => exact ⟨(t109), (x4_5), (by first | rfl | (simp; done) | (simp [*]; done)), H', ⟨by have := HK1.out; have := HJ5.out; have := HK3.out; omega⟩, ⟨by (with_reducible repeat (first | apply Kd.R_alloc | apply Kd.R_drewN | apply Kd.R_drew)); exact Kd.R_mono HO111.out (fun _ hk => trivial)⟩, ⟨by repeat (first | (with_reducible first | exact HB.out | apply below_alloc | apply pw_below_drewN | apply below_drew1 | refine below_set ?_ GE108.out) | exact HB.out)⟩⟩
                    · rw [if_neg c13] at H
                      exact absurd H (by simp)
                  · rw [if_neg c12] at H
                    exact absurd H (by simp)
                · rw [if_neg c11] at H
                  exact absurd H (by simp)
        · rw [if_neg c3] at H
          exact absurd H (by simp)
      · rw [if_neg c2] at H
        have c2b0 : decide (x4_1 < (a0.size : Int)) = false := decide_eq_false c2
        clear c2
        simp only [Option.some.injEq, Prod.mk.injEq] at H
        obtain ⟨rfl, rfl⟩ := H
        go_wp2
        go_ret2
        exact ⟨_, by first | rfl | (simp [errW_none, errW_some] <;> rfl) | (simp [*, errW_none, errW_some] <;> rfl), by (with_reducible repeat (first | apply Kd.R_alloc | apply Kd.R_drewN | apply Kd.R_drew)); exact HO_2.out, by repeat (first | (with_reducible first | exact HB.out | apply below_alloc | apply pw_below_drewN | apply below_drew1) | exact HB.out)⟩

end Go.Proofs.YtldiamldbpobgaaGreatDoor.PParams
