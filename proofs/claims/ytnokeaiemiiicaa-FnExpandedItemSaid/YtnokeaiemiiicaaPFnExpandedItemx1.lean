-- PRINTED BY print.sh 35421559b90ae4d0a3588c463048766b98c2df88dd9212a6774a882060cdf62d: not written by this session
import Derived.Test.YtnokeaiemiiicaaPFnExpandedItemx0
namespace Go.Proofs.Ytnokeaiemiiicaa.PFnExpandedItem
open Go.RowKit Go.Proofs.YtnokeaiemiiicaaW.PrintWords Go.Proofs.YtnokeaiemiiicaaW.PrintLast Go.Proofs.YtnokeaiemiiicaaW.PrintMore
attribute [local go_sem] max2_int min2_int max_two min_two max_three min_three max_four min_four   -- for this text's walks alone
set_option linter.unusedVariables false
set_option linter.unusedSimpArgs false

/-! ### goimap_FetchItem_Expand: function 23 -/
def goimap_FetchItem_Expand.f (a0 : ByteArray) : Option (List ByteArray) := if a0.toList = ([65, 76, 76] : List UInt8) then (some (([(⟨#[70, 76, 65, 71, 83]⟩ : ByteArray), (⟨#[73, 78, 84, 69, 82, 78, 65, 76, 68, 65, 84, 69]⟩ : ByteArray), (⟨#[82, 70, 67, 56, 50, 50, 46, 83, 73, 90, 69]⟩ : ByteArray), (⟨#[69, 78, 86, 69, 76, 79, 80, 69]⟩ : ByteArray)] : List ByteArray))) else (if a0.toList = ([70, 65, 83, 84] : List UInt8) then (some (([(⟨#[70, 76, 65, 71, 83]⟩ : ByteArray), (⟨#[73, 78, 84, 69, 82, 78, 65, 76, 68, 65, 84, 69]⟩ : ByteArray), (⟨#[82, 70, 67, 56, 50, 50, 46, 83, 73, 90, 69]⟩ : ByteArray)] : List ByteArray))) else (if a0.toList = ([70, 85, 76, 76] : List UInt8) then (some (([(⟨#[70, 76, 65, 71, 83]⟩ : ByteArray), (⟨#[73, 78, 84, 69, 82, 78, 65, 76, 68, 65, 84, 69]⟩ : ByteArray), (⟨#[82, 70, 67, 56, 50, 50, 46, 83, 73, 90, 69]⟩ : ByteArray), (⟨#[69, 78, 86, 69, 76, 79, 80, 69]⟩ : ByteArray), (⟨#[66, 79, 68, 89]⟩ : ByteArray)] : List ByteArray))) else (some (([a0] : List ByteArray)))))
set_option maxHeartbeats 8000000 in
set_option maxRecDepth 100000 in
theorem goimap_FetchItem_Expand.calls (a0 : ByteArray) (r : List ByteArray) (w : World) (h : goimap_FetchItem_Expand.f a0 = some r) :
    Calls Try.prog 23 #[.string a0] w fun e w' => ∃ v0_ : Value, e = .returned (v0_) ∧ Kd.R Kd.string 46 w' w.heap.size (fun _ => True) v0_ r ∧ Below w.heap.size w w' := by
  have HB := Aside0.mk (Below.refl w.heap.size w)
  have H : (if a0.toList = ([65, 76, 76] : List UInt8) then (some (([(⟨#[70, 76, 65, 71, 83]⟩ : ByteArray), (⟨#[73, 78, 84, 69, 82, 78, 65, 76, 68, 65, 84, 69]⟩ : ByteArray), (⟨#[82, 70, 67, 56, 50, 50, 46, 83, 73, 90, 69]⟩ : ByteArray), (⟨#[69, 78, 86, 69, 76, 79, 80, 69]⟩ : ByteArray)] : List ByteArray))) else (if a0.toList = ([70, 65, 83, 84] : List UInt8) then (some (([(⟨#[70, 76, 65, 71, 83]⟩ : ByteArray), (⟨#[73, 78, 84, 69, 82, 78, 65, 76, 68, 65, 84, 69]⟩ : ByteArray), (⟨#[82, 70, 67, 56, 50, 50, 46, 83, 73, 90, 69]⟩ : ByteArray)] : List ByteArray))) else (if a0.toList = ([70, 85, 76, 76] : List UInt8) then (some (([(⟨#[70, 76, 65, 71, 83]⟩ : ByteArray), (⟨#[73, 78, 84, 69, 82, 78, 65, 76, 68, 65, 84, 69]⟩ : ByteArray), (⟨#[82, 70, 67, 56, 50, 50, 46, 83, 73, 90, 69]⟩ : ByteArray), (⟨#[69, 78, 86, 69, 76, 79, 80, 69]⟩ : ByteArray), (⟨#[66, 79, 68, 89]⟩ : ByteArray)] : List ByteArray))) else (some (([a0] : List ByteArray)))))) = some r := h
  clear h
  by_cases c2 : a0.toList = ([65, 76, 76] : List UInt8)
  · rw [if_pos c2] at H
    have c2b0 : (a0.toList == ([65, 76, 76] : List UInt8)) = true := beq_iff_eq.mpr c2
    have c2b1 : (a0.toList != ([65, 76, 76] : List UInt8)) = false := bne_eq_false_iff_eq.mpr c2
    clear c2
    obtain ⟨y101, hy101⟩ : ∃ y_ : List ByteArray, y_ = (([(⟨#[70, 76, 65, 71, 83]⟩ : ByteArray), (⟨#[73, 78, 84, 69, 82, 78, 65, 76, 68, 65, 84, 69]⟩ : ByteArray), (⟨#[82, 70, 67, 56, 50, 50, 46, 83, 73, 90, 69]⟩ : ByteArray), (⟨#[69, 78, 86, 69, 76, 79, 80, 69]⟩ : ByteArray)] : List ByteArray)) := ⟨_, rfl⟩
    replace H : (some y101) = some r := by first | (rw [hy101]; with_reducible exact H) | (have H2_ := (Option.bind_some _ _).symm.trans H; rw [hy101]; with_reducible exact H2_) | (have H2_ := (Option.bind_some _ _).symm.trans H; with_reducible exact H2_) | with_reducible exact H | (rw [hy101]; exact H) | exact H
    have Ny101 := Aside0.mk hy101
    clear hy101
    obtain rfl := Option.some.inj H
    go_enter Try.func23, Try.ntmps23
    go_wp2_with (first | ((with_reducible refine gate_dst (N := 8) rfl ?_); refine Kd.R_lit Kd.string _ 46 ?hg (N := 8) ?hd (xs := ([(⟨#[70, 76, 65, 71, 83]⟩ : ByteArray), (⟨#[73, 78, 84, 69, 82, 78, 65, 76, 68, 65, 84, 69]⟩ : ByteArray), (⟨#[82, 70, 67, 56, 50, 50, 46, 83, 73, 90, 69]⟩ : ByteArray), (⟨#[69, 78, 86, 69, 76, 79, 80, 69]⟩ : ByteArray)] : List ByteArray)) (inner := [.string (⟨#[70, 76, 65, 71, 83]⟩ : ByteArray), .string (⟨#[73, 78, 84, 69, 82, 78, 65, 76, 68, 65, 84, 69]⟩ : ByteArray), .string (⟨#[82, 70, 67, 56, 50, 50, 46, 83, 73, 90, 69]⟩ : ByteArray), .string (⟨#[69, 78, 86, 69, 76, 79, 80, 69]⟩ : ByteArray)]) (ok := fun _ => True) (okp := fun _ => True) ?hr ?hp (fun _ hk => hk) trivial (Below.refl _ _) (Nat.le_refl _) (by simp) ?_; (case hd => rfl); (case hg => rfl); (case hr => first | (go_simp; done) | (go_simp; rfl)); (case hp => exact (Reps.one (show Kd.M Kd.string _ _ _ (⟨#[70, 76, 65, 71, 83]⟩ : ByteArray) [.string (⟨#[70, 76, 65, 71, 83]⟩ : ByteArray)] from rfl) (Reps.one (show Kd.M Kd.string _ _ _ (⟨#[73, 78, 84, 69, 82, 78, 65, 76, 68, 65, 84, 69]⟩ : ByteArray) [.string (⟨#[73, 78, 84, 69, 82, 78, 65, 76, 68, 65, 84, 69]⟩ : ByteArray)] from rfl) (Reps.one (show Kd.M Kd.string _ _ _ (⟨#[82, 70, 67, 56, 50, 50, 46, 83, 73, 90, 69]⟩ : ByteArray) [.string (⟨#[82, 70, 67, 56, 50, 50, 46, 83, 73, 90, 69]⟩ : ByteArray)] from rfl) (Reps.one (show Kd.M Kd.string _ _ _ (⟨#[69, 78, 86, 69, 76, 79, 80, 69]⟩ : ByteArray) [.string (⟨#[69, 78, 86, 69, 76, 79, 80, 69]⟩ : ByteArray)] from rfl) (Reps.none _ _)))))); intro v102 w3 ho4 hb hg_ hnew_; clear hg_ hnew_; (first | rw [← Ny101.out] at ho4 | (simp only [Int.reduceToNat] at ho4; rw [← Ny101.out] at ho4)); have n0_ := Aside0.mk (Kd.R_lower ho4 (below_size (by repeat (first | (with_reducible first | exact HB.out | apply below_alloc | apply pw_below_drewN | apply below_drew1) | exact HB.out)))); have n1_ := Aside0.mk (below_step (by repeat (first | (with_reducible first | exact HB.out | apply below_alloc | apply pw_below_drewN | apply below_drew1) | exact HB.out)) hb); clear HB; have HO103 := n0_; have HB := n1_; clear n0_ n1_; clear hb ho4))
    go_ret
    exact ⟨_, by first | rfl | (simp [errW_none, errW_some] <;> rfl) | (simp [*, errW_none, errW_some] <;> rfl), by (with_reducible repeat (first | apply Kd.R_alloc | apply Kd.R_drewN | apply Kd.R_drew)); exact HO103.out, by repeat (first | (with_reducible first | exact HB.out | apply below_alloc | apply pw_below_drewN | apply below_drew1) | exact HB.out)⟩
  · rw [if_neg c2] at H
    have c2b0 : (a0.toList == ([65, 76, 76] : List UInt8)) = false := beq_eq_false_iff_ne.mpr c2
    have c2b1 : (a0.toList != ([65, 76, 76] : List UInt8)) = true := bne_iff_ne.mpr c2
    by_cases c5 : a0.toList = ([70, 65, 83, 84] : List UInt8)
    · rw [if_pos c5] at H
      have c5b0 : (a0.toList == ([70, 65, 83, 84] : List UInt8)) = true := beq_iff_eq.mpr c5
      have c5b1 : (a0.toList != ([70, 65, 83, 84] : List UInt8)) = false := bne_eq_false_iff_eq.mpr c5
      clear c5
      obtain ⟨y104, hy104⟩ : ∃ y_ : List ByteArray, y_ = (([(⟨#[70, 76, 65, 71, 83]⟩ : ByteArray), (⟨#[73, 78, 84, 69, 82, 78, 65, 76, 68, 65, 84, 69]⟩ : ByteArray), (⟨#[82, 70, 67, 56, 50, 50, 46, 83, 73, 90, 69]⟩ : ByteArray)] : List ByteArray)) := ⟨_, rfl⟩
      replace H : (some y104) = some r := by first | (rw [hy104]; with_reducible exact H) | (have H2_ := (Option.bind_some _ _).symm.trans H; rw [hy104]; with_reducible exact H2_) | (have H2_ := (Option.bind_some _ _).symm.trans H; with_reducible exact H2_) | with_reducible exact H | (rw [hy104]; exact H) | exact H
      have Ny104 := Aside0.mk hy104
      clear hy104
      obtain rfl := Option.some.inj H
      go_enter Try.func23, Try.ntmps23
      go_wp2_with (first | ((with_reducible refine gate_dst (N := 11) rfl ?_); refine Kd.R_lit Kd.string _ 46 ?hg (N := 11) ?hd (xs := ([(⟨#[70, 76, 65, 71, 83]⟩ : ByteArray), (⟨#[73, 78, 84, 69, 82, 78, 65, 76, 68, 65, 84, 69]⟩ : ByteArray), (⟨#[82, 70, 67, 56, 50, 50, 46, 83, 73, 90, 69]⟩ : ByteArray)] : List ByteArray)) (inner := [.string (⟨#[70, 76, 65, 71, 83]⟩ : ByteArray), .string (⟨#[73, 78, 84, 69, 82, 78, 65, 76, 68, 65, 84, 69]⟩ : ByteArray), .string (⟨#[82, 70, 67, 56, 50, 50, 46, 83, 73, 90, 69]⟩ : ByteArray)]) (ok := fun _ => True) (okp := fun _ => True) ?hr ?hp (fun _ hk => hk) trivial (Below.refl _ _) (Nat.le_refl _) (by simp) ?_; (case hd => rfl); (case hg => rfl); (case hr => first | (go_simp; done) | (go_simp; rfl)); (case hp => exact (Reps.one (show Kd.M Kd.string _ _ _ (⟨#[70, 76, 65, 71, 83]⟩ : ByteArray) [.string (⟨#[70, 76, 65, 71, 83]⟩ : ByteArray)] from rfl) (Reps.one (show Kd.M Kd.string _ _ _ (⟨#[73, 78, 84, 69, 82, 78, 65, 76, 68, 65, 84, 69]⟩ : ByteArray) [.string (⟨#[73, 78, 84, 69, 82, 78, 65, 76, 68, 65, 84, 69]⟩ : ByteArray)] from rfl) (Reps.one (show Kd.M Kd.string _ _ _ (⟨#[82, 70, 67, 56, 50, 50, 46, 83, 73, 90, 69]⟩ : ByteArray) [.string (⟨#[82, 70, 67, 56, 50, 50, 46, 83, 73, 90, 69]⟩ : ByteArray)] from rfl) (Reps.none _ _))))); intro v105 w6 ho7 hb hg_ hnew_; clear hg_ hnew_; (first | rw [← Ny104.out] at ho7 | (simp only [Int.reduceToNat] at ho7; rw [← Ny104.out] at ho7)); have n0_ := Aside0.mk (Kd.R_lower ho7 (below_size (by repeat (first | (with_reducible first | exact HB.out | apply below_alloc | apply pw_below_drewN | apply below_drew1) | exact HB.out)))); have n1_ := Aside0.mk (below_step (by repeat (first | (with_reducible first | exact HB.out | apply below_alloc | apply pw_below_drewN | apply below_drew1) | exact HB.out)) hb); clear HB; have HO106 := n0_; have HB := n1_; clear n0_ n1_; clear hb ho7))
      go_ret
      exact ⟨_, by first | rfl | (simp [errW_none, errW_some] <;> rfl) | (simp [*, errW_none, errW_some] <;> rfl), by (with_reducible repeat (first | apply Kd.R_alloc | apply Kd.R_drewN | apply Kd.R_drew)); exact HO106.out, by repeat (first | (with_reducible first | exact HB.out | apply below_alloc | apply pw_below_drewN | apply below_drew1) | exact HB.out)⟩
    · rw [if_neg c5] at H
      have c5b0 : (a0.toList == ([70, 65, 83, 84] : List UInt8)) = false := beq_eq_false_iff_ne.mpr c5
      have c5b1 : (a0.toList != ([70, 65, 83, 84] : List UInt8)) = true := bne_iff_ne.mpr c5
      by_cases c8 : a0.toList = ([70, 85, 76, 76] : List UInt8)
      · rw [if_pos c8] at H
        have c8b0 : (a0.toList == ([70, 85, 76, 76] : List UInt8)) = true := beq_iff_eq.mpr c8
        have c8b1 : (a0.toList != ([70, 85, 76, 76] : List UInt8)) = false := bne_eq_false_iff_eq.mpr c8
        clear c8
        obtain ⟨y107, hy107⟩ : ∃ y_ : List ByteArray, y_ = (([(⟨#[70, 76, 65, 71, 83]⟩ : ByteArray), (⟨#[73, 78, 84, 69, 82, 78, 65, 76, 68, 65, 84, 69]⟩ : ByteArray), (⟨#[82, 70, 67, 56, 50, 50, 46, 83, 73, 90, 69]⟩ : ByteArray), (⟨#[69, 78, 86, 69, 76, 79, 80, 69]⟩ : ByteArray), (⟨#[66, 79, 68, 89]⟩ : ByteArray)] : List ByteArray)) := ⟨_, rfl⟩
        replace H : (some y107) = some r := by first | (rw [hy107]; with_reducible exact H) | (have H2_ := (Option.bind_some _ _).symm.trans H; rw [hy107]; with_reducible exact H2_) | (have H2_ := (Option.bind_some _ _).symm.trans H; with_reducible exact H2_) | with_reducible exact H | (rw [hy107]; exact H) | exact H
        have Ny107 := Aside0.mk hy107
        clear hy107
        obtain rfl := Option.some.inj H
        go_enter Try.func23, Try.ntmps23
        go_wp2_with (first | ((with_reducible refine gate_dst (N := 14) rfl ?_); refine Kd.R_lit Kd.string _ 46 ?hg (N := 14) ?hd (xs := ([(⟨#[70, 76, 65, 71, 83]⟩ : ByteArray), (⟨#[73, 78, 84, 69, 82, 78, 65, 76, 68, 65, 84, 69]⟩ : ByteArray), (⟨#[82, 70, 67, 56, 50, 50, 46, 83, 73, 90, 69]⟩ : ByteArray), (⟨#[69, 78, 86, 69, 76, 79, 80, 69]⟩ : ByteArray), (⟨#[66, 79, 68, 89]⟩ : ByteArray)] : List ByteArray)) (inner := [.string (⟨#[70, 76, 65, 71, 83]⟩ : ByteArray), .string (⟨#[73, 78, 84, 69, 82, 78, 65, 76, 68, 65, 84, 69]⟩ : ByteArray), .string (⟨#[82, 70, 67, 56, 50, 50, 46, 83, 73, 90, 69]⟩ : ByteArray), .string (⟨#[69, 78, 86, 69, 76, 79, 80, 69]⟩ : ByteArray), .string (⟨#[66, 79, 68, 89]⟩ : ByteArray)]) (ok := fun _ => True) (okp := fun _ => True) ?hr ?hp (fun _ hk => hk) trivial (Below.refl _ _) (Nat.le_refl _) (by simp) ?_; (case hd => rfl); (case hg => rfl); (case hr => first | (go_simp; done) | (go_simp; rfl)); (case hp => exact (Reps.one (show Kd.M Kd.string _ _ _ (⟨#[70, 76, 65, 71, 83]⟩ : ByteArray) [.string (⟨#[70, 76, 65, 71, 83]⟩ : ByteArray)] from rfl) (Reps.one (show Kd.M Kd.string _ _ _ (⟨#[73, 78, 84, 69, 82, 78, 65, 76, 68, 65, 84, 69]⟩ : ByteArray) [.string (⟨#[73, 78, 84, 69, 82, 78, 65, 76, 68, 65, 84, 69]⟩ : ByteArray)] from rfl) (Reps.one (show Kd.M Kd.string _ _ _ (⟨#[82, 70, 67, 56, 50, 50, 46, 83, 73, 90, 69]⟩ : ByteArray) [.string (⟨#[82, 70, 67, 56, 50, 50, 46, 83, 73, 90, 69]⟩ : ByteArray)] from rfl) (Reps.one (show Kd.M Kd.string _ _ _ (⟨#[69, 78, 86, 69, 76, 79, 80, 69]⟩ : ByteArray) [.string (⟨#[69, 78, 86, 69, 76, 79, 80, 69]⟩ : ByteArray)] from rfl) (Reps.one (show Kd.M Kd.string _ _ _ (⟨#[66, 79, 68, 89]⟩ : ByteArray) [.string (⟨#[66, 79, 68, 89]⟩ : ByteArray)] from rfl) (Reps.none _ _))))))); intro v108 w9 ho10 hb hg_ hnew_; clear hg_ hnew_; (first | rw [← Ny107.out] at ho10 | (simp only [Int.reduceToNat] at ho10; rw [← Ny107.out] at ho10)); have n0_ := Aside0.mk (Kd.R_lower ho10 (below_size (by repeat (first | (with_reducible first | exact HB.out | apply below_alloc | apply pw_below_drewN | apply below_drew1) | exact HB.out)))); have n1_ := Aside0.mk (below_step (by repeat (first | (with_reducible first | exact HB.out | apply below_alloc | apply pw_below_drewN | apply below_drew1) | exact HB.out)) hb); clear HB; have HO109 := n0_; have HB := n1_; clear n0_ n1_; clear hb ho10))
        go_ret
        exact ⟨_, by first | rfl | (simp [errW_none, errW_some] <;> rfl) | (simp [*, errW_none, errW_some] <;> rfl), by (with_reducible repeat (first | apply Kd.R_alloc | apply Kd.R_drewN | apply Kd.R_drew)); exact HO109.out, by repeat (first | (with_reducible first | exact HB.out | apply below_alloc | apply pw_below_drewN | apply below_drew1) | exact HB.out)⟩
      · rw [if_neg c8] at H
        have c8b0 : (a0.toList == ([70, 85, 76, 76] : List UInt8)) = false := beq_eq_false_iff_ne.mpr c8
        have c8b1 : (a0.toList != ([70, 85, 76, 76] : List UInt8)) = true := bne_iff_ne.mpr c8
        obtain ⟨y110, hy110⟩ : ∃ y_ : List ByteArray, y_ = (([a0] : List ByteArray)) := ⟨_, rfl⟩
        replace H : (some y110) = some r := by first | (rw [hy110]; with_reducible exact H) | (have H2_ := (Option.bind_some _ _).symm.trans H; rw [hy110]; with_reducible exact H2_) | (have H2_ := (Option.bind_some _ _).symm.trans H; with_reducible exact H2_) | with_reducible exact H | (rw [hy110]; exact H) | exact H
        have Ny110 := Aside0.mk hy110
        clear hy110
        obtain rfl := Option.some.inj H
        go_enter Try.func23, Try.ntmps23
        go_wp2_with (first | ((with_reducible refine gate_dst (N := 5) rfl ?_); refine Kd.R_lit Kd.string _ 46 ?hg (N := 5) ?hd (xs := ([a0] : List ByteArray)) (inner := [.string a0]) (ok := fun _ => True) (okp := fun _ => True) ?hr ?hp (fun _ hk => hk) trivial (Below.refl _ _) (Nat.le_refl _) (by simp) ?_; (case hd => rfl); (case hg => rfl); (case hr => first | (go_simp; done) | (go_simp; rfl)); (case hp => exact (Reps.one (show Kd.M Kd.string _ _ _ a0 [.string a0] from rfl) (Reps.none _ _))); intro v111 w11 ho12 hb hg_ hnew_; clear hg_ hnew_; (first | rw [← Ny110.out] at ho12 | (simp only [Int.reduceToNat] at ho12; rw [← Ny110.out] at ho12)); have n0_ := Aside0.mk (Kd.R_lower ho12 (below_size (by repeat (first | (with_reducible first | exact HB.out | apply below_alloc | apply pw_below_drewN | apply below_drew1) | exact HB.out)))); have n1_ := Aside0.mk (below_step (by repeat (first | (with_reducible first | exact HB.out | apply below_alloc | apply pw_below_drewN | apply below_drew1) | exact HB.out)) hb); clear HB; have HO112 := n0_; have HB := n1_; clear n0_ n1_; clear hb ho12))
        go_ret
        exact ⟨_, by first | rfl | (simp [errW_none, errW_some] <;> rfl) | (simp [*, errW_none, errW_some] <;> rfl), by (with_reducible repeat (first | apply Kd.R_alloc | apply Kd.R_drewN | apply Kd.R_drew)); exact HO112.out, by repeat (first | (with_reducible first | exact HB.out | apply below_alloc | apply pw_below_drewN | apply below_drew1) | exact HB.out)⟩

/-! ### impl_ExpandedItem: function 9 -/
def impl_ExpandedItem.l0 : Nat → List ByteArray → List ByteArray → Int → Int → Option (List ByteArray)
  | 0, _, _, _, _ => none
  | k + 1, x3, x7, x8, x9 => if x9 < x8 then (if 0 ≤ x9 then (if x9 < (x7.length : Int) then (if x3.length < 8796093022208 then (impl_ExpandedItem.l0 k (x3 ++ [rdOf ByteArray.empty x7 x9]) x7 x8 (wrap64 (x9 + 1))) else (none)) else (none)) else (none)) else (some x3)
def impl_ExpandedItem.f (k : Nat) (a0 : ByteArray) : Option (List ByteArray) := (goimap_FetchItem_Expand.f a0).bind fun t113 => (impl_ExpandedItem.l0 k ([] : List ByteArray) t113 (t113.length : Int) 0)
theorem impl_ExpandedItem.mono_l : ∀ k, (∀ y0 y1 y2 y3, LeO (impl_ExpandedItem.l0 k y0 y1 y2 y3) (impl_ExpandedItem.l0 (k + 1) y0 y1 y2 y3))
  | 0 => fun _ _ _ _ r h => by simp [impl_ExpandedItem.l0] at h
  | k + 1 => by
    have ih0 := impl_ExpandedItem.mono_l k
    · intro y0 y1 y2 y3
      unfold impl_ExpandedItem.l0
      repeat' first
      | (with_reducible exact ih0 _ _ _ _)
      | (with_reducible exact LeO.refl _)
      | (with_reducible exact LeO.none _)
      | (with_reducible refine LeO.ite ?_ ?_)
      | (with_reducible refine LeO.bind ?_ (fun _ => ?_))
      | exact ih0 _ _ _ _
      | exact LeO.none _
      | refine LeO.ite ?_ ?_
      | refine LeO.bind ?_ (fun _ => ?_)
theorem impl_ExpandedItem.mono : ∀ a0 k, LeO (impl_ExpandedItem.f k a0) (impl_ExpandedItem.f (k + 1) a0) := by
  intro a0 k
  have ih0 := impl_ExpandedItem.mono_l k
  unfold impl_ExpandedItem.f
  repeat' first
      | (with_reducible exact ih0 _ _ _ _)
      | (with_reducible exact LeO.refl _)
      | (with_reducible exact LeO.none _)
      | (with_reducible refine LeO.ite ?_ ?_)
      | (with_reducible refine LeO.bind ?_ (fun _ => ?_))
      | exact ih0 _ _ _ _
      | exact LeO.none _
      | refine LeO.ite ?_ ?_
      | refine LeO.bind ?_ (fun _ => ?_)
set_option maxHeartbeats 8000000 in
set_option maxRecDepth 100000 in
theorem impl_ExpandedItem.calls (k : Nat) (a0 : ByteArray) (r : List ByteArray) (w : World) (h : impl_ExpandedItem.f k a0 = some r) :
    Calls Try.prog 9 #[.string a0] w fun e w' => ∃ v0_ : Value, e = .returned (v0_) ∧ Kd.R Kd.string 9 w' w.heap.size (fun _ => True) v0_ r ∧ Below w.heap.size w w' := by
  have HB := Aside0.mk (Below.refl w.heap.size w)
  have H : ((goimap_FetchItem_Expand.f a0).bind fun t113 => (impl_ExpandedItem.l0 k ([] : List ByteArray) t113 (t113.length : Int) 0)) = some r := h
  clear h
  replace H := Option.bind_eq_some_iff.mp H
  obtain ⟨t113, A20, H⟩ := H
  replace H : (impl_ExpandedItem.l0 k ([] : List ByteArray) t113 (t113.length : Int) 0) = some r := H
  have A2 := Aside0.mk A20
  clear A20
  have H' := Aside0.mk H
  clear H
  go_enter Try.func9, Try.ntmps9
  go_wp2_with (first | ((with_reducible refine gate_callee (f := 23) rfl ?_); refine goesL_ (some 7) rfl rfl Try.func23 (by kernel_rfl) rfl #[.string a0] rfl (by (try simp only [List.map_toArray, List.map_cons, List.map_nil]); first | done | rfl | (simp only [List.length_drop, List.length_take]; rfl)) ?_; (with_reducible refine (goimap_FetchItem_Expand.calls a0 t113 _ A2.out).mono ?_); rintro e w3 ⟨v114, rfl, ho0, hb⟩; refine ⟨_, rfl, ?_⟩; have n0_ := Aside0.mk (Kd.R_lower ho0 (below_size (by repeat (first | (with_reducible first | exact HB.out | apply below_alloc | apply pw_below_drewN | apply below_drew1) | exact HB.out)))); have n1_ := Aside0.mk (below_step (by repeat (first | (with_reducible first | exact HB.out | apply below_alloc | apply pw_below_drewN | apply below_drew1) | exact HB.out)) hb); clear HB; have HO115 := n0_; have HB := n1_; clear n0_ n1_; (try clear hb); (try clear hb2); (try clear hk); (try clear hi); (try clear ho0); obtain ⟨Ao4, co4, eo4⟩ := Kd.R_slice HO115.out; subst eo4))
  go_loopg [3, 9] k (fun kq v3 v9 w' => ∃ (x3_1 : List ByteArray) (x9_1 : Int), v9 = .int .i64 x9_1 ∧ Aside0 (impl_ExpandedItem.l0 kq x3_1 t113 (t113.length : Int) x9_1 = some r) ∧ Aside0 (kq ≤ k) ∧ Aside0 (Kd.R Kd.string 9 w' w.heap.size (fun _ => True) v3 x3_1) ∧ Aside0 (Kd.R Kd.string 46 w' w.heap.size (fun _ => True) (.slice Ao4 t113.length co4) t113) ∧ Aside0 (Below w.heap.size w w'))
  case atStart => exact ⟨(([] : List ByteArray)), (0), (by first | rfl | (simp; done) | (simp [*]; done)), H', ⟨Nat.le_refl _⟩, ⟨by first | exact Kd.R_nil _ _ _ _ _ | exact Kd.N_nil _ _ _ _ _ | exact Kd.V_nil _ _ _ _ _ | exact Kd.Q_nil _ _ _ _ _ | exact Kd.S_nil _ _ _ _ _⟩, ⟨by (with_reducible repeat (first | apply Kd.R_alloc | apply Kd.R_drewN | apply Kd.R_drew)); exact HO115.out⟩, ⟨by repeat (first | (with_reducible first | exact HB.out | apply below_alloc | apply pw_below_drewN | apply below_drew1) | exact HB.out)⟩⟩
  case round =>
    clear H'
    try clear c2
    try clear p2
    obtain ⟨x3_1, x9_1, rfl, HA, HK1, HO_3, HO_7, HB⟩ := hrel
    cases gk with
    | zero => exact absurd HA.out (by simp [impl_ExpandedItem.l0])
    | succ k1 =>
      have H := HA.out
      clear HA
      simp only [impl_ExpandedItem.l0] at H
      by_cases c5 : x9_1 < (t113.length : Int)
      · rw [if_pos c5] at H
        have c5b0 : decide (x9_1 < (t113.length : Int)) = true := decide_eq_true c5
        clear c5
        by_cases c6 : 0 ≤ x9_1
        · rw [if_pos c6] at H
          have c6b0 : decide (0 ≤ x9_1) = true := decide_eq_true c6
          clear c6
          by_cases c7 : x9_1 < (t113.length : Int)
          · rw [if_pos c7] at H
            have c7b0 : decide (x9_1 < (t113.length : Int)) = true := decide_eq_true c7
            clear c7
            by_cases c8 : x3_1.length < 8796093022208
            · rw [if_pos c8] at H
              have LMc8 := Aside0.mk c8
              clear c8
              obtain ⟨y117, hy117⟩ : ∃ y_ : List ByteArray, y_ = (x3_1 ++ [rdOf ByteArray.empty t113 x9_1]) := ⟨_, rfl⟩
              replace H : (impl_ExpandedItem.l0 k1 y117 t113 (t113.length : Int) (wrap64 (x9_1 + 1))) = some r := by first | (rw [hy117]; with_reducible exact H) | (have H2_ := (Option.bind_some _ _).symm.trans H; rw [hy117]; with_reducible exact H2_) | (have H2_ := (Option.bind_some _ _).symm.trans H; with_reducible exact H2_) | with_reducible exact H | (rw [hy117]; exact H) | exact H
              have Ny117 := Aside0.mk hy117
              clear hy117
              have H' := Aside0.mk H
              clear H
              have p116 : 0 ≤ (x9_1 : Int) := of_decide_eq_true (by first | (with_reducible assumption) | assumption)
              have q116 : x9_1 < (t113.length : Int) := of_decide_eq_true (by first | (with_reducible assumption) | assumption)
              obtain ⟨ad116, e116, hx116_0⟩ := Kd.at_string (Kd.R_reads' HO_7.out).2.2 x9_1 p116 q116
              cases e116
              replace p116 := eq_true p116
              replace q116 := eq_true q116
              go_wp2_with (first | ((with_reducible refine gate_builtin (b := .append) (xs := #[.tmp 13, .tmp 15]) rfl ?_); at_builtin; refine Kd.R_append Kd.string (w0 := w) w.heap.size rfl (.tmp 13) (.tmp 15) 22 9 (.string ⟨#[]⟩) 16 rfl Try.underlying22 info9 rfl (by decide) (by omega) u3 x3_1 (rdOf ByteArray.empty t113 x9_1) [.string (rdOf ByteArray.empty t113 x9_1)] (fun _ => True) (fun _ => False) rfl rfl ?aP (fun _ hk => hk.elim) ?aF ?aO ?aB ?aS ?aL ?_; (case aP => exact rfl); (case aB => exact (by repeat (first | (with_reducible first | exact HB.out | apply below_alloc | apply pw_below_drewN | apply below_drew1) | exact HB.out))); (case aF => exact (fun _ _ => trivial)); (case aO => exact (by (with_reducible repeat (first | apply Kd.R_alloc | apply Kd.R_drewN | apply Kd.R_drew)); exact HO_3.out)); (case aS => exact (below_size (by repeat (first | (with_reducible first | exact HB.out | apply below_alloc | apply pw_below_drewN | apply below_drew1) | exact HB.out)))); (case aL => have := LMc8.out; omega); intro v118 w9 ho hb hg hat; rw [← Ny117.out] at ho; have n0_ := Aside0.mk (Kd.R_over' (by (with_reducible repeat (first | apply Kd.R_alloc | apply Kd.R_drewN | apply Kd.R_drew)); exact HO_7.out) (Kd.R_typed (by (with_reducible repeat (first | apply Kd.R_alloc | apply Kd.R_drewN | apply Kd.R_drew)); exact HO_3.out)) (by decide) hg); have n1_ := Aside0.mk (hb); have n2_ := Aside0.mk (ho); clear HO_7; clear HB; clear HO_3; have HO_7 := n0_; have HB := n1_; have HO119 := n2_; clear n0_ n1_ n2_; clear ho hb hg hat))
              go_roundg k1
              case measure => have := HK1.out; omega
              case rel => exact ⟨(y117), (wrap64 (x9_1 + 1)), (by first | rfl | (simp; done) | (simp [*]; done)), H', ⟨by have := HK1.out; omega⟩, ⟨by (with_reducible repeat (first | apply Kd.R_alloc | apply Kd.R_drewN | apply Kd.R_drew)); exact HO119.out⟩, ⟨by (with_reducible repeat (first | apply Kd.R_alloc | apply Kd.R_drewN | apply Kd.R_drew)); exact HO_7.out⟩, ⟨by repeat (first | (with_reducible first | exact HB.out | apply below_alloc | apply pw_below_drewN | apply below_drew1) | exact HB.out)⟩⟩
            · rw [if_neg c8] at H
              exact absurd H (by simp)
          · rw [if_neg c7] at H
            exact absurd H (by simp)
        · rw [if_neg c6] at H
          exact absurd H (by simp)
      · rw [if_neg c5] at H
        have c5b0 : decide (x9_1 < (t113.length : Int)) = false := decide_eq_false c5
        clear c5
        obtain rfl := Option.some.inj H
        go_wp2
        go_ret
        exact ⟨_, by first | rfl | (simp [errW_none, errW_some] <;> rfl) | (simp [*, errW_none, errW_some] <;> rfl), by (with_reducible repeat (first | apply Kd.R_alloc | apply Kd.R_drewN | apply Kd.R_drew)); exact HO_3.out, by repeat (first | (with_reducible first | exact HB.out | apply below_alloc | apply pw_below_drewN | apply below_drew1) | exact HB.out)⟩

/-! ### laws_FnExpandedItem: function 3 -/
mutual
def laws_FnExpandedItem.l0 : Nat → ByteArray → Int → Int → Option (Bool)
  | 0, _, _, _ => none
  | k + 1, x0, x11, x12 => if x12 < x11 then (if 0 ≤ x12 then (if x12 < (x0.size : Int) then (if (bt x0 x12) < 65 then (if (bt x0 x12) = 46 then (laws_FnExpandedItem.l0 k x0 x11 (wrap64 (x12 + 1))) else (some true)) else (if (bt x0 x12) > 90 then (if (bt x0 x12) = 46 then (laws_FnExpandedItem.l0 k x0 x11 (wrap64 (x12 + 1))) else (some true)) else (laws_FnExpandedItem.l0 k x0 x11 (wrap64 (x12 + 1))))) else (none)) else (none)) else (if x0.toList = ([65, 76, 76] : List UInt8) then (laws_FnExpandedItem.j1 k x0 (([(⟨#[70, 76, 65, 71, 83]⟩ : ByteArray), (⟨#[73, 78, 84, 69, 82, 78, 65, 76, 68, 65, 84, 69]⟩ : ByteArray), (⟨#[82, 70, 67, 56, 50, 50, 46, 83, 73, 90, 69]⟩ : ByteArray), (⟨#[69, 78, 86, 69, 76, 79, 80, 69]⟩ : ByteArray)] : List ByteArray))) else (if x0.toList = ([70, 65, 83, 84] : List UInt8) then (laws_FnExpandedItem.j1 k x0 (([(⟨#[70, 76, 65, 71, 83]⟩ : ByteArray), (⟨#[73, 78, 84, 69, 82, 78, 65, 76, 68, 65, 84, 69]⟩ : ByteArray), (⟨#[82, 70, 67, 56, 50, 50, 46, 83, 73, 90, 69]⟩ : ByteArray)] : List ByteArray))) else (if x0.toList = ([70, 85, 76, 76] : List UInt8) then (laws_FnExpandedItem.j1 k x0 (([(⟨#[70, 76, 65, 71, 83]⟩ : ByteArray), (⟨#[73, 78, 84, 69, 82, 78, 65, 76, 68, 65, 84, 69]⟩ : ByteArray), (⟨#[82, 70, 67, 56, 50, 50, 46, 83, 73, 90, 69]⟩ : ByteArray), (⟨#[69, 78, 86, 69, 76, 79, 80, 69]⟩ : ByteArray), (⟨#[66, 79, 68, 89]⟩ : ByteArray)] : List ByteArray))) else (laws_FnExpandedItem.j1 k x0 (([x0] : List ByteArray))))))
def laws_FnExpandedItem.j1 : Nat → ByteArray → List ByteArray → Option (Bool)
  | 0, _, _ => none
  | k + 1, x0, x4 => (impl_ExpandedItem.f k x0).bind fun t132 => (if (t132.length : Int) = (x4.length : Int) then (laws_FnExpandedItem.l1 k x4 t132 (t132.length : Int) 0) else (some false))
def laws_FnExpandedItem.l1 : Nat → List ByteArray → List ByteArray → Int → Int → Option (Bool)
  | 0, _, _, _, _ => none
  | k + 1, x4, x5, x52, x53 => if x53 < x52 then (if 0 ≤ x53 then (if x53 < (x5.length : Int) then (if x53 < (x4.length : Int) then (if (rdOf ByteArray.empty x5 x53).toList = (rdOf ByteArray.empty x4 x53).toList then (laws_FnExpandedItem.l1 k x4 x5 x52 (wrap64 (x53 + 1))) else (some false)) else (none)) else (none)) else (none)) else (some true)
end
def laws_FnExpandedItem.f (k : Nat) (a0 : ByteArray) : Option (Bool) := if (a0.size : Int) > 2147483647 then (some true) else (laws_FnExpandedItem.l0 k a0 (a0.size : Int) 0)
theorem laws_FnExpandedItem.mono_l : ∀ k, (∀ y0 y1 y2, LeO (laws_FnExpandedItem.l0 k y0 y1 y2) (laws_FnExpandedItem.l0 (k + 1) y0 y1 y2)) ∧ (∀ y0 y1, LeO (laws_FnExpandedItem.j1 k y0 y1) (laws_FnExpandedItem.j1 (k + 1) y0 y1)) ∧ (∀ y0 y1 y2 y3, LeO (laws_FnExpandedItem.l1 k y0 y1 y2 y3) (laws_FnExpandedItem.l1 (k + 1) y0 y1 y2 y3))
  | 0 => ⟨fun _ _ _ r h => by simp [laws_FnExpandedItem.l0] at h, fun _ _ r h => by simp [laws_FnExpandedItem.j1] at h, fun _ _ _ _ r h => by simp [laws_FnExpandedItem.l1] at h⟩
  | k + 1 => by
    obtain ⟨ih0, ih1, ih2⟩ := laws_FnExpandedItem.mono_l k
    refine ⟨?_, ?_, ?_⟩
    · intro y0 y1 y2
      unfold laws_FnExpandedItem.l0
      repeat' first
      | (with_reducible exact ih0 _ _ _)
      | (with_reducible exact ih1 _ _)
      | (with_reducible exact ih2 _ _ _ _)
      | (with_reducible exact impl_ExpandedItem.mono _ _)
      | (with_reducible exact LeO.refl _)
      | (with_reducible exact LeO.none _)
      | (with_reducible refine LeO.ite ?_ ?_)
      | (with_reducible refine LeO.bind ?_ (fun _ => ?_))
      | exact ih0 _ _ _
      | exact ih1 _ _
      | exact ih2 _ _ _ _
      | exact impl_ExpandedItem.mono _ _
      | exact LeO.none _
      | refine LeO.ite ?_ ?_
      | refine LeO.bind ?_ (fun _ => ?_)
    · intro y0 y1
      unfold laws_FnExpandedItem.j1
      repeat' first
      | (with_reducible exact ih0 _ _ _)
      | (with_reducible exact ih1 _ _)
      | (with_reducible exact ih2 _ _ _ _)
      | (with_reducible exact impl_ExpandedItem.mono _ _)
      | (with_reducible exact LeO.refl _)
      | (with_reducible exact LeO.none _)
      | (with_reducible refine LeO.ite ?_ ?_)
      | (with_reducible refine LeO.bind ?_ (fun _ => ?_))
      | exact ih0 _ _ _
      | exact ih1 _ _
      | exact ih2 _ _ _ _
      | exact impl_ExpandedItem.mono _ _
      | exact LeO.none _
      | refine LeO.ite ?_ ?_
      | refine LeO.bind ?_ (fun _ => ?_)
    · intro y0 y1 y2 y3
      unfold laws_FnExpandedItem.l1
      repeat' first
      | (with_reducible exact ih0 _ _ _)
      | (with_reducible exact ih1 _ _)
      | (with_reducible exact ih2 _ _ _ _)
      | (with_reducible exact impl_ExpandedItem.mono _ _)
      | (with_reducible exact LeO.refl _)
      | (with_reducible exact LeO.none _)
      | (with_reducible refine LeO.ite ?_ ?_)
      | (with_reducible refine LeO.bind ?_ (fun _ => ?_))
      | exact ih0 _ _ _
      | exact ih1 _ _
      | exact ih2 _ _ _ _
      | exact impl_ExpandedItem.mono _ _
      | exact LeO.none _
      | refine LeO.ite ?_ ?_
      | refine LeO.bind ?_ (fun _ => ?_)
theorem laws_FnExpandedItem.mono : ∀ a0 k, LeO (laws_FnExpandedItem.f k a0) (laws_FnExpandedItem.f (k + 1) a0) := by
  intro a0 k
  obtain ⟨ih0, ih1, ih2⟩ := laws_FnExpandedItem.mono_l k
  unfold laws_FnExpandedItem.f
  repeat' first
      | (with_reducible exact ih0 _ _ _)
      | (with_reducible exact ih1 _ _)
      | (with_reducible exact ih2 _ _ _ _)
      | (with_reducible exact impl_ExpandedItem.mono _ _)
      | (with_reducible exact LeO.refl _)
      | (with_reducible exact LeO.none _)
      | (with_reducible refine LeO.ite ?_ ?_)
      | (with_reducible refine LeO.bind ?_ (fun _ => ?_))
      | exact ih0 _ _ _
      | exact ih1 _ _
      | exact ih2 _ _ _ _
      | exact impl_ExpandedItem.mono _ _
      | exact LeO.none _
      | refine LeO.ite ?_ ?_
      | refine LeO.bind ?_ (fun _ => ?_)
set_option maxHeartbeats 8000000 in
set_option maxRecDepth 100000 in
theorem laws_FnExpandedItem.calls (k : Nat) (a0 : ByteArray) (r : Bool) (w : World) (h : laws_FnExpandedItem.f k a0 = some r) :
    Calls Try.prog 3 #[.string a0] w fun e w' => e = .returned (.bool r) ∧ Below w.heap.size w w' := by
  have HB := Aside0.mk (Below.refl w.heap.size w)
  have H : (if (a0.size : Int) > 2147483647 then (some true) else (laws_FnExpandedItem.l0 k a0 (a0.size : Int) 0)) = some r := h
  clear h
  by_cases c2 : (a0.size : Int) > 2147483647
  · rw [if_pos c2] at H
    have c2b0 : decide (2147483647 < (a0.size : Int)) = true := decide_eq_true c2
    have c2b1 : decide (2147483647 < a0.size) = true := decide_eq_true (by omega)
    clear c2
    obtain rfl := Option.some.inj H
    go_enter Try.func3, Try.ntmps3
    go_wp2
    repeat (go_quiet (fail); try go_wp2)
    go_ret
    exact ⟨by first | rfl | (simp [errW_none, errW_some] <;> rfl) | (simp [*, errW_none, errW_some] <;> rfl), by repeat (first | (with_reducible first | exact HB.out | apply below_alloc | apply pw_below_drewN | apply below_drew1) | exact HB.out)⟩
  · rw [if_neg c2] at H
    have c2b0 : decide (2147483647 < (a0.size : Int)) = false := decide_eq_false c2
    have c2b1 : decide (2147483647 < a0.size) = false := decide_eq_false (by omega)
    clear c2
    have H' := Aside0.mk H
    clear H
    go_enter Try.func3, Try.ntmps3
    go_wp2
    repeat (go_quiet (fail); try go_wp2)
    go_loopg [12] k (fun kq v12 w' => ∃ (x12_1 : Int), v12 = .int .i64 x12_1 ∧ Aside0 (laws_FnExpandedItem.l0 kq a0 (a0.size : Int) x12_1 = some r) ∧ Aside0 (kq ≤ k) ∧ Aside0 (Below w.heap.size w w'))
    case atStart => exact ⟨(0), (by first | rfl | (simp; done) | (simp [*]; done)), H', ⟨Nat.le_refl _⟩, ⟨by repeat (first | (with_reducible first | exact HB.out | apply below_alloc | apply pw_below_drewN | apply below_drew1) | exact HB.out)⟩⟩
    case round =>
      clear H'
      try clear c2
      try clear c2b0
      try clear c2b1
      try clear p2
      obtain ⟨x12_1, rfl, HA, HK1, HB⟩ := hrel
      cases gk with
      | zero => exact absurd HA.out (by simp [laws_FnExpandedItem.l0])
      | succ k1 =>
        have H := HA.out
        clear HA
        simp only [laws_FnExpandedItem.l0] at H
        by_cases c3 : x12_1 < (a0.size : Int)
        · rw [if_pos c3] at H
          have c3b0 : decide (x12_1 < (a0.size : Int)) = true := decide_eq_true c3
          clear c3
          by_cases c4 : 0 ≤ x12_1
          · rw [if_pos c4] at H
            have c4b0 : decide (0 ≤ x12_1) = true := decide_eq_true c4
            clear c4
            by_cases c5 : x12_1 < (a0.size : Int)
            · rw [if_pos c5] at H
              have c5b0 : decide (x12_1 < (a0.size : Int)) = true := decide_eq_true c5
              clear c5
              by_cases c7 : (bt a0 x12_1) < 65
              · rw [if_pos c7] at H
                have c7b0 : decide ((bt a0 x12_1) < 65) = true := decide_eq_true c7
                clear c7
                by_cases c9 : (bt a0 x12_1) = 46
                · rw [if_pos c9] at H
                  have c9b0 : ((bt a0 x12_1) == 46) = true := beq_iff_eq.mpr c9
                  have c9b1 : ((bt a0 x12_1) != 46) = false := bne_eq_false_iff_eq.mpr c9
                  clear c9
                  have H' := Aside0.mk H
                  clear H
                  have p6 : 0 ≤ (x12_1 : Int) := of_decide_eq_true (by first | (with_reducible assumption) | assumption)
                  have q6 : x12_1 < (a0.size : Int) := of_decide_eq_true (by first | (with_reducible assumption) | assumption)
                  have hx6 := bt_at a0 x12_1
                  replace p6 := eq_true p6
                  replace q6 := eq_true q6
                  have p8 : 0 ≤ (x12_1 : Int) := of_decide_eq_true (by first | (with_reducible assumption) | assumption)
                  have q8 : x12_1 < (a0.size : Int) := of_decide_eq_true (by first | (with_reducible assumption) | assumption)
                  have hx8 := bt_at a0 x12_1
                  replace p8 := eq_true p8
                  replace q8 := eq_true q8
                  go_wp2
                  repeat (go_quiet (fail); try go_wp2)
                  go_roundg k1
                  case measure => have := HK1.out; omega
                  case rel => exact ⟨(wrap64 (x12_1 + 1)), (by first | rfl | (simp; done) | (simp [*]; done)), H', ⟨by have := HK1.out; omega⟩, ⟨by repeat (first | (with_reducible first | exact HB.out | apply below_alloc | apply pw_below_drewN | apply below_drew1) | exact HB.out)⟩⟩
                · rw [if_neg c9] at H
                  have c9b0 : ((bt a0 x12_1) == 46) = false := beq_eq_false_iff_ne.mpr c9
                  have c9b1 : ((bt a0 x12_1) != 46) = true := bne_iff_ne.mpr c9
                  obtain rfl := Option.some.inj H
                  have p6 : 0 ≤ (x12_1 : Int) := of_decide_eq_true (by first | (with_reducible assumption) | assumption)
                  have q6 : x12_1 < (a0.size : Int) := of_decide_eq_true (by first | (with_reducible assumption) | assumption)
                  have hx6 := bt_at a0 x12_1
                  replace p6 := eq_true p6
                  replace q6 := eq_true q6
                  have p8 : 0 ≤ (x12_1 : Int) := of_decide_eq_true (by first | (with_reducible assumption) | assumption)
                  have q8 : x12_1 < (a0.size : Int) := of_decide_eq_true (by first | (with_reducible assumption) | assumption)
                  have hx8 := bt_at a0 x12_1
                  replace p8 := eq_true p8
                  replace q8 := eq_true q8
                  go_wp2
                  repeat (go_quiet (fail); try go_wp2)
                  go_ret
                  exact ⟨by first | rfl | (simp [errW_none, errW_some] <;> rfl) | (simp [*, errW_none, errW_some] <;> rfl), by repeat (first | (with_reducible first | exact HB.out | apply below_alloc | apply pw_below_drewN | apply below_drew1) | exact HB.out)⟩
              · rw [if_neg c7] at H
                have c7b0 : decide ((bt a0 x12_1) < 65) = false := decide_eq_false c7
                clear c7
                by_cases c11 : (bt a0 x12_1) > 90
                · rw [if_pos c11] at H
                  have c11b0 : decide (90 < (bt a0 x12_1)) = true := decide_eq_true c11
                  clear c11
                  by_cases c13 : (bt a0 x12_1) = 46
                  · rw [if_pos c13] at H
                    have c13b0 : ((bt a0 x12_1) == 46) = true := beq_iff_eq.mpr c13
                    have c13b1 : ((bt a0 x12_1) != 46) = false := bne_eq_false_iff_eq.mpr c13
                    clear c13
                    have H' := Aside0.mk H
                    clear H
                    have p6 : 0 ≤ (x12_1 : Int) := of_decide_eq_true (by first | (with_reducible assumption) | assumption)
                    have q6 : x12_1 < (a0.size : Int) := of_decide_eq_true (by first | (with_reducible assumption) | assumption)
                    have hx6 := bt_at a0 x12_1
                    replace p6 := eq_true p6
                    replace q6 := eq_true q6
                    have p10 : 0 ≤ (x12_1 : Int) := of_decide_eq_true (by first | (with_reducible assumption) | assumption)
                    have q10 : x12_1 < (a0.size : Int) := of_decide_eq_true (by first | (with_reducible assumption) | assumption)
                    have hx10 := bt_at a0 x12_1
                    replace p10 := eq_true p10
                    replace q10 := eq_true q10
                    have p12 : 0 ≤ (x12_1 : Int) := of_decide_eq_true (by first | (with_reducible assumption) | assumption)
                    have q12 : x12_1 < (a0.size : Int) := of_decide_eq_true (by first | (with_reducible assumption) | assumption)
                    have hx12 := bt_at a0 x12_1
                    replace p12 := eq_true p12
                    replace q12 := eq_true q12
                    go_wp2
                    repeat (go_quiet (fail); try go_wp2)
                    go_roundg k1
                    case measure => have := HK1.out; omega
                    case rel => exact ⟨(wrap64 (x12_1 + 1)), (by first | rfl | (simp; done) | (simp [*]; done)), H', ⟨by have := HK1.out; omega⟩, ⟨by repeat (first | (with_reducible first | exact HB.out | apply below_alloc | apply pw_below_drewN | apply below_drew1) | exact HB.out)⟩⟩
                  · rw [if_neg c13] at H
                    have c13b0 : ((bt a0 x12_1) == 46) = false := beq_eq_false_iff_ne.mpr c13
                    have c13b1 : ((bt a0 x12_1) != 46) = true := bne_iff_ne.mpr c13
                    obtain rfl := Option.some.inj H
                    have p6 : 0 ≤ (x12_1 : Int) := of_decide_eq_true (by first | (with_reducible assumption) | assumption)
                    have q6 : x12_1 < (a0.size : Int) := of_decide_eq_true (by first | (with_reducible assumption) | assumption)
                    have hx6 := bt_at a0 x12_1
                    replace p6 := eq_true p6
                    replace q6 := eq_true q6
                    have p10 : 0 ≤ (x12_1 : Int) := of_decide_eq_true (by first | (with_reducible assumption) | assumption)
                    have q10 : x12_1 < (a0.size : Int) := of_decide_eq_true (by first | (with_reducible assumption) | assumption)
                    have hx10 := bt_at a0 x12_1
                    replace p10 := eq_true p10
                    replace q10 := eq_true q10
                    have p12 : 0 ≤ (x12_1 : Int) := of_decide_eq_true (by first | (with_reducible assumption) | assumption)
                    have q12 : x12_1 < (a0.size : Int) := of_decide_eq_true (by first | (with_reducible assumption) | assumption)
                    have hx12 := bt_at a0 x12_1
                    replace p12 := eq_true p12
                    replace q12 := eq_true q12
                    go_wp2
                    repeat (go_quiet (fail); try go_wp2)
                    go_ret
                    exact ⟨by first | rfl | (simp [errW_none, errW_some] <;> rfl) | (simp [*, errW_none, errW_some] <;> rfl), by repeat (first | (with_reducible first | exact HB.out | apply below_alloc | apply pw_below_drewN | apply below_drew1) | exact HB.out)⟩
                · rw [if_neg c11] at H
                  have c11b0 : decide (90 < (bt a0 x12_1)) = false := decide_eq_false c11
                  clear c11
                  have H' := Aside0.mk H
                  clear H
                  have p6 : 0 ≤ (x12_1 : Int) := of_decide_eq_true (by first | (with_reducible assumption) | assumption)
                  have q6 : x12_1 < (a0.size : Int) := of_decide_eq_true (by first | (with_reducible assumption) | assumption)
                  have hx6 := bt_at a0 x12_1
                  replace p6 := eq_true p6
                  replace q6 := eq_true q6
                  have p10 : 0 ≤ (x12_1 : Int) := of_decide_eq_true (by first | (with_reducible assumption) | assumption)
                  have q10 : x12_1 < (a0.size : Int) := of_decide_eq_true (by first | (with_reducible assumption) | assumption)
                  have hx10 := bt_at a0 x12_1
                  replace p10 := eq_true p10
                  replace q10 := eq_true q10
                  go_wp2
                  repeat (go_quiet (fail); try go_wp2)
                  go_roundg k1
                  case measure => have := HK1.out; omega
                  case rel => exact ⟨(wrap64 (x12_1 + 1)), (by first | rfl | (simp; done) | (simp [*]; done)), H', ⟨by have := HK1.out; omega⟩, ⟨by repeat (first | (with_reducible first | exact HB.out | apply below_alloc | apply pw_below_drewN | apply below_drew1) | exact HB.out)⟩⟩
            · rw [if_neg c5] at H
              exact absurd H (by simp)
          · rw [if_neg c4] at H
            exact absurd H (by simp)
        · rw [if_neg c3] at H
          have c3b0 : decide (x12_1 < (a0.size : Int)) = false := decide_eq_false c3
          clear c3
          obtain ⟨y120, hy120⟩ : ∃ y_ : List ByteArray, y_ = (([a0] : List ByteArray)) := ⟨_, rfl⟩
          replace H : (if a0.toList = ([65, 76, 76] : List UInt8) then (laws_FnExpandedItem.j1 k1 a0 (([(⟨#[70, 76, 65, 71, 83]⟩ : ByteArray), (⟨#[73, 78, 84, 69, 82, 78, 65, 76, 68, 65, 84, 69]⟩ : ByteArray), (⟨#[82, 70, 67, 56, 50, 50, 46, 83, 73, 90, 69]⟩ : ByteArray), (⟨#[69, 78, 86, 69, 76, 79, 80, 69]⟩ : ByteArray)] : List ByteArray))) else (if a0.toList = ([70, 65, 83, 84] : List UInt8) then (laws_FnExpandedItem.j1 k1 a0 (([(⟨#[70, 76, 65, 71, 83]⟩ : ByteArray), (⟨#[73, 78, 84, 69, 82, 78, 65, 76, 68, 65, 84, 69]⟩ : ByteArray), (⟨#[82, 70, 67, 56, 50, 50, 46, 83, 73, 90, 69]⟩ : ByteArray)] : List ByteArray))) else (if a0.toList = ([70, 85, 76, 76] : List UInt8) then (laws_FnExpandedItem.j1 k1 a0 (([(⟨#[70, 76, 65, 71, 83]⟩ : ByteArray), (⟨#[73, 78, 84, 69, 82, 78, 65, 76, 68, 65, 84, 69]⟩ : ByteArray), (⟨#[82, 70, 67, 56, 50, 50, 46, 83, 73, 90, 69]⟩ : ByteArray), (⟨#[69, 78, 86, 69, 76, 79, 80, 69]⟩ : ByteArray), (⟨#[66, 79, 68, 89]⟩ : ByteArray)] : List ByteArray))) else (laws_FnExpandedItem.j1 k1 a0 y120)))) = some r := by first | (rw [hy120]; with_reducible exact H) | (have H2_ := (Option.bind_some _ _).symm.trans H; rw [hy120]; with_reducible exact H2_) | (have H2_ := (Option.bind_some _ _).symm.trans H; with_reducible exact H2_) | with_reducible exact H | (rw [hy120]; exact H) | exact H
          have Ny120 := Aside0.mk hy120
          clear hy120
          have HC14 := Aside0.mk H
          clear H
          go_upto_block 2 with (first | ((with_reducible refine gate_dst (N := 33) rfl ?_); refine Kd.R_lit Kd.string _ 9 ?hg (N := 33) ?hd (xs := ([a0] : List ByteArray)) (inner := [.string a0]) (ok := fun _ => True) (okp := fun _ => True) ?hr ?hp (fun _ hk => hk) trivial (Below.refl _ _) (Nat.le_refl _) (by simp) ?_; (case hd => rfl); (case hg => rfl); (case hr => first | (go_simp; done) | (go_simp; rfl)); (case hp => exact (Reps.one (show Kd.M Kd.string _ _ _ a0 [.string a0] from rfl) (Reps.none _ _))); intro v121 w15 ho16 hb hg_ hnew_; clear hg_ hnew_; (first | rw [← Ny120.out] at ho16 | (simp only [Int.reduceToNat] at ho16; rw [← Ny120.out] at ho16)); have n0_ := Aside0.mk (Kd.R_lower ho16 (below_size (by repeat (first | (with_reducible first | exact HB.out | apply below_alloc | apply pw_below_drewN | apply below_drew1) | exact HB.out)))); have n1_ := Aside0.mk (below_step (by repeat (first | (with_reducible first | exact HB.out | apply below_alloc | apply pw_below_drewN | apply below_drew1) | exact HB.out)) hb); clear HB; have HO122 := n0_; have HB := n1_; clear n0_ n1_; clear hb ho16))
          repeat (go_quiet (first | ((with_reducible refine gate_dst (N := 33) rfl ?_); refine Kd.R_lit Kd.string _ 9 ?hg (N := 33) ?hd (xs := ([a0] : List ByteArray)) (inner := [.string a0]) (ok := fun _ => True) (okp := fun _ => True) ?hr ?hp (fun _ hk => hk) trivial (Below.refl _ _) (Nat.le_refl _) (by simp) ?_; (case hd => rfl); (case hg => rfl); (case hr => first | (go_simp; done) | (go_simp; rfl)); (case hp => exact (Reps.one (show Kd.M Kd.string _ _ _ a0 [.string a0] from rfl) (Reps.none _ _))); intro v121 w15 ho16 hb hg_ hnew_; clear hg_ hnew_; (first | rw [← Ny120.out] at ho16 | (simp only [Int.reduceToNat] at ho16; rw [← Ny120.out] at ho16)); have n0_ := Aside0.mk (Kd.R_lower ho16 (below_size (by repeat (first | (with_reducible first | exact HB.out | apply below_alloc | apply pw_below_drewN | apply below_drew1) | exact HB.out)))); have n1_ := Aside0.mk (below_step (by repeat (first | (with_reducible first | exact HB.out | apply below_alloc | apply pw_below_drewN | apply below_drew1) | exact HB.out)) hb); clear HB; have HO122 := n0_; have HB := n1_; clear n0_ n1_; clear hb ho16)); go_upto_block 2 with (first | ((with_reducible refine gate_dst (N := 33) rfl ?_); refine Kd.R_lit Kd.string _ 9 ?hg (N := 33) ?hd (xs := ([a0] : List ByteArray)) (inner := [.string a0]) (ok := fun _ => True) (okp := fun _ => True) ?hr ?hp (fun _ hk => hk) trivial (Below.refl _ _) (Nat.le_refl _) (by simp) ?_; (case hd => rfl); (case hg => rfl); (case hr => first | (go_simp; done) | (go_simp; rfl)); (case hp => exact (Reps.one (show Kd.M Kd.string _ _ _ a0 [.string a0] from rfl) (Reps.none _ _))); intro v121 w15 ho16 hb hg_ hnew_; clear hg_ hnew_; (first | rw [← Ny120.out] at ho16 | (simp only [Int.reduceToNat] at ho16; rw [← Ny120.out] at ho16)); have n0_ := Aside0.mk (Kd.R_lower ho16 (below_size (by repeat (first | (with_reducible first | exact HB.out | apply below_alloc | apply pw_below_drewN | apply below_drew1) | exact HB.out)))); have n1_ := Aside0.mk (below_step (by repeat (first | (with_reducible first | exact HB.out | apply below_alloc | apply pw_below_drewN | apply below_drew1) | exact HB.out)) hb); clear HB; have HO122 := n0_; have HB := n1_; clear n0_ n1_; clear hb ho16)))
          (try simp only [Act.put, List.setIfInBounds_toArray, List.set_cons_zero, List.set_cons_succ])
          go_cut [4] (fun v4 wc => ∃ (kq : Nat) (x4_13 : List ByteArray), Aside0 (laws_FnExpandedItem.j1 kq a0 x4_13 = some r) ∧ Aside0 (kq ≤ k1) ∧ Aside0 (Kd.R Kd.string 9 wc w.heap.size (fun _ => True) v4 x4_13) ∧ Aside0 (Below w.heap.size w wc))
          case first =>
            have H := HC14.out
            clear HC14
            by_cases c17 : a0.toList = ([65, 76, 76] : List UInt8)
            · rw [if_pos c17] at H
              have c17b0 : (a0.toList == ([65, 76, 76] : List UInt8)) = true := beq_iff_eq.mpr c17
              have c17b1 : (a0.toList != ([65, 76, 76] : List UInt8)) = false := bne_eq_false_iff_eq.mpr c17
              clear c17
              (first | rw [c17b0] | (simp only [i64_w, i32_w]; rw [c17b0]) | skip)
              obtain ⟨y123, hy123⟩ : ∃ y_ : List ByteArray, y_ = (([(⟨#[70, 76, 65, 71, 83]⟩ : ByteArray), (⟨#[73, 78, 84, 69, 82, 78, 65, 76, 68, 65, 84, 69]⟩ : ByteArray), (⟨#[82, 70, 67, 56, 50, 50, 46, 83, 73, 90, 69]⟩ : ByteArray), (⟨#[69, 78, 86, 69, 76, 79, 80, 69]⟩ : ByteArray)] : List ByteArray)) := ⟨_, rfl⟩
              replace H : (laws_FnExpandedItem.j1 k1 a0 y123) = some r := by first | (rw [hy123]; with_reducible exact H) | (have H2_ := (Option.bind_some _ _).symm.trans H; rw [hy123]; with_reducible exact H2_) | (have H2_ := (Option.bind_some _ _).symm.trans H; with_reducible exact H2_) | with_reducible exact H | (rw [hy123]; exact H) | exact H
              have Ny123 := Aside0.mk hy123
              clear hy123
              have H' := Aside0.mk H
              clear H
              go_wp2_with (first | ((with_reducible refine gate_dst (N := 37) rfl ?_); refine Kd.R_lit Kd.string _ 9 ?hg (N := 37) ?hd (xs := ([(⟨#[70, 76, 65, 71, 83]⟩ : ByteArray), (⟨#[73, 78, 84, 69, 82, 78, 65, 76, 68, 65, 84, 69]⟩ : ByteArray), (⟨#[82, 70, 67, 56, 50, 50, 46, 83, 73, 90, 69]⟩ : ByteArray), (⟨#[69, 78, 86, 69, 76, 79, 80, 69]⟩ : ByteArray)] : List ByteArray)) (inner := [.string (⟨#[70, 76, 65, 71, 83]⟩ : ByteArray), .string (⟨#[73, 78, 84, 69, 82, 78, 65, 76, 68, 65, 84, 69]⟩ : ByteArray), .string (⟨#[82, 70, 67, 56, 50, 50, 46, 83, 73, 90, 69]⟩ : ByteArray), .string (⟨#[69, 78, 86, 69, 76, 79, 80, 69]⟩ : ByteArray)]) (ok := fun _ => True) (okp := fun _ => True) ?hr ?hp (fun _ hk => hk) trivial (Below.refl _ _) (Nat.le_refl _) (by simp) ?_; (case hd => rfl); (case hg => rfl); (case hr => first | (go_simp; done) | (go_simp; rfl)); (case hp => exact (Reps.one (show Kd.M Kd.string _ _ _ (⟨#[70, 76, 65, 71, 83]⟩ : ByteArray) [.string (⟨#[70, 76, 65, 71, 83]⟩ : ByteArray)] from rfl) (Reps.one (show Kd.M Kd.string _ _ _ (⟨#[73, 78, 84, 69, 82, 78, 65, 76, 68, 65, 84, 69]⟩ : ByteArray) [.string (⟨#[73, 78, 84, 69, 82, 78, 65, 76, 68, 65, 84, 69]⟩ : ByteArray)] from rfl) (Reps.one (show Kd.M Kd.string _ _ _ (⟨#[82, 70, 67, 56, 50, 50, 46, 83, 73, 90, 69]⟩ : ByteArray) [.string (⟨#[82, 70, 67, 56, 50, 50, 46, 83, 73, 90, 69]⟩ : ByteArray)] from rfl) (Reps.one (show Kd.M Kd.string _ _ _ (⟨#[69, 78, 86, 69, 76, 79, 80, 69]⟩ : ByteArray) [.string (⟨#[69, 78, 86, 69, 76, 79, 80, 69]⟩ : ByteArray)] from rfl) (Reps.none _ _)))))); intro v124 w18 ho19 hb hg_ hnew_; clear hg_ hnew_; (first | rw [← Ny123.out] at ho19 | (simp only [Int.reduceToNat] at ho19; rw [← Ny123.out] at ho19)); have n0_ := Aside0.mk (Kd.R_elder' (by (with_reducible repeat (first | apply Kd.R_alloc | apply Kd.R_drewN | apply Kd.R_drew)); exact HO122.out) (Kd.R_base ho19) hb); have n1_ := Aside0.mk (Kd.R_lower (Kd.R_new' ho19 (Kd.R_lt (by (with_reducible repeat (first | apply Kd.R_alloc | apply Kd.R_drewN | apply Kd.R_drew)); exact HO122.out))) (below_size (by repeat (first | (with_reducible first | exact HB.out | apply below_alloc | apply pw_below_drewN | apply below_drew1) | exact HB.out)))); have n2_ := Aside0.mk (below_step (by repeat (first | (with_reducible first | exact HB.out | apply below_alloc | apply pw_below_drewN | apply below_drew1) | exact HB.out)) hb); clear HO122; clear HB; have HO122 := n0_; have HO125 := n1_; have HB := n2_; clear n0_ n1_ n2_; clear hb ho19))
              repeat (go_quiet (first | ((with_reducible refine gate_dst (N := 37) rfl ?_); refine Kd.R_lit Kd.string _ 9 ?hg (N := 37) ?hd (xs := ([(⟨#[70, 76, 65, 71, 83]⟩ : ByteArray), (⟨#[73, 78, 84, 69, 82, 78, 65, 76, 68, 65, 84, 69]⟩ : ByteArray), (⟨#[82, 70, 67, 56, 50, 50, 46, 83, 73, 90, 69]⟩ : ByteArray), (⟨#[69, 78, 86, 69, 76, 79, 80, 69]⟩ : ByteArray)] : List ByteArray)) (inner := [.string (⟨#[70, 76, 65, 71, 83]⟩ : ByteArray), .string (⟨#[73, 78, 84, 69, 82, 78, 65, 76, 68, 65, 84, 69]⟩ : ByteArray), .string (⟨#[82, 70, 67, 56, 50, 50, 46, 83, 73, 90, 69]⟩ : ByteArray), .string (⟨#[69, 78, 86, 69, 76, 79, 80, 69]⟩ : ByteArray)]) (ok := fun _ => True) (okp := fun _ => True) ?hr ?hp (fun _ hk => hk) trivial (Below.refl _ _) (Nat.le_refl _) (by simp) ?_; (case hd => rfl); (case hg => rfl); (case hr => first | (go_simp; done) | (go_simp; rfl)); (case hp => exact (Reps.one (show Kd.M Kd.string _ _ _ (⟨#[70, 76, 65, 71, 83]⟩ : ByteArray) [.string (⟨#[70, 76, 65, 71, 83]⟩ : ByteArray)] from rfl) (Reps.one (show Kd.M Kd.string _ _ _ (⟨#[73, 78, 84, 69, 82, 78, 65, 76, 68, 65, 84, 69]⟩ : ByteArray) [.string (⟨#[73, 78, 84, 69, 82, 78, 65, 76, 68, 65, 84, 69]⟩ : ByteArray)] from rfl) (Reps.one (show Kd.M Kd.string _ _ _ (⟨#[82, 70, 67, 56, 50, 50, 46, 83, 73, 90, 69]⟩ : ByteArray) [.string (⟨#[82, 70, 67, 56, 50, 50, 46, 83, 73, 90, 69]⟩ : ByteArray)] from rfl) (Reps.one (show Kd.M Kd.string _ _ _ (⟨#[69, 78, 86, 69, 76, 79, 80, 69]⟩ : ByteArray) [.string (⟨#[69, 78, 86, 69, 76, 79, 80, 69]⟩ : ByteArray)] from rfl) (Reps.none _ _)))))); intro v124 w18 ho19 hb hg_ hnew_; clear hg_ hnew_; (first | rw [← Ny123.out] at ho19 | (simp only [Int.reduceToNat] at ho19; rw [← Ny123.out] at ho19)); have n0_ := Aside0.mk (Kd.R_elder' (by (with_reducible repeat (first | apply Kd.R_alloc | apply Kd.R_drewN | apply Kd.R_drew)); exact HO122.out) (Kd.R_base ho19) hb); have n1_ := Aside0.mk (Kd.R_lower (Kd.R_new' ho19 (Kd.R_lt (by (with_reducible repeat (first | apply Kd.R_alloc | apply Kd.R_drewN | apply Kd.R_drew)); exact HO122.out))) (below_size (by repeat (first | (with_reducible first | exact HB.out | apply below_alloc | apply pw_below_drewN | apply below_drew1) | exact HB.out)))); have n2_ := Aside0.mk (below_step (by repeat (first | (with_reducible first | exact HB.out | apply below_alloc | apply pw_below_drewN | apply below_drew1) | exact HB.out)) hb); clear HO122; clear HB; have HO122 := n0_; have HO125 := n1_; have HB := n2_; clear n0_ n1_ n2_; clear hb ho19)); try go_wp2_with (first | ((with_reducible refine gate_dst (N := 37) rfl ?_); refine Kd.R_lit Kd.string _ 9 ?hg (N := 37) ?hd (xs := ([(⟨#[70, 76, 65, 71, 83]⟩ : ByteArray), (⟨#[73, 78, 84, 69, 82, 78, 65, 76, 68, 65, 84, 69]⟩ : ByteArray), (⟨#[82, 70, 67, 56, 50, 50, 46, 83, 73, 90, 69]⟩ : ByteArray), (⟨#[69, 78, 86, 69, 76, 79, 80, 69]⟩ : ByteArray)] : List ByteArray)) (inner := [.string (⟨#[70, 76, 65, 71, 83]⟩ : ByteArray), .string (⟨#[73, 78, 84, 69, 82, 78, 65, 76, 68, 65, 84, 69]⟩ : ByteArray), .string (⟨#[82, 70, 67, 56, 50, 50, 46, 83, 73, 90, 69]⟩ : ByteArray), .string (⟨#[69, 78, 86, 69, 76, 79, 80, 69]⟩ : ByteArray)]) (ok := fun _ => True) (okp := fun _ => True) ?hr ?hp (fun _ hk => hk) trivial (Below.refl _ _) (Nat.le_refl _) (by simp) ?_; (case hd => rfl); (case hg => rfl); (case hr => first | (go_simp; done) | (go_simp; rfl)); (case hp => exact (Reps.one (show Kd.M Kd.string _ _ _ (⟨#[70, 76, 65, 71, 83]⟩ : ByteArray) [.string (⟨#[70, 76, 65, 71, 83]⟩ : ByteArray)] from rfl) (Reps.one (show Kd.M Kd.string _ _ _ (⟨#[73, 78, 84, 69, 82, 78, 65, 76, 68, 65, 84, 69]⟩ : ByteArray) [.string (⟨#[73, 78, 84, 69, 82, 78, 65, 76, 68, 65, 84, 69]⟩ : ByteArray)] from rfl) (Reps.one (show Kd.M Kd.string _ _ _ (⟨#[82, 70, 67, 56, 50, 50, 46, 83, 73, 90, 69]⟩ : ByteArray) [.string (⟨#[82, 70, 67, 56, 50, 50, 46, 83, 73, 90, 69]⟩ : ByteArray)] from rfl) (Reps.one (show Kd.M Kd.string _ _ _ (⟨#[69, 78, 86, 69, 76, 79, 80, 69]⟩ : ByteArray) [.string (⟨#[69, 78, 86, 69, 76, 79, 80, 69]⟩ : ByteArray)] from rfl) (Reps.none _ _)))))); intro v124 w18 ho19 hb hg_ hnew_; clear hg_ hnew_; (first | rw [← Ny123.out] at ho19 | (simp only [Int.reduceToNat] at ho19; rw [← Ny123.out] at ho19)); have n0_ := Aside0.mk (Kd.R_elder' (by (with_reducible repeat (first | apply Kd.R_alloc | apply Kd.R_drewN | apply Kd.R_drew)); exact HO122.out) (Kd.R_base ho19) hb); have n1_ := Aside0.mk (Kd.R_lower (Kd.R_new' ho19 (Kd.R_lt (by (with_reducible repeat (first | apply Kd.R_alloc | apply Kd.R_drewN | apply Kd.R_drew)); exact HO122.out))) (below_size (by repeat (first | (with_reducible first | exact HB.out | apply below_alloc | apply pw_below_drewN | apply below_drew1) | exact HB.out)))); have n2_ := Aside0.mk (below_step (by repeat (first | (with_reducible first | exact HB.out | apply below_alloc | apply pw_below_drewN | apply below_drew1) | exact HB.out)) hb); clear HO122; clear HB; have HO122 := n0_; have HO125 := n1_; have HB := n2_; clear n0_ n1_ n2_; clear hb ho19)))
              go_meet
              case rel => exact ⟨_, (y123), H', ⟨by have := HK1.out; first | omega | exact Nat.le_refl _⟩, ⟨by (with_reducible repeat (first | apply Kd.R_alloc | apply Kd.R_drewN | apply Kd.R_drew)); exact Kd.R_mono HO125.out (fun _ hk => trivial)⟩, ⟨by repeat (first | (with_reducible first | exact HB.out | apply below_alloc | apply pw_below_drewN | apply below_drew1) | exact HB.out)⟩⟩
            · rw [if_neg c17] at H
              have c17b0 : (a0.toList == ([65, 76, 76] : List UInt8)) = false := beq_eq_false_iff_ne.mpr c17
              have c17b1 : (a0.toList != ([65, 76, 76] : List UInt8)) = true := bne_iff_ne.mpr c17
              (first | rw [c17b0] | (simp only [i64_w, i32_w]; rw [c17b0]) | skip)
              by_cases c20 : a0.toList = ([70, 65, 83, 84] : List UInt8)
              · rw [if_pos c20] at H
                have c20b0 : (a0.toList == ([70, 65, 83, 84] : List UInt8)) = true := beq_iff_eq.mpr c20
                have c20b1 : (a0.toList != ([70, 65, 83, 84] : List UInt8)) = false := bne_eq_false_iff_eq.mpr c20
                clear c20
                obtain ⟨y126, hy126⟩ : ∃ y_ : List ByteArray, y_ = (([(⟨#[70, 76, 65, 71, 83]⟩ : ByteArray), (⟨#[73, 78, 84, 69, 82, 78, 65, 76, 68, 65, 84, 69]⟩ : ByteArray), (⟨#[82, 70, 67, 56, 50, 50, 46, 83, 73, 90, 69]⟩ : ByteArray)] : List ByteArray)) := ⟨_, rfl⟩
                replace H : (laws_FnExpandedItem.j1 k1 a0 y126) = some r := by first | (rw [hy126]; with_reducible exact H) | (have H2_ := (Option.bind_some _ _).symm.trans H; rw [hy126]; with_reducible exact H2_) | (have H2_ := (Option.bind_some _ _).symm.trans H; with_reducible exact H2_) | with_reducible exact H | (rw [hy126]; exact H) | exact H
                have Ny126 := Aside0.mk hy126
                clear hy126
                have H' := Aside0.mk H
                clear H
                go_wp2_with (first | ((with_reducible refine gate_dst (N := 40) rfl ?_); refine Kd.R_lit Kd.string _ 9 ?hg (N := 40) ?hd (xs := ([(⟨#[70, 76, 65, 71, 83]⟩ : ByteArray), (⟨#[73, 78, 84, 69, 82, 78, 65, 76, 68, 65, 84, 69]⟩ : ByteArray), (⟨#[82, 70, 67, 56, 50, 50, 46, 83, 73, 90, 69]⟩ : ByteArray)] : List ByteArray)) (inner := [.string (⟨#[70, 76, 65, 71, 83]⟩ : ByteArray), .string (⟨#[73, 78, 84, 69, 82, 78, 65, 76, 68, 65, 84, 69]⟩ : ByteArray), .string (⟨#[82, 70, 67, 56, 50, 50, 46, 83, 73, 90, 69]⟩ : ByteArray)]) (ok := fun _ => True) (okp := fun _ => True) ?hr ?hp (fun _ hk => hk) trivial (Below.refl _ _) (Nat.le_refl _) (by simp) ?_; (case hd => rfl); (case hg => rfl); (case hr => first | (go_simp; done) | (go_simp; rfl)); (case hp => exact (Reps.one (show Kd.M Kd.string _ _ _ (⟨#[70, 76, 65, 71, 83]⟩ : ByteArray) [.string (⟨#[70, 76, 65, 71, 83]⟩ : ByteArray)] from rfl) (Reps.one (show Kd.M Kd.string _ _ _ (⟨#[73, 78, 84, 69, 82, 78, 65, 76, 68, 65, 84, 69]⟩ : ByteArray) [.string (⟨#[73, 78, 84, 69, 82, 78, 65, 76, 68, 65, 84, 69]⟩ : ByteArray)] from rfl) (Reps.one (show Kd.M Kd.string _ _ _ (⟨#[82, 70, 67, 56, 50, 50, 46, 83, 73, 90, 69]⟩ : ByteArray) [.string (⟨#[82, 70, 67, 56, 50, 50, 46, 83, 73, 90, 69]⟩ : ByteArray)] from rfl) (Reps.none _ _))))); intro v127 w21 ho22 hb hg_ hnew_; clear hg_ hnew_; (first | rw [← Ny126.out] at ho22 | (simp only [Int.reduceToNat] at ho22; rw [← Ny126.out] at ho22)); have n0_ := Aside0.mk (Kd.R_elder' (by (with_reducible repeat (first | apply Kd.R_alloc | apply Kd.R_drewN | apply Kd.R_drew)); exact HO122.out) (Kd.R_base ho22) hb); have n1_ := Aside0.mk (Kd.R_lower (Kd.R_new' ho22 (Kd.R_lt (by (with_reducible repeat (first | apply Kd.R_alloc | apply Kd.R_drewN | apply Kd.R_drew)); exact HO122.out))) (below_size (by repeat (first | (with_reducible first | exact HB.out | apply below_alloc | apply pw_below_drewN | apply below_drew1) | exact HB.out)))); have n2_ := Aside0.mk (below_step (by repeat (first | (with_reducible first | exact HB.out | apply below_alloc | apply pw_below_drewN | apply below_drew1) | exact HB.out)) hb); clear HO122; clear HB; have HO122 := n0_; have HO128 := n1_; have HB := n2_; clear n0_ n1_ n2_; clear hb ho22))
                repeat (go_quiet (first | ((with_reducible refine gate_dst (N := 40) rfl ?_); refine Kd.R_lit Kd.string _ 9 ?hg (N := 40) ?hd (xs := ([(⟨#[70, 76, 65, 71, 83]⟩ : ByteArray), (⟨#[73, 78, 84, 69, 82, 78, 65, 76, 68, 65, 84, 69]⟩ : ByteArray), (⟨#[82, 70, 67, 56, 50, 50, 46, 83, 73, 90, 69]⟩ : ByteArray)] : List ByteArray)) (inner := [.string (⟨#[70, 76, 65, 71, 83]⟩ : ByteArray), .string (⟨#[73, 78, 84, 69, 82, 78, 65, 76, 68, 65, 84, 69]⟩ : ByteArray), .string (⟨#[82, 70, 67, 56, 50, 50, 46, 83, 73, 90, 69]⟩ : ByteArray)]) (ok := fun _ => True) (okp := fun _ => True) ?hr ?hp (fun _ hk => hk) trivial (Below.refl _ _) (Nat.le_refl _) (by simp) ?_; (case hd => rfl); (case hg => rfl); (case hr => first | (go_simp; done) | (go_simp; rfl)); (case hp => exact (Reps.one (show Kd.M Kd.string _ _ _ (⟨#[70, 76, 65, 71, 83]⟩ : ByteArray) [.string (⟨#[70, 76, 65, 71, 83]⟩ : ByteArray)] from rfl) (Reps.one (show Kd.M Kd.string _ _ _ (⟨#[73, 78, 84, 69, 82, 78, 65, 76, 68, 65, 84, 69]⟩ : ByteArray) [.string (⟨#[73, 78, 84, 69, 82, 78, 65, 76, 68, 65, 84, 69]⟩ : ByteArray)] from rfl) (Reps.one (show Kd.M Kd.string _ _ _ (⟨#[82, 70, 67, 56, 50, 50, 46, 83, 73, 90, 69]⟩ : ByteArray) [.string (⟨#[82, 70, 67, 56, 50, 50, 46, 83, 73, 90, 69]⟩ : ByteArray)] from rfl) (Reps.none _ _))))); intro v127 w21 ho22 hb hg_ hnew_; clear hg_ hnew_; (first | rw [← Ny126.out] at ho22 | (simp only [Int.reduceToNat] at ho22; rw [← Ny126.out] at ho22)); have n0_ := Aside0.mk (Kd.R_elder' (by (with_reducible repeat (first | apply Kd.R_alloc | apply Kd.R_drewN | apply Kd.R_drew)); exact HO122.out) (Kd.R_base ho22) hb); have n1_ := Aside0.mk (Kd.R_lower (Kd.R_new' ho22 (Kd.R_lt (by (with_reducible repeat (first | apply Kd.R_alloc | apply Kd.R_drewN | apply Kd.R_drew)); exact HO122.out))) (below_size (by repeat (first | (with_reducible first | exact HB.out | apply below_alloc | apply pw_below_drewN | apply below_drew1) | exact HB.out)))); have n2_ := Aside0.mk (below_step (by repeat (first | (with_reducible first | exact HB.out | apply below_alloc | apply pw_below_drewN | apply below_drew1) | exact HB.out)) hb); clear HO122; clear HB; have HO122 := n0_; have HO128 := n1_; have HB := n2_; clear n0_ n1_ n2_; clear hb ho22)); try go_wp2_with (first | ((with_reducible refine gate_dst (N := 40) rfl ?_); refine Kd.R_lit Kd.string _ 9 ?hg (N := 40) ?hd (xs := ([(⟨#[70, 76, 65, 71, 83]⟩ : ByteArray), (⟨#[73, 78, 84, 69, 82, 78, 65, 76, 68, 65, 84, 69]⟩ : ByteArray), (⟨#[82, 70, 67, 56, 50, 50, 46, 83, 73, 90, 69]⟩ : ByteArray)] : List ByteArray)) (inner := [.string (⟨#[70, 76, 65, 71, 83]⟩ : ByteArray), .string (⟨#[73, 78, 84, 69, 82, 78, 65, 76, 68, 65, 84, 69]⟩ : ByteArray), .string (⟨#[82, 70, 67, 56, 50, 50, 46, 83, 73, 90, 69]⟩ : ByteArray)]) (ok := fun _ => True) (okp := fun _ => True) ?hr ?hp (fun _ hk => hk) trivial (Below.refl _ _) (Nat.le_refl _) (by simp) ?_; (case hd => rfl); (case hg => rfl); (case hr => first | (go_simp; done) | (go_simp; rfl)); (case hp => exact (Reps.one (show Kd.M Kd.string _ _ _ (⟨#[70, 76, 65, 71, 83]⟩ : ByteArray) [.string (⟨#[70, 76, 65, 71, 83]⟩ : ByteArray)] from rfl) (Reps.one (show Kd.M Kd.string _ _ _ (⟨#[73, 78, 84, 69, 82, 78, 65, 76, 68, 65, 84, 69]⟩ : ByteArray) [.string (⟨#[73, 78, 84, 69, 82, 78, 65, 76, 68, 65, 84, 69]⟩ : ByteArray)] from rfl) (Reps.one (show Kd.M Kd.string _ _ _ (⟨#[82, 70, 67, 56, 50, 50, 46, 83, 73, 90, 69]⟩ : ByteArray) [.string (⟨#[82, 70, 67, 56, 50, 50, 46, 83, 73, 90, 69]⟩ : ByteArray)] from rfl) (Reps.none _ _))))); intro v127 w21 ho22 hb hg_ hnew_; clear hg_ hnew_; (first | rw [← Ny126.out] at ho22 | (simp only [Int.reduceToNat] at ho22; rw [← Ny126.out] at ho22)); have n0_ := Aside0.mk (Kd.R_elder' (by (with_reducible repeat (first | apply Kd.R_alloc | apply Kd.R_drewN | apply Kd.R_drew)); exact HO122.out) (Kd.R_base ho22) hb); have n1_ := Aside0.mk (Kd.R_lower (Kd.R_new' ho22 (Kd.R_lt (by (with_reducible repeat (first | apply Kd.R_alloc | apply Kd.R_drewN | apply Kd.R_drew)); exact HO122.out))) (below_size (by repeat (first | (with_reducible first | exact HB.out | apply below_alloc | apply pw_below_drewN | apply below_drew1) | exact HB.out)))); have n2_ := Aside0.mk (below_step (by repeat (first | (with_reducible first | exact HB.out | apply below_alloc | apply pw_below_drewN | apply below_drew1) | exact HB.out)) hb); clear HO122; clear HB; have HO122 := n0_; have HO128 := n1_; have HB := n2_; clear n0_ n1_ n2_; clear hb ho22)))
                go_meet
                case rel => exact ⟨_, (y126), H', ⟨by have := HK1.out; first | omega | exact Nat.le_refl _⟩, ⟨by (with_reducible repeat (first | apply Kd.R_alloc | apply Kd.R_drewN | apply Kd.R_drew)); exact Kd.R_mono HO128.out (fun _ hk => trivial)⟩, ⟨by repeat (first | (with_reducible first | exact HB.out | apply below_alloc | apply pw_below_drewN | apply below_drew1) | exact HB.out)⟩⟩
              · rw [if_neg c20] at H
                have c20b0 : (a0.toList == ([70, 65, 83, 84] : List UInt8)) = false := beq_eq_false_iff_ne.mpr c20
                have c20b1 : (a0.toList != ([70, 65, 83, 84] : List UInt8)) = true := bne_iff_ne.mpr c20
                by_cases c23 : a0.toList = ([70, 85, 76, 76] : List UInt8)
                · rw [if_pos c23] at H
                  have c23b0 : (a0.toList == ([70, 85, 76, 76] : List UInt8)) = true := beq_iff_eq.mpr c23
                  have c23b1 : (a0.toList != ([70, 85, 76, 76] : List UInt8)) = false := bne_eq_false_iff_eq.mpr c23
                  clear c23
                  obtain ⟨y129, hy129⟩ : ∃ y_ : List ByteArray, y_ = (([(⟨#[70, 76, 65, 71, 83]⟩ : ByteArray), (⟨#[73, 78, 84, 69, 82, 78, 65, 76, 68, 65, 84, 69]⟩ : ByteArray), (⟨#[82, 70, 67, 56, 50, 50, 46, 83, 73, 90, 69]⟩ : ByteArray), (⟨#[69, 78, 86, 69, 76, 79, 80, 69]⟩ : ByteArray), (⟨#[66, 79, 68, 89]⟩ : ByteArray)] : List ByteArray)) := ⟨_, rfl⟩
                  replace H : (laws_FnExpandedItem.j1 k1 a0 y129) = some r := by first | (rw [hy129]; with_reducible exact H) | (have H2_ := (Option.bind_some _ _).symm.trans H; rw [hy129]; with_reducible exact H2_) | (have H2_ := (Option.bind_some _ _).symm.trans H; with_reducible exact H2_) | with_reducible exact H | (rw [hy129]; exact H) | exact H
                  have Ny129 := Aside0.mk hy129
                  clear hy129
                  have H' := Aside0.mk H
                  clear H
                  go_wp2_with (first | ((with_reducible refine gate_dst (N := 43) rfl ?_); refine Kd.R_lit Kd.string _ 9 ?hg (N := 43) ?hd (xs := ([(⟨#[70, 76, 65, 71, 83]⟩ : ByteArray), (⟨#[73, 78, 84, 69, 82, 78, 65, 76, 68, 65, 84, 69]⟩ : ByteArray), (⟨#[82, 70, 67, 56, 50, 50, 46, 83, 73, 90, 69]⟩ : ByteArray), (⟨#[69, 78, 86, 69, 76, 79, 80, 69]⟩ : ByteArray), (⟨#[66, 79, 68, 89]⟩ : ByteArray)] : List ByteArray)) (inner := [.string (⟨#[70, 76, 65, 71, 83]⟩ : ByteArray), .string (⟨#[73, 78, 84, 69, 82, 78, 65, 76, 68, 65, 84, 69]⟩ : ByteArray), .string (⟨#[82, 70, 67, 56, 50, 50, 46, 83, 73, 90, 69]⟩ : ByteArray), .string (⟨#[69, 78, 86, 69, 76, 79, 80, 69]⟩ : ByteArray), .string (⟨#[66, 79, 68, 89]⟩ : ByteArray)]) (ok := fun _ => True) (okp := fun _ => True) ?hr ?hp (fun _ hk => hk) trivial (Below.refl _ _) (Nat.le_refl _) (by simp) ?_; (case hd => rfl); (case hg => rfl); (case hr => first | (go_simp; done) | (go_simp; rfl)); (case hp => exact (Reps.one (show Kd.M Kd.string _ _ _ (⟨#[70, 76, 65, 71, 83]⟩ : ByteArray) [.string (⟨#[70, 76, 65, 71, 83]⟩ : ByteArray)] from rfl) (Reps.one (show Kd.M Kd.string _ _ _ (⟨#[73, 78, 84, 69, 82, 78, 65, 76, 68, 65, 84, 69]⟩ : ByteArray) [.string (⟨#[73, 78, 84, 69, 82, 78, 65, 76, 68, 65, 84, 69]⟩ : ByteArray)] from rfl) (Reps.one (show Kd.M Kd.string _ _ _ (⟨#[82, 70, 67, 56, 50, 50, 46, 83, 73, 90, 69]⟩ : ByteArray) [.string (⟨#[82, 70, 67, 56, 50, 50, 46, 83, 73, 90, 69]⟩ : ByteArray)] from rfl) (Reps.one (show Kd.M Kd.string _ _ _ (⟨#[69, 78, 86, 69, 76, 79, 80, 69]⟩ : ByteArray) [.string (⟨#[69, 78, 86, 69, 76, 79, 80, 69]⟩ : ByteArray)] from rfl) (Reps.one (show Kd.M Kd.string _ _ _ (⟨#[66, 79, 68, 89]⟩ : ByteArray) [.string (⟨#[66, 79, 68, 89]⟩ : ByteArray)] from rfl) (Reps.none _ _))))))); intro v130 w24 ho25 hb hg_ hnew_; clear hg_ hnew_; (first | rw [← Ny129.out] at ho25 | (simp only [Int.reduceToNat] at ho25; rw [← Ny129.out] at ho25)); have n0_ := Aside0.mk (Kd.R_elder' (by (with_reducible repeat (first | apply Kd.R_alloc | apply Kd.R_drewN | apply Kd.R_drew)); exact HO122.out) (Kd.R_base ho25) hb); have n1_ := Aside0.mk (Kd.R_lower (Kd.R_new' ho25 (Kd.R_lt (by (with_reducible repeat (first | apply Kd.R_alloc | apply Kd.R_drewN | apply Kd.R_drew)); exact HO122.out))) (below_size (by repeat (first | (with_reducible first | exact HB.out | apply below_alloc | apply pw_below_drewN | apply below_drew1) | exact HB.out)))); have n2_ := Aside0.mk (below_step (by repeat (first | (with_reducible first | exact HB.out | apply below_alloc | apply pw_below_drewN | apply below_drew1) | exact HB.out)) hb); clear HO122; clear HB; have HO122 := n0_; have HO131 := n1_; have HB := n2_; clear n0_ n1_ n2_; clear hb ho25))
                  repeat (go_quiet (first | ((with_reducible refine gate_dst (N := 43) rfl ?_); refine Kd.R_lit Kd.string _ 9 ?hg (N := 43) ?hd (xs := ([(⟨#[70, 76, 65, 71, 83]⟩ : ByteArray), (⟨#[73, 78, 84, 69, 82, 78, 65, 76, 68, 65, 84, 69]⟩ : ByteArray), (⟨#[82, 70, 67, 56, 50, 50, 46, 83, 73, 90, 69]⟩ : ByteArray), (⟨#[69, 78, 86, 69, 76, 79, 80, 69]⟩ : ByteArray), (⟨#[66, 79, 68, 89]⟩ : ByteArray)] : List ByteArray)) (inner := [.string (⟨#[70, 76, 65, 71, 83]⟩ : ByteArray), .string (⟨#[73, 78, 84, 69, 82, 78, 65, 76, 68, 65, 84, 69]⟩ : ByteArray), .string (⟨#[82, 70, 67, 56, 50, 50, 46, 83, 73, 90, 69]⟩ : ByteArray), .string (⟨#[69, 78, 86, 69, 76, 79, 80, 69]⟩ : ByteArray), .string (⟨#[66, 79, 68, 89]⟩ : ByteArray)]) (ok := fun _ => True) (okp := fun _ => True) ?hr ?hp (fun _ hk => hk) trivial (Below.refl _ _) (Nat.le_refl _) (by simp) ?_; (case hd => rfl); (case hg => rfl); (case hr => first | (go_simp; done) | (go_simp; rfl)); (case hp => exact (Reps.one (show Kd.M Kd.string _ _ _ (⟨#[70, 76, 65, 71, 83]⟩ : ByteArray) [.string (⟨#[70, 76, 65, 71, 83]⟩ : ByteArray)] from rfl) (Reps.one (show Kd.M Kd.string _ _ _ (⟨#[73, 78, 84, 69, 82, 78, 65, 76, 68, 65, 84, 69]⟩ : ByteArray) [.string (⟨#[73, 78, 84, 69, 82, 78, 65, 76, 68, 65, 84, 69]⟩ : ByteArray)] from rfl) (Reps.one (show Kd.M Kd.string _ _ _ (⟨#[82, 70, 67, 56, 50, 50, 46, 83, 73, 90, 69]⟩ : ByteArray) [.string (⟨#[82, 70, 67, 56, 50, 50, 46, 83, 73, 90, 69]⟩ : ByteArray)] from rfl) (Reps.one (show Kd.M Kd.string _ _ _ (⟨#[69, 78, 86, 69, 76, 79, 80, 69]⟩ : ByteArray) [.string (⟨#[69, 78, 86, 69, 76, 79, 80, 69]⟩ : ByteArray)] from rfl) (Reps.one (show Kd.M Kd.string _ _ _ (⟨#[66, 79, 68, 89]⟩ : ByteArray) [.string (⟨#[66, 79, 68, 89]⟩ : ByteArray)] from rfl) (Reps.none _ _))))))); intro v130 w24 ho25 hb hg_ hnew_; clear hg_ hnew_; (first | rw [← Ny129.out] at ho25 | (simp only [Int.reduceToNat] at ho25; rw [← Ny129.out] at ho25)); have n0_ := Aside0.mk (Kd.R_elder' (by (with_reducible repeat (first | apply Kd.R_alloc | apply Kd.R_drewN | apply Kd.R_drew)); exact HO122.out) (Kd.R_base ho25) hb); have n1_ := Aside0.mk (Kd.R_lower (Kd.R_new' ho25 (Kd.R_lt (by (with_reducible repeat (first | apply Kd.R_alloc | apply Kd.R_drewN | apply Kd.R_drew)); exact HO122.out))) (below_size (by repeat (first | (with_reducible first | exact HB.out | apply below_alloc | apply pw_below_drewN | apply below_drew1) | exact HB.out)))); have n2_ := Aside0.mk (below_step (by repeat (first | (with_reducible first | exact HB.out | apply below_alloc | apply pw_below_drewN | apply below_drew1) | exact HB.out)) hb); clear HO122; clear HB; have HO122 := n0_; have HO131 := n1_; have HB := n2_; clear n0_ n1_ n2_; clear hb ho25)); try go_wp2_with (first | ((with_reducible refine gate_dst (N := 43) rfl ?_); refine Kd.R_lit Kd.string _ 9 ?hg (N := 43) ?hd (xs := ([(⟨#[70, 76, 65, 71, 83]⟩ : ByteArray), (⟨#[73, 78, 84, 69, 82, 78, 65, 76, 68, 65, 84, 69]⟩ : ByteArray), (⟨#[82, 70, 67, 56, 50, 50, 46, 83, 73, 90, 69]⟩ : ByteArray), (⟨#[69, 78, 86, 69, 76, 79, 80, 69]⟩ : ByteArray), (⟨#[66, 79, 68, 89]⟩ : ByteArray)] : List ByteArray)) (inner := [.string (⟨#[70, 76, 65, 71, 83]⟩ : ByteArray), .string (⟨#[73, 78, 84, 69, 82, 78, 65, 76, 68, 65, 84, 69]⟩ : ByteArray), .string (⟨#[82, 70, 67, 56, 50, 50, 46, 83, 73, 90, 69]⟩ : ByteArray), .string (⟨#[69, 78, 86, 69, 76, 79, 80, 69]⟩ : ByteArray), .string (⟨#[66, 79, 68, 89]⟩ : ByteArray)]) (ok := fun _ => True) (okp := fun _ => True) ?hr ?hp (fun _ hk => hk) trivial (Below.refl _ _) (Nat.le_refl _) (by simp) ?_; (case hd => rfl); (case hg => rfl); (case hr => first | (go_simp; done) | (go_simp; rfl)); (case hp => exact (Reps.one (show Kd.M Kd.string _ _ _ (⟨#[70, 76, 65, 71, 83]⟩ : ByteArray) [.string (⟨#[70, 76, 65, 71, 83]⟩ : ByteArray)] from rfl) (Reps.one (show Kd.M Kd.string _ _ _ (⟨#[73, 78, 84, 69, 82, 78, 65, 76, 68, 65, 84, 69]⟩ : ByteArray) [.string (⟨#[73, 78, 84, 69, 82, 78, 65, 76, 68, 65, 84, 69]⟩ : ByteArray)] from rfl) (Reps.one (show Kd.M Kd.string _ _ _ (⟨#[82, 70, 67, 56, 50, 50, 46, 83, 73, 90, 69]⟩ : ByteArray) [.string (⟨#[82, 70, 67, 56, 50, 50, 46, 83, 73, 90, 69]⟩ : ByteArray)] from rfl) (Reps.one (show Kd.M Kd.string _ _ _ (⟨#[69, 78, 86, 69, 76, 79, 80, 69]⟩ : ByteArray) [.string (⟨#[69, 78, 86, 69, 76, 79, 80, 69]⟩ : ByteArray)] from rfl) (Reps.one (show Kd.M Kd.string _ _ _ (⟨#[66, 79, 68, 89]⟩ : ByteArray) [.string (⟨#[66, 79, 68, 89]⟩ : ByteArray)] from rfl) (Reps.none _ _))))))); intro v130 w24 ho25 hb hg_ hnew_; clear hg_ hnew_; (first | rw [← Ny129.out] at ho25 | (simp only [Int.reduceToNat] at ho25; rw [← Ny129.out] at ho25)); have n0_ := Aside0.mk (Kd.R_elder' (by (with_reducible repeat (first | apply Kd.R_alloc | apply Kd.R_drewN | apply Kd.R_drew)); exact HO122.out) (Kd.R_base ho25) hb); have n1_ := Aside0.mk (Kd.R_lower (Kd.R_new' ho25 (Kd.R_lt (by (with_reducible repeat (first | apply Kd.R_alloc | apply Kd.R_drewN | apply Kd.R_drew)); exact HO122.out))) (below_size (by repeat (first | (with_reducible first | exact HB.out | apply below_alloc | apply pw_below_drewN | apply below_drew1) | exact HB.out)))); have n2_ := Aside0.mk (below_step (by repeat (first | (with_reducible first | exact HB.out | apply below_alloc | apply pw_below_drewN | apply below_drew1) | exact HB.out)) hb); clear HO122; clear HB; have HO122 := n0_; have HO131 := n1_; have HB := n2_; clear n0_ n1_ n2_; clear hb ho25)))
                  go_meet
                  case rel => exact ⟨_, (y129), H', ⟨by have := HK1.out; first | omega | exact Nat.le_refl _⟩, ⟨by (with_reducible repeat (first | apply Kd.R_alloc | apply Kd.R_drewN | apply Kd.R_drew)); exact Kd.R_mono HO131.out (fun _ hk => trivial)⟩, ⟨by repeat (first | (with_reducible first | exact HB.out | apply below_alloc | apply pw_below_drewN | apply below_drew1) | exact HB.out)⟩⟩
                · rw [if_neg c23] at H
                  have c23b0 : (a0.toList == ([70, 85, 76, 76] : List UInt8)) = false := beq_eq_false_iff_ne.mpr c23
                  have c23b1 : (a0.toList != ([70, 85, 76, 76] : List UInt8)) = true := bne_iff_ne.mpr c23
                  have H' := Aside0.mk H
                  clear H
                  go_wp2
                  repeat (go_quiet (fail); try go_wp2)
                  go_meet
                  case rel => exact ⟨_, (y120), H', ⟨by have := HK1.out; first | omega | exact Nat.le_refl _⟩, ⟨by (with_reducible repeat (first | apply Kd.R_alloc | apply Kd.R_drewN | apply Kd.R_drew)); exact HO122.out⟩, ⟨by repeat (first | (with_reducible first | exact HB.out | apply below_alloc | apply pw_below_drewN | apply below_drew1) | exact HB.out)⟩⟩
          case rest =>
            clear HC14
            try clear c1
            try clear p1
            try clear q1
            try clear hx1
            try clear c2
            try clear c2b0
            try clear c2b1
            try clear p2
            try clear c3
            try clear c3b0
            try clear c4
            try clear c4b0
            try clear c5
            try clear c5b0
            try clear p6
            try clear q6
            try clear hx6
            try clear c7
            try clear c7b0
            try clear p8
            try clear q8
            try clear hx8
            try clear c9
            try clear c9b0
            try clear c9b1
            try clear p10
            try clear q10
            try clear hx10
            try clear c11
            try clear c11b0
            try clear p12
            try clear q12
            try clear hx12
            try clear c13
            try clear c13b0
            try clear c13b1
            try clear c17
            try clear c17b0
            try clear c17b1
            try clear c20
            try clear c20b0
            try clear c20b1
            try clear c23
            try clear c23b0
            try clear c23b1
            try clear p10
            try clear p12
            try clear p2
            try clear p6
            try clear p8
            try clear q10
            try clear q12
            try clear q6
            try clear q8
            obtain ⟨kq, x4_13, HA, HJ13, HO_4, HB⟩ := hcut
            cases kq with
            | zero => exact absurd HA.out (by simp [laws_FnExpandedItem.j1])
            | succ kj13 =>
              have H := HA.out
              clear HA
              simp only [laws_FnExpandedItem.j1] at H
              replace H := Option.bind_eq_some_iff.mp H
              obtain ⟨t132, A260, H⟩ := H
              replace H : (if (t132.length : Int) = (x4_13.length : Int) then (laws_FnExpandedItem.l1 kj13 x4_13 t132 (t132.length : Int) 0) else (some false)) = some r := H
              have A26 := Aside0.mk A260
              clear A260
              by_cases c27 : (t132.length : Int) = (x4_13.length : Int)
              · rw [if_pos c27] at H
                have c27b0 : ((t132.length : Int) == (x4_13.length : Int)) = true := beq_iff_eq.mpr c27
                have c27b1 : ((t132.length : Int) != (x4_13.length : Int)) = false := bne_eq_false_iff_eq.mpr c27
                have c27b2 : (t132.length == x4_13.length) = true := by first | simpa using c27 | (simp at c27 ⊢; omega)
                clear c27
                have H' := Aside0.mk H
                clear H
                go_wp2_with (first | (go_at_call 9; (with_reducible refine (impl_ExpandedItem.calls kj13 a0 t132 _ A26.out).mono ?_); rintro e w28 ⟨v133, rfl, ho0, hb⟩; have n0_ := Aside0.mk (Kd.R_elder' (by (with_reducible repeat (first | apply Kd.R_alloc | apply Kd.R_drewN | apply Kd.R_drew)); exact HO_4.out) (Kd.R_base ho0) hb); have n1_ := Aside0.mk (Kd.R_lower (Kd.R_new' ho0 (Kd.R_lt (by (with_reducible repeat (first | apply Kd.R_alloc | apply Kd.R_drewN | apply Kd.R_drew)); exact HO_4.out))) (below_size (by repeat (first | (with_reducible first | exact HB.out | apply below_alloc | apply pw_below_drewN | apply below_drew1) | exact HB.out)))); have n2_ := Aside0.mk (below_step (by repeat (first | (with_reducible first | exact HB.out | apply below_alloc | apply pw_below_drewN | apply below_drew1) | exact HB.out)) hb); clear HO_4; clear HB; have HO_4 := n0_; have HO134 := n1_; have HB := n2_; clear n0_ n1_ n2_; (try clear hb); (try clear hb2); (try clear hk); (try clear hi); (try clear ho0); obtain ⟨Ao29, co29, eo29⟩ := Kd.R_slice HO134.out; subst eo29; obtain ⟨Ao30, co30, eo30⟩ := Kd.R_slice HO_4.out; subst eo30))
                repeat (go_quiet (first | (go_at_call 9; (with_reducible refine (impl_ExpandedItem.calls kj13 a0 t132 _ A26.out).mono ?_); rintro e w28 ⟨v133, rfl, ho0, hb⟩; have n0_ := Aside0.mk (Kd.R_elder' (by (with_reducible repeat (first | apply Kd.R_alloc | apply Kd.R_drewN | apply Kd.R_drew)); exact HO_4.out) (Kd.R_base ho0) hb); have n1_ := Aside0.mk (Kd.R_lower (Kd.R_new' ho0 (Kd.R_lt (by (with_reducible repeat (first | apply Kd.R_alloc | apply Kd.R_drewN | apply Kd.R_drew)); exact HO_4.out))) (below_size (by repeat (first | (with_reducible first | exact HB.out | apply below_alloc | apply pw_below_drewN | apply below_drew1) | exact HB.out)))); have n2_ := Aside0.mk (below_step (by repeat (first | (with_reducible first | exact HB.out | apply below_alloc | apply pw_below_drewN | apply below_drew1) | exact HB.out)) hb); clear HO_4; clear HB; have HO_4 := n0_; have HO134 := n1_; have HB := n2_; clear n0_ n1_ n2_; (try clear hb); (try clear hb2); (try clear hk); (try clear hi); (try clear ho0); obtain ⟨Ao29, co29, eo29⟩ := Kd.R_slice HO134.out; subst eo29; obtain ⟨Ao30, co30, eo30⟩ := Kd.R_slice HO_4.out; subst eo30)); try go_wp2_with (first | (go_at_call 9; (with_reducible refine (impl_ExpandedItem.calls kj13 a0 t132 _ A26.out).mono ?_); rintro e w28 ⟨v133, rfl, ho0, hb⟩; have n0_ := Aside0.mk (Kd.R_elder' (by (with_reducible repeat (first | apply Kd.R_alloc | apply Kd.R_drewN | apply Kd.R_drew)); exact HO_4.out) (Kd.R_base ho0) hb); have n1_ := Aside0.mk (Kd.R_lower (Kd.R_new' ho0 (Kd.R_lt (by (with_reducible repeat (first | apply Kd.R_alloc | apply Kd.R_drewN | apply Kd.R_drew)); exact HO_4.out))) (below_size (by repeat (first | (with_reducible first | exact HB.out | apply below_alloc | apply pw_below_drewN | apply below_drew1) | exact HB.out)))); have n2_ := Aside0.mk (below_step (by repeat (first | (with_reducible first | exact HB.out | apply below_alloc | apply pw_below_drewN | apply below_drew1) | exact HB.out)) hb); clear HO_4; clear HB; have HO_4 := n0_; have HO134 := n1_; have HB := n2_; clear n0_ n1_ n2_; (try clear hb); (try clear hb2); (try clear hk); (try clear hi); (try clear ho0); obtain ⟨Ao29, co29, eo29⟩ := Kd.R_slice HO134.out; subst eo29; obtain ⟨Ao30, co30, eo30⟩ := Kd.R_slice HO_4.out; subst eo30)))
                go_loopg [53] kj13 (fun kq v53 w' => ∃ (x53_3 : Int), v53 = .int .i64 x53_3 ∧ Aside0 (laws_FnExpandedItem.l1 kq x4_13 t132 (t132.length : Int) x53_3 = some r) ∧ Aside0 (kq ≤ kj13) ∧ Aside0 (Kd.R Kd.string 9 w' w.heap.size (fun k_ => some k_ ≠ ((.slice Ao29 t132.length co29) : Value).ownBlock) (.slice Ao30 x4_13.length co30) x4_13) ∧ Aside0 (Kd.R Kd.string 9 w' w.heap.size (fun k_ => some k_ ≠ ((.slice Ao30 x4_13.length co30) : Value).ownBlock) (.slice Ao29 t132.length co29) t132) ∧ Aside0 (Below w.heap.size w w'))
                case atStart => exact ⟨(0), (by first | rfl | (simp; done) | (simp [*]; done)), H', ⟨Nat.le_refl _⟩, ⟨by (with_reducible repeat (first | apply Kd.R_alloc | apply Kd.R_drewN | apply Kd.R_drew)); exact Kd.R_mono HO_4.out (fun _ hk => hk.2)⟩, ⟨by (with_reducible repeat (first | apply Kd.R_alloc | apply Kd.R_drewN | apply Kd.R_drew)); exact Kd.R_mono HO134.out (fun _ hk => hk.2)⟩, ⟨by repeat (first | (with_reducible first | exact HB.out | apply below_alloc | apply pw_below_drewN | apply below_drew1) | exact HB.out)⟩⟩
                case round =>
                  clear H'
                  try clear c1
                  try clear p1
                  try clear q1
                  try clear hx1
                  try clear c2
                  try clear c2b0
                  try clear c2b1
                  try clear p2
                  try clear c3
                  try clear c3b0
                  try clear c4
                  try clear c4b0
                  try clear c5
                  try clear c5b0
                  try clear p6
                  try clear q6
                  try clear hx6
                  try clear c7
                  try clear c7b0
                  try clear p8
                  try clear q8
                  try clear hx8
                  try clear c9
                  try clear c9b0
                  try clear c9b1
                  try clear p10
                  try clear q10
                  try clear hx10
                  try clear c11
                  try clear c11b0
                  try clear p12
                  try clear q12
                  try clear hx12
                  try clear c13
                  try clear c13b0
                  try clear c13b1
                  try clear c17
                  try clear c17b0
                  try clear c17b1
                  try clear c20
                  try clear c20b0
                  try clear c20b1
                  try clear c23
                  try clear c23b0
                  try clear c23b1
                  try clear c27
                  try clear c27b0
                  try clear c27b1
                  try clear c27b2
                  try clear p1
                  try clear p10
                  try clear p12
                  try clear p2
                  try clear p6
                  try clear p8
                  try clear q1
                  try clear q10
                  try clear q12
                  try clear q6
                  try clear q8
                  obtain ⟨x53_3, rfl, HA, HK3, HO_4, HO_5, HB⟩ := hrel
                  cases gk with
                  | zero => exact absurd HA.out (by simp [laws_FnExpandedItem.l1])
                  | succ k3 =>
                    have H := HA.out
                    clear HA
                    simp only [laws_FnExpandedItem.l1] at H
                    by_cases c31 : x53_3 < (t132.length : Int)
                    · rw [if_pos c31] at H
                      have c31b0 : decide (x53_3 < (t132.length : Int)) = true := decide_eq_true c31
                      clear c31
                      by_cases c32 : 0 ≤ x53_3
                      · rw [if_pos c32] at H
                        have c32b0 : decide (0 ≤ x53_3) = true := decide_eq_true c32
                        clear c32
                        by_cases c33 : x53_3 < (t132.length : Int)
                        · rw [if_pos c33] at H
                          have c33b0 : decide (x53_3 < (t132.length : Int)) = true := decide_eq_true c33
                          clear c33
                          by_cases c34 : x53_3 < (x4_13.length : Int)
                          · rw [if_pos c34] at H
                            have c34b0 : decide (x53_3 < (x4_13.length : Int)) = true := decide_eq_true c34
                            clear c34
                            by_cases c35 : (rdOf ByteArray.empty t132 x53_3).toList = (rdOf ByteArray.empty x4_13 x53_3).toList
                            · rw [if_pos c35] at H
                              have c35b0 : ((rdOf ByteArray.empty t132 x53_3).toList == (rdOf ByteArray.empty x4_13 x53_3).toList) = true := beq_iff_eq.mpr c35
                              have c35b1 : ((rdOf ByteArray.empty t132 x53_3).toList != (rdOf ByteArray.empty x4_13 x53_3).toList) = false := bne_eq_false_iff_eq.mpr c35
                              clear c35
                              have H' := Aside0.mk H
                              clear H
                              have p135 : 0 ≤ (x53_3 : Int) := of_decide_eq_true (by first | (with_reducible assumption) | assumption)
                              have q135 : x53_3 < (t132.length : Int) := of_decide_eq_true (by first | (with_reducible assumption) | assumption)
                              obtain ⟨ad135, e135, hx135_0⟩ := Kd.at_string (Kd.R_reads' HO_5.out).2.2 x53_3 p135 q135
                              cases e135
                              replace p135 := eq_true p135
                              replace q135 := eq_true q135
                              have p136 : 0 ≤ (x53_3 : Int) := of_decide_eq_true (by first | (with_reducible assumption) | assumption)
                              have q136 : x53_3 < (x4_13.length : Int) := of_decide_eq_true (by first | (with_reducible assumption) | assumption)
                              obtain ⟨ad136, e136, hx136_0⟩ := Kd.at_string (Kd.R_reads' HO_4.out).2.2 x53_3 p136 q136
                              cases e136
                              replace p136 := eq_true p136
                              replace q136 := eq_true q136
                              go_wp2
                              repeat (go_quiet (fail); try go_wp2)
                              go_roundg k3
                              case measure => have := HK1.out; have := HJ13.out; have := HK3.out; omega
                              case rel => exact ⟨(wrap64 (x53_3 + 1)), (by first | rfl | (simp; done) | (simp [*]; done)), H', ⟨by have := HK1.out; have := HJ13.out; have := HK3.out; omega⟩, ⟨by (with_reducible repeat (first | apply Kd.R_alloc | apply Kd.R_drewN | apply Kd.R_drew)); exact HO_4.out⟩, ⟨by (with_reducible repeat (first | apply Kd.R_alloc | apply Kd.R_drewN | apply Kd.R_drew)); exact HO_5.out⟩, ⟨by repeat (first | (with_reducible first | exact HB.out | apply below_alloc | apply pw_below_drewN | apply below_drew1) | exact HB.out)⟩⟩
                            · rw [if_neg c35] at H
                              have c35b0 : ((rdOf ByteArray.empty t132 x53_3).toList == (rdOf ByteArray.empty x4_13 x53_3).toList) = false := beq_eq_false_iff_ne.mpr c35
                              have c35b1 : ((rdOf ByteArray.empty t132 x53_3).toList != (rdOf ByteArray.empty x4_13 x53_3).toList) = true := bne_iff_ne.mpr c35
                              obtain rfl := Option.some.inj H
                              have p135 : 0 ≤ (x53_3 : Int) := of_decide_eq_true (by first | (with_reducible assumption) | assumption)
                              have q135 : x53_3 < (t132.length : Int) := of_decide_eq_true (by first | (with_reducible assumption) | assumption)
                              obtain ⟨ad135, e135, hx135_0⟩ := Kd.at_string (Kd.R_reads' HO_5.out).2.2 x53_3 p135 q135
                              cases e135
                              replace p135 := eq_true p135
                              replace q135 := eq_true q135
                              have p136 : 0 ≤ (x53_3 : Int) := of_decide_eq_true (by first | (with_reducible assumption) | assumption)
                              have q136 : x53_3 < (x4_13.length : Int) := of_decide_eq_true (by first | (with_reducible assumption) | assumption)
                              obtain ⟨ad136, e136, hx136_0⟩ := Kd.at_string (Kd.R_reads' HO_4.out).2.2 x53_3 p136 q136
                              cases e136
                              replace p136 := eq_true p136
                              replace q136 := eq_true q136
                              go_wp2
                              repeat (go_quiet (fail); try go_wp2)
                              go_ret
                              exact ⟨by first | rfl | (simp [errW_none, errW_some] <;> rfl) | (simp [*, errW_none, errW_some] <;> rfl), by repeat (first | (with_reducible first | exact HB.out | apply below_alloc | apply pw_below_drewN | apply below_drew1) | exact HB.out)⟩
                          · rw [if_neg c34] at H
                            exact absurd H (by simp)
                        · rw [if_neg c33] at H
                          exact absurd H (by simp)
                      · rw [if_neg c32] at H
                        exact absurd H (by simp)
                    · rw [if_neg c31] at H
                      have c31b0 : decide (x53_3 < (t132.length : Int)) = false := decide_eq_false c31
                      clear c31
                      obtain rfl := Option.some.inj H
                      go_wp2
                      repeat (go_quiet (fail); try go_wp2)
                      go_ret
                      exact ⟨by first | rfl | (simp [errW_none, errW_some] <;> rfl) | (simp [*, errW_none, errW_some] <;> rfl), by repeat (first | (with_reducible first | exact HB.out | apply below_alloc | apply pw_below_drewN | apply below_drew1) | exact HB.out)⟩
              · rw [if_neg c27] at H
                have c27b0 : ((t132.length : Int) == (x4_13.length : Int)) = false := beq_eq_false_iff_ne.mpr c27
                have c27b1 : ((t132.length : Int) != (x4_13.length : Int)) = true := bne_iff_ne.mpr c27
                have c27b2 : (t132.length == x4_13.length) = false := by first | simpa using c27 | (simp at c27 ⊢; omega)
                obtain rfl := Option.some.inj H
                go_wp2_with (first | (go_at_call 9; (with_reducible refine (impl_ExpandedItem.calls kj13 a0 t132 _ A26.out).mono ?_); rintro e w36 ⟨v133, rfl, ho0, hb⟩; have n0_ := Aside0.mk (Kd.R_elder' (by (with_reducible repeat (first | apply Kd.R_alloc | apply Kd.R_drewN | apply Kd.R_drew)); exact HO_4.out) (Kd.R_base ho0) hb); have n1_ := Aside0.mk (Kd.R_lower (Kd.R_new' ho0 (Kd.R_lt (by (with_reducible repeat (first | apply Kd.R_alloc | apply Kd.R_drewN | apply Kd.R_drew)); exact HO_4.out))) (below_size (by repeat (first | (with_reducible first | exact HB.out | apply below_alloc | apply pw_below_drewN | apply below_drew1) | exact HB.out)))); have n2_ := Aside0.mk (below_step (by repeat (first | (with_reducible first | exact HB.out | apply below_alloc | apply pw_below_drewN | apply below_drew1) | exact HB.out)) hb); clear HO_4; clear HB; have HO_4 := n0_; have HO134 := n1_; have HB := n2_; clear n0_ n1_ n2_; (try clear hb); (try clear hb2); (try clear hk); (try clear hi); (try clear ho0); obtain ⟨Ao37, co37, eo37⟩ := Kd.R_slice HO134.out; subst eo37; obtain ⟨Ao38, co38, eo38⟩ := Kd.R_slice HO_4.out; subst eo38))
                repeat (go_quiet (first | (go_at_call 9; (with_reducible refine (impl_ExpandedItem.calls kj13 a0 t132 _ A26.out).mono ?_); rintro e w36 ⟨v133, rfl, ho0, hb⟩; have n0_ := Aside0.mk (Kd.R_elder' (by (with_reducible repeat (first | apply Kd.R_alloc | apply Kd.R_drewN | apply Kd.R_drew)); exact HO_4.out) (Kd.R_base ho0) hb); have n1_ := Aside0.mk (Kd.R_lower (Kd.R_new' ho0 (Kd.R_lt (by (with_reducible repeat (first | apply Kd.R_alloc | apply Kd.R_drewN | apply Kd.R_drew)); exact HO_4.out))) (below_size (by repeat (first | (with_reducible first | exact HB.out | apply below_alloc | apply pw_below_drewN | apply below_drew1) | exact HB.out)))); have n2_ := Aside0.mk (below_step (by repeat (first | (with_reducible first | exact HB.out | apply below_alloc | apply pw_below_drewN | apply below_drew1) | exact HB.out)) hb); clear HO_4; clear HB; have HO_4 := n0_; have HO134 := n1_; have HB := n2_; clear n0_ n1_ n2_; (try clear hb); (try clear hb2); (try clear hk); (try clear hi); (try clear ho0); obtain ⟨Ao37, co37, eo37⟩ := Kd.R_slice HO134.out; subst eo37; obtain ⟨Ao38, co38, eo38⟩ := Kd.R_slice HO_4.out; subst eo38)); try go_wp2_with (first | (go_at_call 9; (with_reducible refine (impl_ExpandedItem.calls kj13 a0 t132 _ A26.out).mono ?_); rintro e w36 ⟨v133, rfl, ho0, hb⟩; have n0_ := Aside0.mk (Kd.R_elder' (by (with_reducible repeat (first | apply Kd.R_alloc | apply Kd.R_drewN | apply Kd.R_drew)); exact HO_4.out) (Kd.R_base ho0) hb); have n1_ := Aside0.mk (Kd.R_lower (Kd.R_new' ho0 (Kd.R_lt (by (with_reducible repeat (first | apply Kd.R_alloc | apply Kd.R_drewN | apply Kd.R_drew)); exact HO_4.out))) (below_size (by repeat (first | (with_reducible first | exact HB.out | apply below_alloc | apply pw_below_drewN | apply below_drew1) | exact HB.out)))); have n2_ := Aside0.mk (below_step (by repeat (first | (with_reducible first | exact HB.out | apply below_alloc | apply pw_below_drewN | apply below_drew1) | exact HB.out)) hb); clear HO_4; clear HB; have HO_4 := n0_; have HO134 := n1_; have HB := n2_; clear n0_ n1_ n2_; (try clear hb); (try clear hb2); (try clear hk); (try clear hi); (try clear ho0); obtain ⟨Ao37, co37, eo37⟩ := Kd.R_slice HO134.out; subst eo37; obtain ⟨Ao38, co38, eo38⟩ := Kd.R_slice HO_4.out; subst eo38)))
                go_ret
                exact ⟨by first | rfl | (simp [errW_none, errW_some] <;> rfl) | (simp [*, errW_none, errW_some] <;> rfl), by repeat (first | (with_reducible first | exact HB.out | apply below_alloc | apply pw_below_drewN | apply below_drew1) | exact HB.out)⟩

/-- THE ONE PURE STATEMENT of laws_FnExpandedItem: yours. -/
def laws_FnExpandedItem.Pure : Prop := ∀ (a0 : ByteArray), a0.size ≤ 140737488351232 → ∃ k, laws_FnExpandedItem.f k a0 = some true
theorem laws_FnExpandedItem.walk (P : laws_FnExpandedItem.Pure) (a0 : ByteArray) (w : World) (w0 : a0.size ≤ 140737488351232) :
    Calls Try.prog 3 #[.string a0] w fun e w' => e = .returned (.bool true) ∧ Below w.heap.size w w' := by
  obtain ⟨k, h⟩ := P a0 w0
  refine (laws_FnExpandedItem.calls k a0 true w h).mono ?_
  rintro e w' ⟨rfl, hd⟩
  exact ⟨rfl, hd⟩

end Go.Proofs.Ytnokeaiemiiicaa.PFnExpandedItem
