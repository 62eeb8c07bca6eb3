-- Printed for this claim by a copy of the kit's print that takes hand-proved callees (wip/patch_print.py).
import Derived.Test.YtnokeaiemiiicaaPFnNotifyx0
import Derived.Test.YtnokeaiemiiicaaPFnNotifyx1
namespace Go.Proofs.Ytnokeaiemiiicaa.PFnNotify
open Go.RowKit Go.Proofs.YtnokeaiemiiicaaW.PrintWords Go.Proofs.YtnokeaiemiiicaaW.PrintLast Go.Proofs.YtnokeaiemiiicaaW.PrintMore
attribute [local go_sem] max2_int min2_int max_two min_two max_three min_three max_four min_four   -- for this text's walks alone
set_option linter.unusedVariables false
set_option linter.unusedSimpArgs false

/-! ### laws_FnNotify: function 4 -/
mutual
def laws_FnNotify.j0 : Nat → List ByteArray → Bool → Option (Bool)
  | 0, _, _ => none
  | k + 1, x0, x18 => if x18 = true then (some true) else (laws_FnNotify.l0 k x0 (⟨#[]⟩ : ByteArray) 0)
def laws_FnNotify.l0 : Nat → List ByteArray → ByteArray → Int → Option (Bool)
  | 0, _, _, _ => none
  | k + 1, x0, x3, x4 => if x4 < (x0.length : Int) then (if 0 ≤ x4 then (if (rdOf ByteArray.empty x0 x4).toList = ([78, 69, 86, 69, 82] : List UInt8) then (laws_FnNotify.j2 k x0 x3 x4 false) else (if (rdOf ByteArray.empty x0 x4).toList = ([83, 85, 67, 67, 69, 83, 83] : List UInt8) then (laws_FnNotify.j2 k x0 x3 x4 false) else (if (rdOf ByteArray.empty x0 x4).toList = ([70, 65, 73, 76, 85, 82, 69] : List UInt8) then (laws_FnNotify.j2 k x0 x3 x4 false) else (laws_FnNotify.j2 k x0 x3 x4 ((rdOf ByteArray.empty x0 x4).toList != ([68, 69, 76, 65, 89] : List UInt8)))))) else (none)) else ((spec_Notify.f k x3).bind fun bt117 => ((Own.impl_NotifyFits.f x0).bind fun t119 => (some (t119 == bt117.2))))
def laws_FnNotify.j2 : Nat → List ByteArray → ByteArray → Int → Bool → Option (Bool)
  | 0, _, _, _, _ => none
  | k + 1, x0, x3, x4, x42 => if x42 = true then (some true) else (if x4 > 0 then (if x3.size + 1 ≤ 9223372036854775807 then (if 0 ≤ x4 then (if x4 < (x0.length : Int) then (if (x3 ++ (⟨#[44]⟩ : ByteArray)).size + (rdOf ByteArray.empty x0 x4).size ≤ 9223372036854775807 then (laws_FnNotify.l0 k x0 ((x3 ++ (⟨#[44]⟩ : ByteArray)) ++ (rdOf ByteArray.empty x0 x4)) (wrap64 (x4 + 1))) else (none)) else (none)) else (none)) else (none)) else (if 0 ≤ x4 then (if x4 < (x0.length : Int) then (if x3.size + (rdOf ByteArray.empty x0 x4).size ≤ 9223372036854775807 then (laws_FnNotify.l0 k x0 (x3 ++ (rdOf ByteArray.empty x0 x4)) (wrap64 (x4 + 1))) else (none)) else (none)) else (none)))
end
def laws_FnNotify.f (k : Nat) (l0 : List ByteArray) : Option (Bool) := (laws_zzFits2.f k l0).bind fun t116 => (if t116 = true then (if (l0.length : Int) = 0 then (laws_FnNotify.j0 k l0 true) else (laws_FnNotify.j0 k l0 (decide ((l0.length : Int) > 6)))) else (some true))
theorem laws_FnNotify.mono_l : ∀ k, (∀ y0 y1, LeO (laws_FnNotify.j0 k y0 y1) (laws_FnNotify.j0 (k + 1) y0 y1)) ∧ (∀ y0 y1 y2, LeO (laws_FnNotify.l0 k y0 y1 y2) (laws_FnNotify.l0 (k + 1) y0 y1 y2)) ∧ (∀ y0 y1 y2 y3, LeO (laws_FnNotify.j2 k y0 y1 y2 y3) (laws_FnNotify.j2 (k + 1) y0 y1 y2 y3))
  | 0 => ⟨fun _ _ r h => by simp [laws_FnNotify.j0] at h, fun _ _ _ r h => by simp [laws_FnNotify.l0] at h, fun _ _ _ _ r h => by simp [laws_FnNotify.j2] at h⟩
  | k + 1 => by
    obtain ⟨ih0, ih1, ih2⟩ := laws_FnNotify.mono_l k
    refine ⟨?_, ?_, ?_⟩
    · intro y0 y1
      unfold laws_FnNotify.j0
      repeat' first
      | (with_reducible exact ih0 _ _)
      | (with_reducible exact ih1 _ _ _)
      | (with_reducible exact ih2 _ _ _ _)
      | (with_reducible exact laws_zzFits2.mono _ _)
      | (with_reducible exact spec_Notify.mono _ _)
      | (with_reducible exact LeO.refl _)
      | (with_reducible exact LeO.none _)
      | (with_reducible refine LeO.ite ?_ ?_)
      | (with_reducible refine LeO.bind ?_ (fun _ => ?_))
      | exact ih0 _ _
      | exact ih1 _ _ _
      | exact ih2 _ _ _ _
      | exact laws_zzFits2.mono _ _
      | exact spec_Notify.mono _ _
      | exact LeO.none _
      | refine LeO.ite ?_ ?_
      | refine LeO.bind ?_ (fun _ => ?_)
    · intro y0 y1 y2
      unfold laws_FnNotify.l0
      repeat' first
      | (with_reducible exact ih0 _ _)
      | (with_reducible exact ih1 _ _ _)
      | (with_reducible exact ih2 _ _ _ _)
      | (with_reducible exact laws_zzFits2.mono _ _)
      | (with_reducible exact spec_Notify.mono _ _)
      | (with_reducible exact LeO.refl _)
      | (with_reducible exact LeO.none _)
      | (with_reducible refine LeO.ite ?_ ?_)
      | (with_reducible refine LeO.bind ?_ (fun _ => ?_))
      | exact ih0 _ _
      | exact ih1 _ _ _
      | exact ih2 _ _ _ _
      | exact laws_zzFits2.mono _ _
      | exact spec_Notify.mono _ _
      | exact LeO.none _
      | refine LeO.ite ?_ ?_
      | refine LeO.bind ?_ (fun _ => ?_)
    · intro y0 y1 y2 y3
      unfold laws_FnNotify.j2
      repeat' first
      | (with_reducible exact ih0 _ _)
      | (with_reducible exact ih1 _ _ _)
      | (with_reducible exact ih2 _ _ _ _)
      | (with_reducible exact laws_zzFits2.mono _ _)
      | (with_reducible exact spec_Notify.mono _ _)
      | (with_reducible exact LeO.refl _)
      | (with_reducible exact LeO.none _)
      | (with_reducible refine LeO.ite ?_ ?_)
      | (with_reducible refine LeO.bind ?_ (fun _ => ?_))
      | exact ih0 _ _
      | exact ih1 _ _ _
      | exact ih2 _ _ _ _
      | exact laws_zzFits2.mono _ _
      | exact spec_Notify.mono _ _
      | exact LeO.none _
      | refine LeO.ite ?_ ?_
      | refine LeO.bind ?_ (fun _ => ?_)
theorem laws_FnNotify.mono : ∀ a0 k, LeO (laws_FnNotify.f k a0) (laws_FnNotify.f (k + 1) a0) := by
  intro a0 k
  obtain ⟨ih0, ih1, ih2⟩ := laws_FnNotify.mono_l k
  unfold laws_FnNotify.f
  repeat' first
      | (with_reducible exact ih0 _ _)
      | (with_reducible exact ih1 _ _ _)
      | (with_reducible exact ih2 _ _ _ _)
      | (with_reducible exact laws_zzFits2.mono _ _)
      | (with_reducible exact spec_Notify.mono _ _)
      | (with_reducible exact LeO.refl _)
      | (with_reducible exact LeO.none _)
      | (with_reducible refine LeO.ite ?_ ?_)
      | (with_reducible refine LeO.bind ?_ (fun _ => ?_))
      | exact ih0 _ _
      | exact ih1 _ _ _
      | exact ih2 _ _ _ _
      | exact laws_zzFits2.mono _ _
      | exact spec_Notify.mono _ _
      | exact LeO.none _
      | refine LeO.ite ?_ ?_
      | refine LeO.bind ?_ (fun _ => ?_)
set_option maxHeartbeats 8000000 in
set_option maxRecDepth 100000 in
theorem laws_FnNotify.calls (k : Nat) (A0 : Option Addr) (c0 : Nat) (l0 : List ByteArray) (r : Bool) (w : World) (hr0 : Kd.C Kd.string w A0 l0.length l0) (hc0 : l0.length ≤ c0) (h : laws_FnNotify.f k l0 = some r) :
    Calls Try.prog 4 #[.slice A0 l0.length c0] w fun e w' => e = .returned (.bool r) ∧ Below w.heap.size w w' := by
  have HR0 := Aside0.mk hr0
  have HC0 := Aside0.mk hc0
  clear hr0 hc0
  have HB := Aside0.mk (Below.refl w.heap.size w)
  have H : ((laws_zzFits2.f k l0).bind fun t116 => (if t116 = true then (if (l0.length : Int) = 0 then (laws_FnNotify.j0 k l0 true) else (laws_FnNotify.j0 k l0 (decide ((l0.length : Int) > 6)))) else (some true))) = some r := h
  clear h
  replace H := Option.bind_eq_some_iff.mp H
  obtain ⟨t116, A20, H⟩ := H
  replace H : (if t116 = true then (if (l0.length : Int) = 0 then (laws_FnNotify.j0 k l0 true) else (laws_FnNotify.j0 k l0 (decide ((l0.length : Int) > 6)))) else (some true)) = some r := H
  have A2 := Aside0.mk A20
  clear A20
  by_cases c3 : t116 = true
  · subst c3
    have H1 : (if (l0.length : Int) = 0 then (laws_FnNotify.j0 k l0 true) else (laws_FnNotify.j0 k l0 (decide ((l0.length : Int) > 6)))) = some r := by rw [if_pos rfl] at H; exact H
    clear H
    have H := H1
    clear H1
    have HC4 := Aside0.mk H
    clear H
    go_enter Try.func4, Try.ntmps4
    go_upto_region 3 with (first | ((with_reducible refine gate_callee (f := 10) rfl ?_); refine goesL_ (some 9) rfl rfl Try.func10 (by kernel_rfl) rfl #[.slice A0 l0.length c0] rfl (by (try simp only [List.map_toArray, List.map_cons, List.map_nil]); first | done | rfl | (simp only [List.length_drop, List.length_take]; rfl)) ?_; (with_reducible refine (laws_zzFits2.calls k _ _ l0 true _ ?side1 ?side2 A2.out).mono ?_); (case side1 => repeat (first | exact HR0.out | (with_reducible refine Kd.C_alloc ?_ _) | (with_reducible refine Kd.C_drewN ?_ _) | (with_reducible refine Kd.C_drew ?_))); (case side2 => exact HC0.out); rintro e w' ⟨rfl, ⟨nd, rfl⟩⟩; refine ⟨_, rfl, ?_⟩))
    (try simp only [Act.put, List.setIfInBounds_toArray, List.set_cons_zero, List.set_cons_succ])
    go_cut [18] (fun v18 wc => ∃ (kq : Nat) (x18_3 : Bool), v18 = .bool x18_3 ∧ Aside0 (laws_FnNotify.j0 kq l0 x18_3 = some r) ∧ Aside0 (kq ≤ k) ∧ Aside0 (Below w.heap.size w wc))
    case first =>
      have H := HC4.out
      clear HC4
      by_cases c5 : (l0.length : Int) = 0
      · rw [if_pos c5] at H
        have c5b0 : ((l0.length : Int) == 0) = true := beq_iff_eq.mpr c5
        have c5b1 : ((l0.length : Int) != 0) = false := bne_eq_false_iff_eq.mpr c5
        clear c5
        (first | rw [c5b0] | (simp only [i64_w, i32_w]; rw [c5b0]) | skip)
        have H' := Aside0.mk H
        clear H
        go_wp2
        go_meet
        case rel => exact ⟨_, (true), (by first | rfl | (simp; done) | (simp [*]; done)), H', ⟨by first | omega | exact Nat.le_refl _⟩, ⟨by repeat (first | (with_reducible first | exact HB.out | apply below_alloc | apply pw_below_drewN | apply below_drew1) | exact HB.out)⟩⟩
      · rw [if_neg c5] at H
        have c5b0 : ((l0.length : Int) == 0) = false := beq_eq_false_iff_ne.mpr c5
        have c5b1 : ((l0.length : Int) != 0) = true := bne_iff_ne.mpr c5
        have c5b2 : ¬ (l0 = []) := fun h_ => c5 (by rw [h_]; rfl)
        (first | rw [c5b0] | (simp only [i64_w, i32_w]; rw [c5b0]) | skip)
        have H' := Aside0.mk H
        clear H
        go_wp2
        go_meet
        case rel => exact ⟨_, (decide ((l0.length : Int) > 6)), (by first | rfl | (simp; done) | (simp [*]; done)), H', ⟨by first | omega | exact Nat.le_refl _⟩, ⟨by repeat (first | (with_reducible first | exact HB.out | apply below_alloc | apply pw_below_drewN | apply below_drew1) | exact HB.out)⟩⟩
    case rest =>
      clear HC4
      try clear c1
      try clear p2
      try clear c3
      try clear c4
      try clear c5
      try clear c5b0
      try clear c5b1
      try clear c5b2
      obtain ⟨kq, x18_3, rfl, HA, HJ3, HB⟩ := hcut
      cases kq with
      | zero => exact absurd HA.out (by simp [laws_FnNotify.j0])
      | succ kj3 =>
        have H := HA.out
        clear HA
        simp only [laws_FnNotify.j0] at H
        by_cases c6 : x18_3 = true
        · subst c6
          have H1 : (some true) = some r := by rw [if_pos rfl] at H; exact H
          clear H
          have H := H1
          clear H1
          obtain rfl := Option.some.inj H
          go_wp2
          go_ret
          exact ⟨by first | rfl | (simp [errW_none, errW_some] <;> rfl) | (simp [*, errW_none, errW_some] <;> rfl), by repeat (first | (with_reducible first | exact HB.out | apply below_alloc | apply pw_below_drewN | apply below_drew1) | exact HB.out)⟩
        · replace c6 := Bool.eq_false_iff.mpr c6
          subst c6
          have H1 : (laws_FnNotify.l0 kj3 l0 (⟨#[]⟩ : ByteArray) 0) = some r := by rw [if_neg (show ¬ (false = true) by decide)] at H; exact H
          clear H
          have H := H1
          clear H1
          have H' := Aside0.mk H
          clear H
          go_wp2
          go_loopg [3, 4] kj3 (fun kq v3 v4 w' => ∃ (x3_2 : ByteArray) (x4_2 : Int), v3 = .string x3_2 ∧ v4 = .int .i64 x4_2 ∧ Aside0 (laws_FnNotify.l0 kq l0 x3_2 x4_2 = some r) ∧ Aside0 (kq ≤ kj3) ∧ Aside0 (Below w.heap.size w w'))
          case atStart => exact ⟨((⟨#[]⟩ : ByteArray)), (0), (by first | rfl | (simp; done) | (simp [*]; done)), (by first | rfl | (simp; done) | (simp [*]; done)), H', ⟨Nat.le_refl _⟩, ⟨by repeat (first | (with_reducible first | exact HB.out | apply below_alloc | apply pw_below_drewN | apply below_drew1) | exact HB.out)⟩⟩
          case round =>
            clear H'
            try clear c1
            try clear p2
            try clear c3
            try clear c4
            try clear c5
            try clear c5b0
            try clear c5b1
            try clear c5b2
            try clear c6
            try clear p2
            obtain ⟨x3_2, x4_2, rfl, rfl, HA, HK2, HB⟩ := hrel
            cases gk with
            | zero => exact absurd HA.out (by simp [laws_FnNotify.l0])
            | succ k2 =>
              have H := HA.out
              clear HA
              simp only [laws_FnNotify.l0] at H
              by_cases c7 : x4_2 < (l0.length : Int)
              · rw [if_pos c7] at H
                have c7b0 : decide (x4_2 < (l0.length : Int)) = true := decide_eq_true c7
                clear c7
                by_cases c8 : 0 ≤ x4_2
                · rw [if_pos c8] at H
                  have c8b0 : decide (0 ≤ x4_2) = true := decide_eq_true c8
                  clear c8
                  have HC9 := Aside0.mk H
                  clear H
                  have p120 : 0 ≤ (x4_2 : Int) := of_decide_eq_true (by first | (with_reducible assumption) | assumption)
                  have q120 : x4_2 < (l0.length : Int) := of_decide_eq_true (by first | (with_reducible assumption) | assumption)
                  obtain ⟨ad120, e120, hx120_0⟩ := Kd.at_string HR0.out x4_2 p120 q120
                  cases e120
                  replace hx120_0 := (HB.out.cell (World.block_lt_of_cell? w _ hx120_0)).trans hx120_0
                  replace p120 := eq_true p120
                  replace q120 := eq_true q120
                  go_upto_region 10 with (fail)
                  go_cut [42] (fun v42 wc => ∃ (kq : Nat) (x42_8 : Bool), v42 = .bool x42_8 ∧ Aside0 (laws_FnNotify.j2 kq l0 x3_2 x4_2 x42_8 = some r) ∧ Aside0 (kq ≤ k2) ∧ Aside0 (Below w.heap.size w wc))
                  case first =>
                    have H := HC9.out
                    clear HC9
                    by_cases c10 : (rdOf ByteArray.empty l0 x4_2).toList = ([78, 69, 86, 69, 82] : List UInt8)
                    · rw [if_pos c10] at H
                      have c10b0 : ((rdOf ByteArray.empty l0 x4_2).toList == ([78, 69, 86, 69, 82] : List UInt8)) = true := beq_iff_eq.mpr c10
                      have c10b1 : ((rdOf ByteArray.empty l0 x4_2).toList != ([78, 69, 86, 69, 82] : List UInt8)) = false := bne_eq_false_iff_eq.mpr c10
                      clear c10
                      (first | rw [c10b0] | (simp only [i64_w, i32_w]; rw [c10b0]) | skip)
                      have H' := Aside0.mk H
                      clear H
                      go_wp2
                      go_meet
                      case rel => exact ⟨_, (false), (by first | rfl | (simp; done) | (simp [*]; done)), H', ⟨by have := HJ3.out; have := HK2.out; first | omega | exact Nat.le_refl _⟩, ⟨by repeat (first | (with_reducible first | exact HB.out | apply below_alloc | apply pw_below_drewN | apply below_drew1) | exact HB.out)⟩⟩
                    · rw [if_neg c10] at H
                      have c10b0 : ((rdOf ByteArray.empty l0 x4_2).toList == ([78, 69, 86, 69, 82] : List UInt8)) = false := beq_eq_false_iff_ne.mpr c10
                      have c10b1 : ((rdOf ByteArray.empty l0 x4_2).toList != ([78, 69, 86, 69, 82] : List UInt8)) = true := bne_iff_ne.mpr c10
                      (first | rw [c10b0] | (simp only [i64_w, i32_w]; rw [c10b0]) | skip)
                      by_cases c11 : (rdOf ByteArray.empty l0 x4_2).toList = ([83, 85, 67, 67, 69, 83, 83] : List UInt8)
                      · rw [if_pos c11] at H
                        have c11b0 : ((rdOf ByteArray.empty l0 x4_2).toList == ([83, 85, 67, 67, 69, 83, 83] : List UInt8)) = true := beq_iff_eq.mpr c11
                        have c11b1 : ((rdOf ByteArray.empty l0 x4_2).toList != ([83, 85, 67, 67, 69, 83, 83] : List UInt8)) = false := bne_eq_false_iff_eq.mpr c11
                        clear c11
                        have H' := Aside0.mk H
                        clear H
                        go_wp2
                        go_meet
                        case rel => exact ⟨_, (false), (by first | rfl | (simp; done) | (simp [*]; done)), H', ⟨by have := HJ3.out; have := HK2.out; first | omega | exact Nat.le_refl _⟩, ⟨by repeat (first | (with_reducible first | exact HB.out | apply below_alloc | apply pw_below_drewN | apply below_drew1) | exact HB.out)⟩⟩
                      · rw [if_neg c11] at H
                        have c11b0 : ((rdOf ByteArray.empty l0 x4_2).toList == ([83, 85, 67, 67, 69, 83, 83] : List UInt8)) = false := beq_eq_false_iff_ne.mpr c11
                        have c11b1 : ((rdOf ByteArray.empty l0 x4_2).toList != ([83, 85, 67, 67, 69, 83, 83] : List UInt8)) = true := bne_iff_ne.mpr c11
                        by_cases c12 : (rdOf ByteArray.empty l0 x4_2).toList = ([70, 65, 73, 76, 85, 82, 69] : List UInt8)
                        · rw [if_pos c12] at H
                          have c12b0 : ((rdOf ByteArray.empty l0 x4_2).toList == ([70, 65, 73, 76, 85, 82, 69] : List UInt8)) = true := beq_iff_eq.mpr c12
                          have c12b1 : ((rdOf ByteArray.empty l0 x4_2).toList != ([70, 65, 73, 76, 85, 82, 69] : List UInt8)) = false := bne_eq_false_iff_eq.mpr c12
                          clear c12
                          have H' := Aside0.mk H
                          clear H
                          go_wp2
                          go_meet
                          case rel => exact ⟨_, (false), (by first | rfl | (simp; done) | (simp [*]; done)), H', ⟨by have := HJ3.out; have := HK2.out; first | omega | exact Nat.le_refl _⟩, ⟨by repeat (first | (with_reducible first | exact HB.out | apply below_alloc | apply pw_below_drewN | apply below_drew1) | exact HB.out)⟩⟩
                        · rw [if_neg c12] at H
                          have c12b0 : ((rdOf ByteArray.empty l0 x4_2).toList == ([70, 65, 73, 76, 85, 82, 69] : List UInt8)) = false := beq_eq_false_iff_ne.mpr c12
                          have c12b1 : ((rdOf ByteArray.empty l0 x4_2).toList != ([70, 65, 73, 76, 85, 82, 69] : List UInt8)) = true := bne_iff_ne.mpr c12
                          have H' := Aside0.mk H
                          clear H
                          go_wp2
                          go_meet
                          case rel => exact ⟨_, (((rdOf ByteArray.empty l0 x4_2).toList != ([68, 69, 76, 65, 89] : List UInt8))), (by first | rfl | (simp; done) | (simp [*]; done)), H', ⟨by have := HJ3.out; have := HK2.out; first | omega | exact Nat.le_refl _⟩, ⟨by repeat (first | (with_reducible first | exact HB.out | apply below_alloc | apply pw_below_drewN | apply below_drew1) | exact HB.out)⟩⟩
                  case rest =>
                    clear HC9
                    try clear c1
                    try clear p1
                    try clear q1
                    try clear hx1
                    try clear p2
                    try clear c3
                    try clear c4
                    try clear c5
                    try clear c5b0
                    try clear c5b1
                    try clear c5b2
                    try clear c6
                    try clear c7
                    try clear c7b0
                    try clear c8
                    try clear c8b0
                    try clear c10
                    try clear c10b0
                    try clear c10b1
                    try clear c11
                    try clear c11b0
                    try clear c11b1
                    try clear c12
                    try clear c12b0
                    try clear c12b1
                    try clear p12
                    try clear q12
                    try clear hx12
                    try clear hx120_0
                    try clear p120
                    try clear p2
                    try clear q120
                    obtain ⟨kq, x42_8, rfl, HA, HJ8, HB⟩ := hcut
                    cases kq with
                    | zero => exact absurd HA.out (by simp [laws_FnNotify.j2])
                    | succ kj8 =>
                      have H := HA.out
                      clear HA
                      simp only [laws_FnNotify.j2] at H
                      by_cases c13 : x42_8 = true
                      · subst c13
                        have H1 : (some true) = some r := by rw [if_pos rfl] at H; exact H
                        clear H
                        have H := H1
                        clear H1
                        obtain rfl := Option.some.inj H
                        go_wp2
                        go_ret
                        exact ⟨by first | rfl | (simp [errW_none, errW_some] <;> rfl) | (simp [*, errW_none, errW_some] <;> rfl), by repeat (first | (with_reducible first | exact HB.out | apply below_alloc | apply pw_below_drewN | apply below_drew1) | exact HB.out)⟩
                      · replace c13 := Bool.eq_false_iff.mpr c13
                        subst c13
                        have H1 : (if x4_2 > 0 then (if x3_2.size + 1 ≤ 9223372036854775807 then (if 0 ≤ x4_2 then (if x4_2 < (l0.length : Int) then (if (x3_2 ++ (⟨#[44]⟩ : ByteArray)).size + (rdOf ByteArray.empty l0 x4_2).size ≤ 9223372036854775807 then (laws_FnNotify.l0 kj8 l0 ((x3_2 ++ (⟨#[44]⟩ : ByteArray)) ++ (rdOf ByteArray.empty l0 x4_2)) (wrap64 (x4_2 + 1))) else (none)) else (none)) else (none)) else (none)) else (if 0 ≤ x4_2 then (if x4_2 < (l0.length : Int) then (if x3_2.size + (rdOf ByteArray.empty l0 x4_2).size ≤ 9223372036854775807 then (laws_FnNotify.l0 kj8 l0 (x3_2 ++ (rdOf ByteArray.empty l0 x4_2)) (wrap64 (x4_2 + 1))) else (none)) else (none)) else (none))) = some r := by rw [if_neg (show ¬ (false = true) by decide)] at H; exact H
                        clear H
                        have H := H1
                        clear H1
                        by_cases c14 : x4_2 > 0
                        · rw [if_pos c14] at H
                          have c14b0 : decide (0 < x4_2) = true := decide_eq_true c14
                          clear c14
                          by_cases c15 : x3_2.size + 1 ≤ 9223372036854775807
                          · rw [if_pos c15] at H
                            have c15b0 := eq_true c15
                            have c15b1 : decide (x3_2.size + 1 ≤ 9223372036854775807) = true := decide_eq_true c15
                            try have c15b2 : (9223372036854775807 < x3_2.size + 1) = False := eq_false (Nat.not_lt.2 c15)
                            by_cases c16 : 0 ≤ x4_2
                            · rw [if_pos c16] at H
                              have c16b0 : decide (0 ≤ x4_2) = true := decide_eq_true c16
                              clear c16
                              by_cases c17 : x4_2 < (l0.length : Int)
                              · rw [if_pos c17] at H
                                have c17b0 : decide (x4_2 < (l0.length : Int)) = true := decide_eq_true c17
                                clear c17
                                by_cases c18 : (x3_2 ++ (⟨#[44]⟩ : ByteArray)).size + (rdOf ByteArray.empty l0 x4_2).size ≤ 9223372036854775807
                                · rw [if_pos c18] at H
                                  have c18b0 := eq_true c18
                                  have c18b1 : decide ((x3_2 ++ (⟨#[44]⟩ : ByteArray)).size + (rdOf ByteArray.empty l0 x4_2).size ≤ 9223372036854775807) = true := decide_eq_true c18
                                  try have c18b2 : (9223372036854775807 < (x3_2 ++ (⟨#[44]⟩ : ByteArray)).size + (rdOf ByteArray.empty l0 x4_2).size) = False := eq_false (Nat.not_lt.2 c18)
                                  have H' := Aside0.mk H
                                  clear H
                                  have p121 : 0 ≤ (x4_2 : Int) := of_decide_eq_true (by first | (with_reducible assumption) | assumption)
                                  have q121 : x4_2 < (l0.length : Int) := of_decide_eq_true (by first | (with_reducible assumption) | assumption)
                                  obtain ⟨ad121, e121, hx121_0⟩ := Kd.at_string HR0.out x4_2 p121 q121
                                  obtain rfl : ad120 = ad121 := (by injection e121)
                                  replace hx121_0 := (HB.out.cell (World.block_lt_of_cell? w _ hx121_0)).trans hx121_0
                                  replace p121 := eq_true p121
                                  replace q121 := eq_true q121
                                  go_wp2
                                  go_roundg kj8
                                  case measure => have := HJ3.out; have := HK2.out; have := HJ8.out; omega
                                  case rel => exact ⟨((x3_2 ++ (⟨#[44]⟩ : ByteArray)) ++ (rdOf ByteArray.empty l0 x4_2)), (wrap64 (x4_2 + 1)), (by first | rfl | (simp; done) | (simp [*]; done)), (by first | rfl | (simp; done) | (simp [*]; done)), H', ⟨by have := HJ3.out; have := HK2.out; have := HJ8.out; omega⟩, ⟨by repeat (first | (with_reducible first | exact HB.out | apply below_alloc | apply pw_below_drewN | apply below_drew1) | exact HB.out)⟩⟩
                                · rw [if_neg c18] at H
                                  exact absurd H (by simp)
                              · rw [if_neg c17] at H
                                exact absurd H (by simp)
                            · rw [if_neg c16] at H
                              exact absurd H (by simp)
                          · rw [if_neg c15] at H
                            exact absurd H (by simp)
                        · rw [if_neg c14] at H
                          have c14b0 : decide (0 < x4_2) = false := decide_eq_false c14
                          clear c14
                          by_cases c19 : 0 ≤ x4_2
                          · rw [if_pos c19] at H
                            have c19b0 : decide (0 ≤ x4_2) = true := decide_eq_true c19
                            clear c19
                            by_cases c20 : x4_2 < (l0.length : Int)
                            · rw [if_pos c20] at H
                              have c20b0 : decide (x4_2 < (l0.length : Int)) = true := decide_eq_true c20
                              clear c20
                              by_cases c21 : x3_2.size + (rdOf ByteArray.empty l0 x4_2).size ≤ 9223372036854775807
                              · rw [if_pos c21] at H
                                have c21b0 := eq_true c21
                                have c21b1 : decide (x3_2.size + (rdOf ByteArray.empty l0 x4_2).size ≤ 9223372036854775807) = true := decide_eq_true c21
                                try have c21b2 : (9223372036854775807 < x3_2.size + (rdOf ByteArray.empty l0 x4_2).size) = False := eq_false (Nat.not_lt.2 c21)
                                have H' := Aside0.mk H
                                clear H
                                have p122 : 0 ≤ (x4_2 : Int) := of_decide_eq_true (by first | (with_reducible assumption) | assumption)
                                have q122 : x4_2 < (l0.length : Int) := of_decide_eq_true (by first | (with_reducible assumption) | assumption)
                                obtain ⟨ad122, e122, hx122_0⟩ := Kd.at_string HR0.out x4_2 p122 q122
                                obtain rfl : ad120 = ad122 := (by injection e122)
                                replace hx122_0 := (HB.out.cell (World.block_lt_of_cell? w _ hx122_0)).trans hx122_0
                                replace p122 := eq_true p122
                                replace q122 := eq_true q122
                                go_wp2
                                go_roundg kj8
                                case measure => have := HJ3.out; have := HK2.out; have := HJ8.out; omega
                                case rel => exact ⟨(x3_2 ++ (rdOf ByteArray.empty l0 x4_2)), (wrap64 (x4_2 + 1)), (by first | rfl | (simp; done) | (simp [*]; done)), (by first | rfl | (simp; done) | (simp [*]; done)), H', ⟨by have := HJ3.out; have := HK2.out; have := HJ8.out; omega⟩, ⟨by repeat (first | (with_reducible first | exact HB.out | apply below_alloc | apply pw_below_drewN | apply below_drew1) | exact HB.out)⟩⟩
                              · rw [if_neg c21] at H
                                exact absurd H (by simp)
                            · rw [if_neg c20] at H
                              exact absurd H (by simp)
                          · rw [if_neg c19] at H
                            exact absurd H (by simp)
                · rw [if_neg c8] at H
                  exact absurd H (by simp)
              · rw [if_neg c7] at H
                have c7b0 : decide (x4_2 < (l0.length : Int)) = false := decide_eq_false c7
                clear c7
                replace H := Option.bind_eq_some_iff.mp H
                obtain ⟨⟨t117, t118⟩, A220, H⟩ := H
                replace H : ((Own.impl_NotifyFits.f l0).bind fun t119 => (some (t119 == t118))) = some r := H
                have A22 := Aside0.mk A220
                clear A220
                replace H := Option.bind_eq_some_iff.mp H
                obtain ⟨t119, A230, H⟩ := H
                replace H : (some (t119 == t118)) = some r := H
                have A23 := Aside0.mk A230
                clear A230
                obtain rfl := Option.some.inj H
                go_wp2_with (first | ((with_reducible refine gate_callee (f := 11) rfl ?_); refine goesL_ (some 55) rfl rfl Try.func11 (by kernel_rfl) rfl #[.string x3_2] rfl (by (try simp only [List.map_toArray, List.map_cons, List.map_nil]); first | done | rfl | (simp only [List.length_drop, List.length_take]; rfl)) ?_; (with_reducible refine (spec_Notify.calls k2 x3_2 t117 t118 _ A22.out).mono ?_); rintro e w24 ⟨rfl, hb⟩; refine ⟨_, rfl, ?_⟩; have n0_ := Aside0.mk (below_step (by repeat (first | (with_reducible first | exact HB.out | apply below_alloc | apply pw_below_drewN | apply below_drew1) | exact HB.out)) hb); clear HB; have HB := n0_; clear n0_; (try clear hb); (try clear hb2); (try clear hk); (try clear hi)) | ((with_reducible refine gate_callee (f := 12) rfl ?_); refine goesL_ (some 59) rfl rfl Try.func12 (by kernel_rfl) rfl #[.slice A0 l0.length c0] rfl (by (try simp only [List.map_toArray, List.map_cons, List.map_nil]); first | done | rfl | (simp only [List.length_drop, List.length_take]; rfl)) ?_; (with_reducible refine (Own.impl_NotifyFits.calls _ _ l0 t119 _ ?side1 ?side2 A23.out).mono ?_); (case side1 => repeat (first | exact (Kd.C_below HR0.out HB.out) | (with_reducible refine Kd.C_alloc ?_ _) | (with_reducible refine Kd.C_drewN ?_ _) | (with_reducible refine Kd.C_drew ?_))); (case side2 => exact HC0.out); rintro e w25 ⟨rfl, hb⟩; refine ⟨_, rfl, ?_⟩; have n0_ := Aside0.mk (below_step (by repeat (first | (with_reducible first | exact HB.out | apply below_alloc | apply pw_below_drewN | apply below_drew1) | exact HB.out)) hb); clear HB; have HB := n0_; clear n0_; (try clear hb); (try clear hb2); (try clear hk); (try clear hi)))
                go_ret
                exact ⟨by first | rfl | (simp [errW_none, errW_some] <;> rfl) | (simp [*, errW_none, errW_some] <;> rfl), by repeat (first | (with_reducible first | exact HB.out | apply below_alloc | apply pw_below_drewN | apply below_drew1) | exact HB.out)⟩
  · replace c3 := Bool.eq_false_iff.mpr c3
    subst c3
    have H1 : (some true) = some r := by rw [if_neg (show ¬ (false = true) by decide)] at H; exact H
    clear H
    have H := H1
    clear H1
    obtain rfl := Option.some.inj H
    go_enter Try.func4, Try.ntmps4
    go_wp2_with (first | ((with_reducible refine gate_callee (f := 10) rfl ?_); refine goesL_ (some 9) rfl rfl Try.func10 (by kernel_rfl) rfl #[.slice A0 l0.length c0] rfl (by (try simp only [List.map_toArray, List.map_cons, List.map_nil]); first | done | rfl | (simp only [List.length_drop, List.length_take]; rfl)) ?_; (with_reducible refine (laws_zzFits2.calls k _ _ l0 false _ ?side1 ?side2 A2.out).mono ?_); (case side1 => repeat (first | exact HR0.out | (with_reducible refine Kd.C_alloc ?_ _) | (with_reducible refine Kd.C_drewN ?_ _) | (with_reducible refine Kd.C_drew ?_))); (case side2 => exact HC0.out); rintro e w' ⟨rfl, ⟨nd, rfl⟩⟩; refine ⟨_, rfl, ?_⟩))
    go_ret
    exact ⟨by first | rfl | (simp [errW_none, errW_some] <;> rfl) | (simp [*, errW_none, errW_some] <;> rfl), by repeat (first | (with_reducible first | exact HB.out | apply below_alloc | apply pw_below_drewN | apply below_drew1) | exact HB.out)⟩

end Go.Proofs.Ytnokeaiemiiicaa.PFnNotify
