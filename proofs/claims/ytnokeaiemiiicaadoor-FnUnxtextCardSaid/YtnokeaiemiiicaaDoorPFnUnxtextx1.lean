-- Printed for this claim by a copy of the kit's print that takes hand-proved callees (wip/patch_print.py).
import Derived.Test.YtnokeaiemiiicaaDoorPFnUnxtextx0
namespace Go.Proofs.YtnokeaiemiiicaaDoor.PFnUnxtext
open Go.RowKit Go.Proofs.YtnokeaiemiiicaaDoorW.PrintWords Go.Proofs.YtnokeaiemiiicaaDoorW.PrintLast Go.Proofs.YtnokeaiemiiicaaDoorW.PrintMore
attribute [local go_sem] max2_int min2_int max_two min_two max_three min_three max_four min_four   -- for this text's walks alone
set_option linter.unusedVariables false
set_option linter.unusedSimpArgs false

/-! ### spec_plainX: function 44 -/
def spec_plainX.f (a0 : Int) : Option (Bool) := if a0 ≥ 33 then (if a0 ≤ 126 then (if a0 = 43 then (some false) else (some (a0 != 61))) else (some false)) else (some false)
set_option maxHeartbeats 8000000 in
set_option maxRecDepth 100000 in
theorem spec_plainX.calls (a0 : Int) (r : Bool) (w : World) (h : spec_plainX.f a0 = some r) :
    Calls Tryd.prog 44 #[.int .u8 a0] w fun e w' => e = .returned (.bool r) ∧ Drawn0 w w' := by
  have H : (if a0 ≥ 33 then (if a0 ≤ 126 then (if a0 = 43 then (some false) else (some (a0 != 61))) else (some false)) else (some false)) = some r := h
  clear h
  by_cases c2 : a0 ≥ 33
  · rw [if_pos c2] at H
    have c2b0 : decide (33 ≤ a0) = true := decide_eq_true c2
    clear c2
    by_cases c3 : a0 ≤ 126
    · rw [if_pos c3] at H
      have c3b0 : decide (a0 ≤ 126) = true := decide_eq_true c3
      clear c3
      by_cases c4 : a0 = 43
      · rw [if_pos c4] at H
        have c4b0 : (a0 == 43) = true := beq_iff_eq.mpr c4
        have c4b1 : (a0 != 43) = false := bne_eq_false_iff_eq.mpr c4
        clear c4
        obtain rfl := Option.some.inj H
        go_enter Tryd.func44, Tryd.ntmps44
        go_wp2
        go_ret
        exact ⟨by first | rfl | (simp; done) | (simp [*]; done), by repeat (first | exact Drawn0.refl _ | apply Drawn0.step)⟩
      · rw [if_neg c4] at H
        have c4b0 : (a0 == 43) = false := beq_eq_false_iff_ne.mpr c4
        have c4b1 : (a0 != 43) = true := bne_iff_ne.mpr c4
        obtain rfl := Option.some.inj H
        go_enter Tryd.func44, Tryd.ntmps44
        go_wp2
        go_ret
        exact ⟨by first | rfl | (simp; done) | (simp [*]; done), by repeat (first | exact Drawn0.refl _ | apply Drawn0.step)⟩
    · rw [if_neg c3] at H
      have c3b0 : decide (a0 ≤ 126) = false := decide_eq_false c3
      clear c3
      obtain rfl := Option.some.inj H
      go_enter Tryd.func44, Tryd.ntmps44
      go_wp2
      go_ret
      exact ⟨by first | rfl | (simp; done) | (simp [*]; done), by repeat (first | exact Drawn0.refl _ | apply Drawn0.step)⟩
  · rw [if_neg c2] at H
    have c2b0 : decide (33 ≤ a0) = false := decide_eq_false c2
    clear c2
    obtain rfl := Option.some.inj H
    go_enter Tryd.func44, Tryd.ntmps44
    go_wp2
    go_ret
    exact ⟨by first | rfl | (simp; done) | (simp [*]; done), by repeat (first | exact Drawn0.refl _ | apply Drawn0.step)⟩

/-! ### spec_hexGreat: function 45 -/
def spec_hexGreat.j0 : Nat → Int → Bool → Option (Int × Bool)
  | 0, _, _ => none
  | k + 1, x0, x4 => if x4 = true then (some ((x0 - 48) % 256, true)) else (if x0 ≥ 65 then (if x0 ≤ 70 then (some ((((x0 - 65) % 256) + 10) % 256, true)) else (some (0, false))) else (some (0, false)))
def spec_hexGreat.f (k : Nat) (a0 : Int) : Option (Int × Bool) := if a0 ≥ 48 then (spec_hexGreat.j0 k a0 (decide (a0 ≤ 57))) else (spec_hexGreat.j0 k a0 false)
theorem spec_hexGreat.mono_l : ∀ k, (∀ y0 y1, LeO (spec_hexGreat.j0 k y0 y1) (spec_hexGreat.j0 (k + 1) y0 y1))
  | 0 => fun _ _ r h => by simp [spec_hexGreat.j0] at h
  | k + 1 => by
    have ih0 := spec_hexGreat.mono_l k
    · intro y0 y1
      unfold spec_hexGreat.j0
      repeat' first
      | (with_reducible exact ih0 _ _)
      | (with_reducible exact LeO.refl _)
      | (with_reducible exact LeO.none _)
      | (with_reducible refine LeO.ite ?_ ?_)
      | (with_reducible refine LeO.bind ?_ (fun _ => ?_))
      | exact ih0 _ _
      | exact LeO.none _
      | refine LeO.ite ?_ ?_
      | refine LeO.bind ?_ (fun _ => ?_)
theorem spec_hexGreat.mono : ∀ a0 k, LeO (spec_hexGreat.f k a0) (spec_hexGreat.f (k + 1) a0) := by
  intro a0 k
  have ih0 := spec_hexGreat.mono_l k
  unfold spec_hexGreat.f
  repeat' first
      | (with_reducible exact ih0 _ _)
      | (with_reducible exact LeO.refl _)
      | (with_reducible exact LeO.none _)
      | (with_reducible refine LeO.ite ?_ ?_)
      | (with_reducible refine LeO.bind ?_ (fun _ => ?_))
      | exact ih0 _ _
      | exact LeO.none _
      | refine LeO.ite ?_ ?_
      | refine LeO.bind ?_ (fun _ => ?_)
set_option maxHeartbeats 8000000 in
set_option maxRecDepth 100000 in
theorem spec_hexGreat.calls (k : Nat) (a0 : Int) (r1 : Int) (r2 : Bool) (w : World) (h : spec_hexGreat.f k a0 = some (r1, r2)) :
    Calls Tryd.prog 45 #[.int .u8 a0] w fun e w' => e = .returned (.tuple #[.int .u8 r1, .bool r2]) ∧ Drawn0 w w' := by
  have H : (if a0 ≥ 48 then (spec_hexGreat.j0 k a0 (decide (a0 ≤ 57))) else (spec_hexGreat.j0 k a0 false)) = some (r1, r2) := h
  clear h
  have HC2 := Aside0.mk H
  clear H
  go_enter Tryd.func45, Tryd.ntmps45
  go_upto_region 1 with (fail)
  go_cut [4] (fun v4 wc => ∃ (kq : Nat) (x4_1 : Bool), v4 = .bool x4_1 ∧ Aside0 (spec_hexGreat.j0 kq a0 x4_1 = some (r1, r2)) ∧ Aside0 (kq ≤ k) ∧ Drawn0 w wc)
  case first =>
    have H := HC2.out
    clear HC2
    by_cases c3 : a0 ≥ 48
    · rw [if_pos c3] at H
      have c3b0 : decide (48 ≤ a0) = true := decide_eq_true c3
      clear c3
      (first | rw [c3b0] | (simp only [i64_w, i32_w]; rw [c3b0]) | skip)
      have H' := Aside0.mk H
      clear H
      go_wp2
      go_meet
      case rel => exact ⟨_, (decide (a0 ≤ 57)), (by first | rfl | (simp; done) | (simp [*]; done)), H', ⟨by first | omega | exact Nat.le_refl _⟩, by repeat (first | exact Drawn0.refl _ | apply Drawn0.step)⟩
    · rw [if_neg c3] at H
      have c3b0 : decide (48 ≤ a0) = false := decide_eq_false c3
      clear c3
      (first | rw [c3b0] | (simp only [i64_w, i32_w]; rw [c3b0]) | skip)
      have H' := Aside0.mk H
      clear H
      go_wp2
      go_meet
      case rel => exact ⟨_, (false), (by first | rfl | (simp; done) | (simp [*]; done)), H', ⟨by first | omega | exact Nat.le_refl _⟩, by repeat (first | exact Drawn0.refl _ | apply Drawn0.step)⟩
  case rest =>
    clear HC2
    try clear p2
    try clear c3
    try clear c3b0
    obtain ⟨kq, x4_1, rfl, HA, HJ1, ⟨mc1, rfl⟩⟩ := hcut
    cases kq with
    | zero => exact absurd HA.out (by simp [spec_hexGreat.j0])
    | succ kj1 =>
      have H := HA.out
      clear HA
      simp only [spec_hexGreat.j0] at H
      by_cases c4 : x4_1 = true
      · subst c4
        have H1 : (some ((a0 - 48) % 256, true)) = some (r1, r2) := by rw [if_pos rfl] at H; exact H
        clear H
        have H := H1
        clear H1
        simp only [Option.some.injEq, Prod.mk.injEq] at H
        obtain ⟨rfl, rfl⟩ := H
        go_wp2
        go_ret2
        exact ⟨by first | rfl | (simp; done) | (simp [*]; done), by repeat (first | exact Drawn0.refl _ | apply Drawn0.step)⟩
      · replace c4 := Bool.eq_false_iff.mpr c4
        subst c4
        have H1 : (if a0 ≥ 65 then (if a0 ≤ 70 then (some ((((a0 - 65) % 256) + 10) % 256, true)) else (some (0, false))) else (some (0, false))) = some (r1, r2) := by rw [if_neg (show ¬ (false = true) by decide)] at H; exact H
        clear H
        have H := H1
        clear H1
        by_cases c5 : a0 ≥ 65
        · rw [if_pos c5] at H
          have c5b0 : decide (65 ≤ a0) = true := decide_eq_true c5
          clear c5
          by_cases c6 : a0 ≤ 70
          · rw [if_pos c6] at H
            have c6b0 : decide (a0 ≤ 70) = true := decide_eq_true c6
            clear c6
            simp only [Option.some.injEq, Prod.mk.injEq] at H
            obtain ⟨rfl, rfl⟩ := H
            go_wp2
            go_ret2
            exact ⟨by first | rfl | (simp; done) | (simp [*]; done), by repeat (first | exact Drawn0.refl _ | apply Drawn0.step)⟩
          · rw [if_neg c6] at H
            have c6b0 : decide (a0 ≤ 70) = false := decide_eq_false c6
            clear c6
            simp only [Option.some.injEq, Prod.mk.injEq] at H
            obtain ⟨rfl, rfl⟩ := H
            go_wp2
            go_ret2
            exact ⟨by first | rfl | (simp; done) | (simp [*]; done), by repeat (first | exact Drawn0.refl _ | apply Drawn0.step)⟩
        · rw [if_neg c5] at H
          have c5b0 : decide (65 ≤ a0) = false := decide_eq_false c5
          clear c5
          simp only [Option.some.injEq, Prod.mk.injEq] at H
          obtain ⟨rfl, rfl⟩ := H
          go_wp2
          go_ret2
          exact ⟨by first | rfl | (simp; done) | (simp [*]; done), by repeat (first | exact Drawn0.refl _ | apply Drawn0.step)⟩

/-! ### spec_Unxtext: function 24 -/
mutual
def spec_Unxtext.l0 : Nat → ByteArray → ByteArray → Int → Option (ByteArray × Bool × Bool)
  | 0, _, _, _ => none
  | k + 1, x0, x2, x5 => if x5 < (x0.size : Int) then (if 0 ≤ x5 then (if (bt x0 x5) = 43 then (if (wrap64 (x5 + 2)) ≥ (x0.size : Int) then (some ((⟨#[]⟩ : ByteArray), false, true)) else (if 0 ≤ (wrap64 (x5 + 1)) then (if (wrap64 (x5 + 1)) < (x0.size : Int) then ((spec_hexGreat.f k (bt x0 (wrap64 (x5 + 1)))).bind fun bt102 => (if 0 ≤ (wrap64 (x5 + 2)) then (if (wrap64 (x5 + 2)) < (x0.size : Int) then ((spec_hexGreat.f k (bt x0 (wrap64 (x5 + 2)))).bind fun bt104 => (if bt102.2 = true then (spec_Unxtext.j1 k x0 x2 x5 bt102.1 bt104.1 (!bt104.2)) else (spec_Unxtext.j1 k x0 x2 x5 bt102.1 bt104.1 true))) else (none)) else (none))) else (none)) else (none))) else ((spec_plainX.f (bt x0 x5)).bind fun t101 => (if t101 = true then (if x5 ≤ (wrap64 (x5 + 1)) then (if (wrap64 (x5 + 1)) ≤ (x0.size : Int) then (if x2.size + (x0.extract (x5 : Int).toNat ((wrap64 (x5 + 1)) : Int).toNat).size ≤ 9223372036854775807 then (spec_Unxtext.l0 k x0 (x2 ++ (x0.extract (x5 : Int).toNat ((wrap64 (x5 + 1)) : Int).toNat)) (wrap64 (x5 + 1))) else (none)) else (none)) else (none)) else (some ((⟨#[]⟩ : ByteArray), false, false))))) else (none)) else (some (x2, true, true))
def spec_Unxtext.j1 : Nat → ByteArray → ByteArray → Int → Int → Int → Bool → Option (ByteArray × Bool × Bool)
  | 0, _, _, _, _, _, _ => none
  | k + 1, x0, x2, x5, x6, x8, x58 => if x58 = true then (some ((⟨#[]⟩ : ByteArray), false, true)) else (if x6 > 7 then (some ((⟨#[]⟩ : ByteArray), false, decide (x6 > 7))) else (if x6 < 1 then (some ((⟨#[]⟩ : ByteArray), false, decide (x6 > 7))) else ((some (([Go.bits .or .u8 ((x6 * 16) % 256) x8] : List Int) : List Int)).bind fun y106 => (if x2.size + (strOfNums y106).size ≤ 9223372036854775807 then (spec_Unxtext.l0 k x0 (x2 ++ (strOfNums y106)) (wrap64 ((wrap64 (x5 + 2)) + 1))) else (none)))))
end
def spec_Unxtext.f (k : Nat) (a0 : ByteArray) : Option (ByteArray × Bool × Bool) := spec_Unxtext.l0 k a0 (⟨#[]⟩ : ByteArray) 0
theorem spec_Unxtext.mono_l : ∀ k, (∀ y0 y1 y2, LeO (spec_Unxtext.l0 k y0 y1 y2) (spec_Unxtext.l0 (k + 1) y0 y1 y2)) ∧ (∀ y0 y1 y2 y3 y4 y5, LeO (spec_Unxtext.j1 k y0 y1 y2 y3 y4 y5) (spec_Unxtext.j1 (k + 1) y0 y1 y2 y3 y4 y5))
  | 0 => ⟨fun _ _ _ r h => by simp [spec_Unxtext.l0] at h, fun _ _ _ _ _ _ r h => by simp [spec_Unxtext.j1] at h⟩
  | k + 1 => by
    obtain ⟨ih0, ih1⟩ := spec_Unxtext.mono_l k
    refine ⟨?_, ?_⟩
    · intro y0 y1 y2
      unfold spec_Unxtext.l0
      repeat' first
      | (with_reducible exact ih0 _ _ _)
      | (with_reducible exact ih1 _ _ _ _ _ _)
      | (with_reducible exact spec_hexGreat.mono _ _)
      | (with_reducible exact LeO.refl _)
      | (with_reducible exact LeO.none _)
      | (with_reducible refine LeO.ite ?_ ?_)
      | (with_reducible refine LeO.bind ?_ (fun _ => ?_))
      | exact ih0 _ _ _
      | exact ih1 _ _ _ _ _ _
      | exact spec_hexGreat.mono _ _
      | exact LeO.none _
      | refine LeO.ite ?_ ?_
      | refine LeO.bind ?_ (fun _ => ?_)
    · intro y0 y1 y2 y3 y4 y5
      unfold spec_Unxtext.j1
      repeat' first
      | (with_reducible exact ih0 _ _ _)
      | (with_reducible exact ih1 _ _ _ _ _ _)
      | (with_reducible exact spec_hexGreat.mono _ _)
      | (with_reducible exact LeO.refl _)
      | (with_reducible exact LeO.none _)
      | (with_reducible refine LeO.ite ?_ ?_)
      | (with_reducible refine LeO.bind ?_ (fun _ => ?_))
      | exact ih0 _ _ _
      | exact ih1 _ _ _ _ _ _
      | exact spec_hexGreat.mono _ _
      | exact LeO.none _
      | refine LeO.ite ?_ ?_
      | refine LeO.bind ?_ (fun _ => ?_)
theorem spec_Unxtext.mono : ∀ a0 k, LeO (spec_Unxtext.f k a0) (spec_Unxtext.f (k + 1) a0) := by
  intro a0 k
  obtain ⟨ih0, ih1⟩ := spec_Unxtext.mono_l k
  unfold spec_Unxtext.f
  repeat' first
      | (with_reducible exact ih0 _ _ _)
      | (with_reducible exact ih1 _ _ _ _ _ _)
      | (with_reducible exact spec_hexGreat.mono _ _)
      | (with_reducible exact LeO.refl _)
      | (with_reducible exact LeO.none _)
      | (with_reducible refine LeO.ite ?_ ?_)
      | (with_reducible refine LeO.bind ?_ (fun _ => ?_))
      | exact ih0 _ _ _
      | exact ih1 _ _ _ _ _ _
      | exact spec_hexGreat.mono _ _
      | exact LeO.none _
      | refine LeO.ite ?_ ?_
      | refine LeO.bind ?_ (fun _ => ?_)
set_option maxHeartbeats 8000000 in
set_option maxRecDepth 100000 in
theorem spec_Unxtext.calls (k : Nat) (a0 : ByteArray) (r1 : ByteArray) (r2 : Bool) (r3 : Bool) (w : World) (h : spec_Unxtext.f k a0 = some (r1, r2, r3)) :
    Calls Tryd.prog 24 #[.string a0] w fun e w' => e = .returned (.tuple #[.string r1, .bool r2, .bool r3]) ∧ Below w.heap.size w w' := by
  have HB := Aside0.mk (Below.refl w.heap.size w)
  have H : (spec_Unxtext.l0 k a0 (⟨#[]⟩ : ByteArray) 0) = some (r1, r2, r3) := h
  clear h
  have H' := Aside0.mk H
  clear H
  go_enter Tryd.func24, Tryd.ntmps24
  go_wp2
  go_loopg [2, 5] k (fun kq v2 v5 w' => ∃ (x2_1 : ByteArray) (x5_1 : Int), v2 = .string x2_1 ∧ v5 = .int .i64 x5_1 ∧ Aside0 (spec_Unxtext.l0 kq a0 x2_1 x5_1 = some (r1, r2, r3)) ∧ Aside0 (kq ≤ k) ∧ Aside0 (Below w.heap.size w w'))
  case atStart => exact ⟨((⟨#[]⟩ : ByteArray)), (0), (by first | rfl | (simp; done) | (simp [*]; done)), (by first | rfl | (simp; done) | (simp [*]; done)), H', ⟨Nat.le_refl _⟩, ⟨by repeat (first | (with_reducible first | exact HB.out | apply below_alloc | apply pw_below_drewN | apply below_drew1) | exact HB.out)⟩⟩
  case round =>
    clear H'
    obtain ⟨x2_1, x5_1, rfl, rfl, HA, HK1, HB⟩ := hrel
    cases gk with
    | zero => exact absurd HA.out (by simp [spec_Unxtext.l0])
    | succ k1 =>
      have H := HA.out
      clear HA
      simp only [spec_Unxtext.l0] at H
      by_cases c2 : x5_1 < (a0.size : Int)
      · rw [if_pos c2] at H
        have c2b0 : decide (x5_1 < (a0.size : Int)) = true := decide_eq_true c2
        clear c2
        by_cases c3 : 0 ≤ x5_1
        · rw [if_pos c3] at H
          have c3b0 : decide (0 ≤ x5_1) = true := decide_eq_true c3
          clear c3
          by_cases c5 : (bt a0 x5_1) = 43
          · rw [if_pos c5] at H
            have c5b0 : ((bt a0 x5_1) == 43) = true := beq_iff_eq.mpr c5
            have c5b1 : ((bt a0 x5_1) != 43) = false := bne_eq_false_iff_eq.mpr c5
            clear c5
            by_cases c6 : (wrap64 (x5_1 + 2)) ≥ (a0.size : Int)
            · rw [if_pos c6] at H
              have c6b0 : decide ((a0.size : Int) ≤ (wrap64 (x5_1 + 2))) = true := decide_eq_true c6
              clear c6
              simp only [Option.some.injEq, Prod.mk.injEq] at H
              obtain ⟨rfl, rfl, rfl⟩ := H
              have p4 : 0 ≤ (x5_1 : Int) := of_decide_eq_true (by first | (with_reducible assumption) | assumption)
              have q4 : x5_1 < (a0.size : Int) := of_decide_eq_true (by first | (with_reducible assumption) | assumption)
              have hx4 := bt_at a0 x5_1
              replace p4 := eq_true p4
              replace q4 := eq_true q4
              go_wp2
              go_ret3
              exact ⟨by first | rfl | (simp [errW_none, errW_some] <;> rfl) | (simp [*, errW_none, errW_some] <;> rfl), by repeat (first | (with_reducible first | exact HB.out | apply below_alloc | apply pw_below_drewN | apply below_drew1) | exact HB.out)⟩
            · rw [if_neg c6] at H
              have c6b0 : decide ((a0.size : Int) ≤ (wrap64 (x5_1 + 2))) = false := decide_eq_false c6
              clear c6
              obtain ⟨ji7, hji7⟩ : ∃ j_ : Int, (wrap64 (x5_1 + 1)) = j_ := ⟨_, rfl⟩
              replace H : (if 0 ≤ (ji7) then (if (ji7) < (a0.size : Int) then ((spec_hexGreat.f k1 (bt a0 (ji7))).bind fun bt102 => (if 0 ≤ (wrap64 (x5_1 + 2)) then (if (wrap64 (x5_1 + 2)) < (a0.size : Int) then ((spec_hexGreat.f k1 (bt a0 (wrap64 (x5_1 + 2)))).bind fun bt104 => (if bt102.2 = true then (spec_Unxtext.j1 k1 a0 x2_1 x5_1 bt102.1 bt104.1 (!bt104.2)) else (spec_Unxtext.j1 k1 a0 x2_1 x5_1 bt102.1 bt104.1 true))) else (none)) else (none))) else (none)) else (none)) = some (r1, r2, r3) := by first | (rw [hji7] at H; exact H) | (simp only [hji7] at H ⊢; exact H)
              have hji7w : (IntKind.i64.wrap (x5_1 + 1)) = ji7 := (i64_w _).trans hji7
              by_cases c8 : 0 ≤ (ji7)
              · rw [if_pos c8] at H
                have c8b0 : decide (0 ≤ (ji7)) = true := decide_eq_true c8
                clear c8
                by_cases c9 : (ji7) < (a0.size : Int)
                · rw [if_pos c9] at H
                  have c9b0 : decide ((ji7) < (a0.size : Int)) = true := decide_eq_true c9
                  clear c9
                  replace H := Option.bind_eq_some_iff.mp H
                  obtain ⟨⟨t102, t103⟩, A110, H⟩ := H
                  replace H : (if 0 ≤ (wrap64 (x5_1 + 2)) then (if (wrap64 (x5_1 + 2)) < (a0.size : Int) then ((spec_hexGreat.f k1 (bt a0 (wrap64 (x5_1 + 2)))).bind fun bt104 => (if t103 = true then (spec_Unxtext.j1 k1 a0 x2_1 x5_1 t102 bt104.1 (!bt104.2)) else (spec_Unxtext.j1 k1 a0 x2_1 x5_1 t102 bt104.1 true))) else (none)) else (none)) = some (r1, r2, r3) := H
                  have A11 := Aside0.mk A110
                  clear A110
                  obtain ⟨ji12, hji12⟩ : ∃ j_ : Int, (wrap64 (x5_1 + 2)) = j_ := ⟨_, rfl⟩
                  replace H : (if 0 ≤ (ji12) then (if (ji12) < (a0.size : Int) then ((spec_hexGreat.f k1 (bt a0 (ji12))).bind fun bt104 => (if t103 = true then (spec_Unxtext.j1 k1 a0 x2_1 x5_1 t102 bt104.1 (!bt104.2)) else (spec_Unxtext.j1 k1 a0 x2_1 x5_1 t102 bt104.1 true))) else (none)) else (none)) = some (r1, r2, r3) := by first | (rw [hji12] at H; exact H) | (simp only [hji12] at H ⊢; exact H)
                  (try rw [hji12] at c6b0)
                  (try rw [hji12] at A11)
                  have hji12w : (IntKind.i64.wrap (x5_1 + 2)) = ji12 := (i64_w _).trans hji12
                  by_cases c13 : 0 ≤ (ji12)
                  · rw [if_pos c13] at H
                    have c13b0 : decide (0 ≤ (ji12)) = true := decide_eq_true c13
                    clear c13
                    by_cases c14 : (ji12) < (a0.size : Int)
                    · rw [if_pos c14] at H
                      have c14b0 : decide ((ji12) < (a0.size : Int)) = true := decide_eq_true c14
                      clear c14
                      replace H := Option.bind_eq_some_iff.mp H
                      obtain ⟨⟨t104, t105⟩, A160, H⟩ := H
                      replace H : (if t103 = true then (spec_Unxtext.j1 k1 a0 x2_1 x5_1 t102 t104 (!t105)) else (spec_Unxtext.j1 k1 a0 x2_1 x5_1 t102 t104 true)) = some (r1, r2, r3) := H
                      have A16 := Aside0.mk A160
                      clear A160
                      have HC17 := Aside0.mk H
                      clear H
                      have p4 : 0 ≤ (x5_1 : Int) := of_decide_eq_true (by first | (with_reducible assumption) | assumption)
                      have q4 : x5_1 < (a0.size : Int) := of_decide_eq_true (by first | (with_reducible assumption) | assumption)
                      have hx4 := bt_at a0 x5_1
                      replace p4 := eq_true p4
                      replace q4 := eq_true q4
                      have p10 : 0 ≤ ((ji7) : Int) := of_decide_eq_true (by first | (with_reducible assumption) | assumption)
                      have q10 : (ji7) < (a0.size : Int) := of_decide_eq_true (by first | (with_reducible assumption) | assumption)
                      have hx10 := bt_at a0 (ji7)
                      replace p10 := eq_true p10
                      replace q10 := eq_true q10
                      go_upto_region 12 with (first | ((with_reducible refine gate_callee (f := 45) rfl ?_); refine goesL_ (some 42) rfl rfl Tryd.func45 (by kernel_rfl) rfl #[.int .u8 (bt a0 (ji7))] rfl (by (try simp only [List.map_toArray, List.map_cons, List.map_nil]); first | done | (simp only [hji7]; rfl) | rfl | (simp only [List.length_drop, List.length_take]; rfl)) ?_; (with_reducible refine (spec_hexGreat.calls k1 (bt a0 (ji7)) t102 t103 _ A11.out).mono ?_); rintro e w' ⟨rfl, ⟨nd, rfl⟩⟩; refine ⟨_, rfl, ?_⟩; have p15 : 0 ≤ ((ji12) : Int) := of_decide_eq_true (by first | (with_reducible assumption) | assumption); have q15 : (ji12) < (a0.size : Int) := of_decide_eq_true (by first | (with_reducible assumption) | assumption); have hx15 := bt_at a0 (ji12); replace p15 := eq_true p15; replace q15 := eq_true q15) | ((with_reducible refine gate_callee (f := 45) rfl ?_); refine goesL_ (some 50) rfl rfl Tryd.func45 (by kernel_rfl) rfl #[.int .u8 (bt a0 (ji12))] rfl (by (try simp only [List.map_toArray, List.map_cons, List.map_nil]); first | done | (simp only [hji12]; rfl) | rfl | (simp only [List.length_drop, List.length_take]; rfl)) ?_; (with_reducible refine (spec_hexGreat.calls k1 (bt a0 (ji12)) t104 t105 _ A16.out).mono ?_); rintro e w' ⟨rfl, ⟨nd, rfl⟩⟩; refine ⟨_, rfl, ?_⟩))
                      (try simp only [Act.put, List.setIfInBounds_toArray, List.set_cons_zero, List.set_cons_succ])
                      go_cut [58] (fun v58 wc => ∃ (kq : Nat) (x58_16 : Bool), v58 = .bool x58_16 ∧ Aside0 (spec_Unxtext.j1 kq a0 x2_1 x5_1 t102 t104 x58_16 = some (r1, r2, r3)) ∧ Aside0 (kq ≤ k1) ∧ Aside0 (Below w.heap.size w wc))
                      case first =>
                        have H := HC17.out
                        clear HC17
                        by_cases c18 : t103 = true
                        · subst c18
                          have H1 : (spec_Unxtext.j1 k1 a0 x2_1 x5_1 t102 t104 (!t105)) = some (r1, r2, r3) := by rw [if_pos rfl] at H; exact H
                          clear H
                          have H := H1
                          clear H1
                          have H' := Aside0.mk H
                          clear H
                          go_wp2
                          go_meet
                          case rel => exact ⟨_, (!t105), (by first | rfl | (simp; done) | (simp [*]; done)), (by first | exact H' | (rw [hji7, hji12]; exact H') | (simp only [hji7, hji12]; exact H')), ⟨by have := HK1.out; first | omega | exact Nat.le_refl _⟩, ⟨by repeat (first | (with_reducible first | exact HB.out | apply below_alloc | apply pw_below_drewN | apply below_drew1) | exact HB.out)⟩⟩
                        · replace c18 := Bool.eq_false_iff.mpr c18
                          subst c18
                          have H1 : (spec_Unxtext.j1 k1 a0 x2_1 x5_1 t102 t104 true) = some (r1, r2, r3) := by rw [if_neg (show ¬ (false = true) by decide)] at H; exact H
                          clear H
                          have H := H1
                          clear H1
                          have H' := Aside0.mk H
                          clear H
                          go_wp2
                          go_meet
                          case rel => exact ⟨_, (true), (by first | rfl | (simp; done) | (simp [*]; done)), (by first | exact H' | (rw [hji7, hji12]; exact H') | (simp only [hji7, hji12]; exact H')), ⟨by have := HK1.out; first | omega | exact Nat.le_refl _⟩, ⟨by repeat (first | (with_reducible first | exact HB.out | apply below_alloc | apply pw_below_drewN | apply below_drew1) | exact HB.out)⟩⟩
                      case rest =>
                        clear HC17
                        try clear c1
                        try clear p1
                        try clear q1
                        try clear hx1
                        try clear c2
                        try clear c2b0
                        try clear p2
                        try clear c3
                        try clear c3b0
                        try clear c4
                        try clear p4
                        try clear q4
                        try clear hx4
                        try clear c5
                        try clear c5b0
                        try clear c5b1
                        try clear c6
                        try clear c6b0
                        try clear p6
                        try clear c8
                        try clear c8b0
                        try clear c9
                        try clear c9b0
                        try clear p10
                        try clear q10
                        try clear hx10
                        try clear c13
                        try clear c13b0
                        try clear c14
                        try clear c14b0
                        try clear p15
                        try clear q15
                        try clear hx15
                        try clear c18
                        try clear p10
                        try clear p15
                        try clear p4
                        try clear q10
                        try clear q15
                        try clear q4
                        obtain ⟨kq, x58_16, rfl, HA, HJ16, HB⟩ := hcut
                        cases kq with
                        | zero => exact absurd HA.out (by simp [spec_Unxtext.j1])
                        | succ kj16 =>
                          have H := HA.out
                          clear HA
                          simp only [spec_Unxtext.j1] at H
                          by_cases c19 : x58_16 = true
                          · subst c19
                            have H1 : (some ((⟨#[]⟩ : ByteArray), false, true)) = some (r1, r2, r3) := by rw [if_pos rfl] at H; exact H
                            clear H
                            have H := H1
                            clear H1
                            simp only [Option.some.injEq, Prod.mk.injEq] at H
                            obtain ⟨rfl, rfl, rfl⟩ := H
                            go_wp2
                            go_ret3
                            exact ⟨by first | rfl | (simp [errW_none, errW_some] <;> rfl) | (simp only [← hji7, ← hji12]; first | rfl | (simp [errW_none, errW_some] <;> rfl)) | (simp [*, errW_none, errW_some] <;> rfl), by repeat (first | (with_reducible first | exact HB.out | apply below_alloc | apply pw_below_drewN | apply below_drew1) | exact HB.out)⟩
                          · replace c19 := Bool.eq_false_iff.mpr c19
                            subst c19
                            have H1 : (if t102 > 7 then (some ((⟨#[]⟩ : ByteArray), false, decide (t102 > 7))) else (if t102 < 1 then (some ((⟨#[]⟩ : ByteArray), false, decide (t102 > 7))) else ((some (([Go.bits .or .u8 ((t102 * 16) % 256) t104] : List Int) : List Int)).bind fun y106 => (if x2_1.size + (strOfNums y106).size ≤ 9223372036854775807 then (spec_Unxtext.l0 kj16 a0 (x2_1 ++ (strOfNums y106)) (wrap64 ((wrap64 (x5_1 + 2)) + 1))) else (none))))) = some (r1, r2, r3) := by rw [if_neg (show ¬ (false = true) by decide)] at H; exact H
                            clear H
                            have H := H1
                            clear H1
                            by_cases c20 : t102 > 7
                            · rw [if_pos c20] at H
                              have c20b0 : decide (7 < t102) = true := decide_eq_true c20
                              clear c20
                              simp only [Option.some.injEq, Prod.mk.injEq] at H
                              obtain ⟨rfl, rfl, rfl⟩ := H
                              go_wp2
                              go_ret3
                              exact ⟨by first | rfl | (simp [errW_none, errW_some] <;> rfl) | (simp only [← hji7, ← hji12]; first | rfl | (simp [errW_none, errW_some] <;> rfl)) | (simp [*, errW_none, errW_some] <;> rfl), by repeat (first | (with_reducible first | exact HB.out | apply below_alloc | apply pw_below_drewN | apply below_drew1) | exact HB.out)⟩
                            · rw [if_neg c20] at H
                              have c20b0 : decide (7 < t102) = false := decide_eq_false c20
                              clear c20
                              by_cases c21 : t102 < 1
                              · rw [if_pos c21] at H
                                have c21b0 : decide (t102 < 1) = true := decide_eq_true c21
                                clear c21
                                simp only [Option.some.injEq, Prod.mk.injEq] at H
                                obtain ⟨rfl, rfl, rfl⟩ := H
                                go_wp2
                                go_ret3
                                exact ⟨by first | rfl | (simp [errW_none, errW_some] <;> rfl) | (simp only [← hji7, ← hji12]; first | rfl | (simp [errW_none, errW_some] <;> rfl)) | (simp [*, errW_none, errW_some] <;> rfl), by repeat (first | (with_reducible first | exact HB.out | apply below_alloc | apply pw_below_drewN | apply below_drew1) | exact HB.out)⟩
                              · rw [if_neg c21] at H
                                have c21b0 : decide (t102 < 1) = false := decide_eq_false c21
                                clear c21
                                obtain ⟨y106, hy106⟩ : ∃ y_ : List Int, y_ = (([Go.bits .or .u8 ((t102 * 16) % 256) t104] : List Int)) := ⟨_, rfl⟩
                                replace H : (if x2_1.size + (strOfNums y106).size ≤ 9223372036854775807 then (spec_Unxtext.l0 kj16 a0 (x2_1 ++ (strOfNums y106)) (wrap64 ((wrap64 (x5_1 + 2)) + 1))) else (none)) = some (r1, r2, r3) := by first | (rw [hy106]; with_reducible exact H) | (have H2_ := (Option.bind_some _ _).symm.trans H; rw [hy106]; with_reducible exact H2_) | (have H2_ := (Option.bind_some _ _).symm.trans H; with_reducible exact H2_) | with_reducible exact H | (rw [hy106]; exact H) | exact H
                                have Ny106 := Aside0.mk hy106
                                clear hy106
                                by_cases c22 : x2_1.size + (strOfNums y106).size ≤ 9223372036854775807
                                · rw [if_pos c22] at H
                                  have c22b0 := eq_true c22
                                  have c22b1 : decide (x2_1.size + (strOfNums y106).size ≤ 9223372036854775807) = true := decide_eq_true c22
                                  try have c22b2 : (9223372036854775807 < x2_1.size + (strOfNums y106).size) = False := eq_false (Nat.not_lt.2 c22)
                                  have H' := Aside0.mk H
                                  clear H
                                  go_wp2_with (first | ((with_reducible refine gate_dst (N := 72) rfl ?_); refine Kd.R_lit (Kd.int .u8) _ 5 ?hg (N := 72) ?hd (xs := ([Go.bits .or .u8 ((t102 * 16) % 256) t104] : List Int)) (inner := [.int .u8 (Go.bits .or .u8 ((t102 * 16) % 256) t104)]) (ok := fun _ => True) (okp := fun _ => True) ?hr ?hp (fun _ hk => hk) trivial (Below.refl _ _) (Nat.le_refl _) (by simp) ?_; (case hd => rfl); (case hg => rfl); (case hr => first | (go_simp; done) | (go_simp; rfl)); (case hp => exact (Reps.one (show Kd.M (Kd.int .u8) _ _ _ (Go.bits .or .u8 ((t102 * 16) % 256) t104) [.int .u8 (Go.bits .or .u8 ((t102 * 16) % 256) t104)] from rfl) (Reps.none _ _))); intro v107 w23 ho24 hb hg_ hnew_; clear hg_ hnew_; (first | rw [← Ny106.out] at ho24 | (simp only [Int.reduceToNat] at ho24; rw [← Ny106.out] at ho24)); have n0_ := Aside0.mk (Kd.R_lower ho24 (below_size (by repeat (first | (with_reducible first | exact HB.out | apply below_alloc | apply pw_below_drewN | apply below_drew1) | exact HB.out)))); have n1_ := Aside0.mk (below_step (by repeat (first | (with_reducible first | exact HB.out | apply below_alloc | apply pw_below_drewN | apply below_drew1) | exact HB.out)) hb); clear HB; have HO108 := n0_; have HB := n1_; clear n0_ n1_; clear hb ho24; have hcv25 := own_string (P := Tryd.prog) Tryd.underlying54 Tryd.underlying5 Tryd.underlying9 (Kd.own_of_R HO108.out)))
                                  go_roundg kj16
                                  case measure => have := HK1.out; have := HJ16.out; omega
                                  case rel => exact ⟨(x2_1 ++ (strOfNums y106)), (wrap64 ((wrap64 (x5_1 + 2)) + 1)), (by first | rfl | (simp; done) | (simp [*]; done)), (by first | rfl | (simp; done) | (simp [*]; done)), (by first | exact H' | (rw [hji7, hji12]; exact H') | (simp only [hji7, hji12]; exact H')), ⟨by have := HK1.out; have := HJ16.out; omega⟩, ⟨by repeat (first | (with_reducible first | exact HB.out | apply below_alloc | apply pw_below_drewN | apply below_drew1) | exact HB.out)⟩⟩
                                · rw [if_neg c22] at H
                                  exact absurd H (by simp)
                    · rw [if_neg c14] at H
                      exact absurd H (by simp)
                  · rw [if_neg c13] at H
                    exact absurd H (by simp)
                · rw [if_neg c9] at H
                  exact absurd H (by simp)
              · rw [if_neg c8] at H
                exact absurd H (by simp)
          · rw [if_neg c5] at H
            have c5b0 : ((bt a0 x5_1) == 43) = false := beq_eq_false_iff_ne.mpr c5
            have c5b1 : ((bt a0 x5_1) != 43) = true := bne_iff_ne.mpr c5
            replace H := Option.bind_eq_some_iff.mp H
            obtain ⟨t101, A270, H⟩ := H
            replace H : (if t101 = true then (if x5_1 ≤ (wrap64 (x5_1 + 1)) then (if (wrap64 (x5_1 + 1)) ≤ (a0.size : Int) then (if x2_1.size + (a0.extract (x5_1 : Int).toNat ((wrap64 (x5_1 + 1)) : Int).toNat).size ≤ 9223372036854775807 then (spec_Unxtext.l0 k1 a0 (x2_1 ++ (a0.extract (x5_1 : Int).toNat ((wrap64 (x5_1 + 1)) : Int).toNat)) (wrap64 (x5_1 + 1))) else (none)) else (none)) else (none)) else (some ((⟨#[]⟩ : ByteArray), false, false))) = some (r1, r2, r3) := H
            have A27 := Aside0.mk A270
            clear A270
            by_cases c28 : t101 = true
            · subst c28
              have H1 : (if x5_1 ≤ (wrap64 (x5_1 + 1)) then (if (wrap64 (x5_1 + 1)) ≤ (a0.size : Int) then (if x2_1.size + (a0.extract (x5_1 : Int).toNat ((wrap64 (x5_1 + 1)) : Int).toNat).size ≤ 9223372036854775807 then (spec_Unxtext.l0 k1 a0 (x2_1 ++ (a0.extract (x5_1 : Int).toNat ((wrap64 (x5_1 + 1)) : Int).toNat)) (wrap64 (x5_1 + 1))) else (none)) else (none)) else (none)) = some (r1, r2, r3) := by rw [if_pos rfl] at H; exact H
              clear H
              have H := H1
              clear H1
              have c29b0 := eq_true (of_decide_eq_true (by first | (with_reducible assumption) | assumption) : 0 ≤ x5_1)
              by_cases c30 : x5_1 ≤ (wrap64 (x5_1 + 1))
              · rw [if_pos c30] at H
                have c30b0 := eq_true c30
                have c30b1 : decide (x5_1 ≤ (wrap64 (x5_1 + 1))) = true := decide_eq_true c30
                by_cases c31 : (wrap64 (x5_1 + 1)) ≤ (a0.size : Int)
                · rw [if_pos c31] at H
                  have c31b0 := eq_true c31
                  have c31b1 : decide ((wrap64 (x5_1 + 1)) ≤ (a0.size : Int)) = true := decide_eq_true c31
                  by_cases c32 : x2_1.size + (a0.extract (x5_1 : Int).toNat ((wrap64 (x5_1 + 1)) : Int).toNat).size ≤ 9223372036854775807
                  · rw [if_pos c32] at H
                    have c32b0 := eq_true c32
                    have c32b1 : decide (x2_1.size + (a0.extract (x5_1 : Int).toNat ((wrap64 (x5_1 + 1)) : Int).toNat).size ≤ 9223372036854775807) = true := decide_eq_true c32
                    try have c32b2 : (9223372036854775807 < x2_1.size + (a0.extract (x5_1 : Int).toNat ((wrap64 (x5_1 + 1)) : Int).toNat).size) = False := eq_false (Nat.not_lt.2 c32)
                    have H' := Aside0.mk H
                    clear H
                    have p4 : 0 ≤ (x5_1 : Int) := of_decide_eq_true (by first | (with_reducible assumption) | assumption)
                    have q4 : x5_1 < (a0.size : Int) := of_decide_eq_true (by first | (with_reducible assumption) | assumption)
                    have hx4 := bt_at a0 x5_1
                    replace p4 := eq_true p4
                    replace q4 := eq_true q4
                    have p26 : 0 ≤ (x5_1 : Int) := of_decide_eq_true (by first | (with_reducible assumption) | assumption)
                    have q26 : x5_1 < (a0.size : Int) := of_decide_eq_true (by first | (with_reducible assumption) | assumption)
                    have hx26 := bt_at a0 x5_1
                    replace p26 := eq_true p26
                    replace q26 := eq_true q26
                    go_wp2_with (first | ((with_reducible refine gate_callee (f := 44) rfl ?_); refine goesL_ (some 23) rfl rfl Tryd.func44 (by kernel_rfl) rfl #[.int .u8 (bt a0 x5_1)] rfl (by (try simp only [List.map_toArray, List.map_cons, List.map_nil]); first | done | rfl | (simp only [List.length_drop, List.length_take]; rfl)) ?_; (with_reducible refine (spec_plainX.calls (bt a0 x5_1) true _ A27.out).mono ?_); rintro e w' ⟨rfl, ⟨nd, rfl⟩⟩; refine ⟨_, rfl, ?_⟩))
                    go_roundg k1
                    case measure => have := HK1.out; omega
                    case rel => exact ⟨(x2_1 ++ (a0.extract (x5_1 : Int).toNat ((wrap64 (x5_1 + 1)) : Int).toNat)), (wrap64 (x5_1 + 1)), (by first | rfl | (simp; done) | (simp [*]; done)), (by first | rfl | (simp; done) | (simp [*]; done)), H', ⟨by have := HK1.out; omega⟩, ⟨by repeat (first | (with_reducible first | exact HB.out | apply below_alloc | apply pw_below_drewN | apply below_drew1) | exact HB.out)⟩⟩
                  · rw [if_neg c32] at H
                    exact absurd H (by simp)
                · rw [if_neg c31] at H
                  exact absurd H (by simp)
              · rw [if_neg c30] at H
                exact absurd H (by simp)
            · replace c28 := Bool.eq_false_iff.mpr c28
              subst c28
              have H1 : (some ((⟨#[]⟩ : ByteArray), false, false)) = some (r1, r2, r3) := by rw [if_neg (show ¬ (false = true) by decide)] at H; exact H
              clear H
              have H := H1
              clear H1
              simp only [Option.some.injEq, Prod.mk.injEq] at H
              obtain ⟨rfl, rfl, rfl⟩ := H
              have p4 : 0 ≤ (x5_1 : Int) := of_decide_eq_true (by first | (with_reducible assumption) | assumption)
              have q4 : x5_1 < (a0.size : Int) := of_decide_eq_true (by first | (with_reducible assumption) | assumption)
              have hx4 := bt_at a0 x5_1
              replace p4 := eq_true p4
              replace q4 := eq_true q4
              have p26 : 0 ≤ (x5_1 : Int) := of_decide_eq_true (by first | (with_reducible assumption) | assumption)
              have q26 : x5_1 < (a0.size : Int) := of_decide_eq_true (by first | (with_reducible assumption) | assumption)
              have hx26 := bt_at a0 x5_1
              replace p26 := eq_true p26
              replace q26 := eq_true q26
              go_wp2_with (first | ((with_reducible refine gate_callee (f := 44) rfl ?_); refine goesL_ (some 23) rfl rfl Tryd.func44 (by kernel_rfl) rfl #[.int .u8 (bt a0 x5_1)] rfl (by (try simp only [List.map_toArray, List.map_cons, List.map_nil]); first | done | rfl | (simp only [List.length_drop, List.length_take]; rfl)) ?_; (with_reducible refine (spec_plainX.calls (bt a0 x5_1) false _ A27.out).mono ?_); rintro e w' ⟨rfl, ⟨nd, rfl⟩⟩; refine ⟨_, rfl, ?_⟩))
              go_ret3
              exact ⟨by first | rfl | (simp [errW_none, errW_some] <;> rfl) | (simp [*, errW_none, errW_some] <;> rfl), by repeat (first | (with_reducible first | exact HB.out | apply below_alloc | apply pw_below_drewN | apply below_drew1) | exact HB.out)⟩
        · rw [if_neg c3] at H
          exact absurd H (by simp)
      · rw [if_neg c2] at H
        have c2b0 : decide (x5_1 < (a0.size : Int)) = false := decide_eq_false c2
        clear c2
        simp only [Option.some.injEq, Prod.mk.injEq] at H
        obtain ⟨rfl, rfl, rfl⟩ := H
        go_wp2
        go_ret3
        exact ⟨by first | rfl | (simp [errW_none, errW_some] <;> rfl) | (simp [*, errW_none, errW_some] <;> rfl), by repeat (first | (with_reducible first | exact HB.out | apply below_alloc | apply pw_below_drewN | apply below_drew1) | exact HB.out)⟩

/-! ### laws_FnUnxtext: function 6 -/
def laws_FnUnxtext.f (k : Nat) (a0 : ByteArray) : Option (Bool) := if (a0.size : Int) > 2147483647 then (some true) else ((spec_Unxtext.f k a0).bind fun bt109 => (if bt109.2.2 = true then (if (a0.size : Int) > 300 then (some true) else ((Own.impl_Unxtext.f a0).bind fun bt112 => (if (bt112.2 == bt109.2.1) = true then (if bt112.2 = true then (some (bt112.1.toList == bt109.1.toList)) else (some true)) else (some false)))) else (some true)))
theorem laws_FnUnxtext.mono : ∀ a0 k, LeO (laws_FnUnxtext.f k a0) (laws_FnUnxtext.f (k + 1) a0) := by
  intro a0 k
  unfold laws_FnUnxtext.f
  repeat' first
      | (with_reducible exact spec_Unxtext.mono _ _)
      | (with_reducible exact LeO.refl _)
      | (with_reducible exact LeO.none _)
      | (with_reducible refine LeO.ite ?_ ?_)
      | (with_reducible refine LeO.bind ?_ (fun _ => ?_))
      | exact spec_Unxtext.mono _ _
      | exact LeO.none _
      | refine LeO.ite ?_ ?_
      | refine LeO.bind ?_ (fun _ => ?_)
set_option maxHeartbeats 8000000 in
set_option maxRecDepth 100000 in
theorem laws_FnUnxtext.calls (k : Nat) (a0 : ByteArray) (r : Bool) (w : World) (h : laws_FnUnxtext.f k a0 = some r) (henv : Own.EnvXg w) :
    Calls Tryd.prog 6 #[.string a0] w fun e w' => e = .returned (.bool r) ∧ Below w.heap.size w w' := by
  have HENV := Aside0.mk henv.all
  clear henv
  have HB := Aside0.mk (Below.refl w.heap.size w)
  have H : (if (a0.size : Int) > 2147483647 then (some true) else ((spec_Unxtext.f k a0).bind fun bt109 => (if bt109.2.2 = true then (if (a0.size : Int) > 300 then (some true) else ((Own.impl_Unxtext.f a0).bind fun bt112 => (if (bt112.2 == bt109.2.1) = true then (if bt112.2 = true then (some (bt112.1.toList == bt109.1.toList)) else (some true)) else (some false)))) else (some true)))) = some r := h
  clear h
  by_cases c2 : (a0.size : Int) > 2147483647
  · rw [if_pos c2] at H
    have c2b0 : decide (2147483647 < (a0.size : Int)) = true := decide_eq_true c2
    have c2b1 : decide (2147483647 < a0.size) = true := decide_eq_true (by omega)
    clear c2
    obtain rfl := Option.some.inj H
    go_enter Tryd.func6, Tryd.ntmps6
    go_wp2
    go_ret
    exact ⟨by first | rfl | (simp [errW_none, errW_some] <;> rfl) | (simp [*, errW_none, errW_some] <;> rfl), by repeat (first | (with_reducible first | exact HB.out | apply below_alloc | apply pw_below_drewN | apply below_drew1) | exact HB.out)⟩
  · rw [if_neg c2] at H
    have c2b0 : decide (2147483647 < (a0.size : Int)) = false := decide_eq_false c2
    have c2b1 : decide (2147483647 < a0.size) = false := decide_eq_false (by omega)
    clear c2
    replace H := Option.bind_eq_some_iff.mp H
    obtain ⟨⟨t109, t110, t111⟩, A30, H⟩ := H
    replace H : (if t111 = true then (if (a0.size : Int) > 300 then (some true) else ((Own.impl_Unxtext.f a0).bind fun bt112 => (if (bt112.2 == t110) = true then (if bt112.2 = true then (some (bt112.1.toList == t109.toList)) else (some true)) else (some false)))) else (some true)) = some r := H
    have A3 := Aside0.mk A30
    clear A30
    by_cases c4 : t111 = true
    · subst c4
      have H1 : (if (a0.size : Int) > 300 then (some true) else ((Own.impl_Unxtext.f a0).bind fun bt112 => (if (bt112.2 == t110) = true then (if bt112.2 = true then (some (bt112.1.toList == t109.toList)) else (some true)) else (some false)))) = some r := by rw [if_pos rfl] at H; exact H
      clear H
      have H := H1
      clear H1
      by_cases c5 : (a0.size : Int) > 300
      · rw [if_pos c5] at H
        have c5b0 : decide (300 < (a0.size : Int)) = true := decide_eq_true c5
        have c5b1 : decide (300 < a0.size) = true := decide_eq_true (by omega)
        clear c5
        obtain rfl := Option.some.inj H
        go_enter Tryd.func6, Tryd.ntmps6
        go_wp2_with (first | ((with_reducible refine gate_callee (f := 24) rfl ?_); refine goesL_ (some 13) rfl rfl Tryd.func24 (by kernel_rfl) rfl #[.string a0] rfl (by (try simp only [List.map_toArray, List.map_cons, List.map_nil]); first | done | rfl | (simp only [List.length_drop, List.length_take]; rfl)) ?_; (with_reducible refine (spec_Unxtext.calls k a0 t109 t110 true _ A3.out).mono ?_); rintro e w6 ⟨rfl, hb⟩; refine ⟨_, rfl, ?_⟩; have n0_ := Aside0.mk (below_step (by repeat (first | (with_reducible first | exact HB.out | apply below_alloc | apply pw_below_drewN | apply below_drew1) | exact HB.out)) hb); clear HB; have HB := n0_; clear n0_; (try clear hb); (try clear hb2); (try clear hk); (try clear hi)))
        go_ret
        exact ⟨by first | rfl | (simp [errW_none, errW_some] <;> rfl) | (simp [*, errW_none, errW_some] <;> rfl), by repeat (first | (with_reducible first | exact HB.out | apply below_alloc | apply pw_below_drewN | apply below_drew1) | exact HB.out)⟩
      · rw [if_neg c5] at H
        have c5b0 : decide (300 < (a0.size : Int)) = false := decide_eq_false c5
        have c5b1 : decide (300 < a0.size) = false := decide_eq_false (by omega)
        clear c5
        replace H := Option.bind_eq_some_iff.mp H
        obtain ⟨⟨t112, t113⟩, A70, H⟩ := H
        replace H : (if (t113 == t110) = true then (if t113 = true then (some (t112.toList == t109.toList)) else (some true)) else (some false)) = some r := H
        have A7 := Aside0.mk A70
        clear A70
        by_cases c8 : (t113 == t110) = true
        · rw [if_pos c8] at H
          have c8b0 : (t113 == t110) = true := c8
          (try (have c8b1 : decide (t113 = t110) = true := by simpa using c8))
          (try (have c8b2 : (t113 == t110) = true := by simpa using c8))
          clear c8
          by_cases c9 : t113 = true
          · subst c9
            have H1 : (some (t112.toList == t109.toList)) = some r := by rw [if_pos rfl] at H; exact H
            clear H
            have H := H1
            clear H1
            obtain rfl := Option.some.inj H
            go_enter Tryd.func6, Tryd.ntmps6
            go_wp2_with (first | ((with_reducible refine gate_callee (f := 24) rfl ?_); refine goesL_ (some 13) rfl rfl Tryd.func24 (by kernel_rfl) rfl #[.string a0] rfl (by (try simp only [List.map_toArray, List.map_cons, List.map_nil]); first | done | rfl | (simp only [List.length_drop, List.length_take]; rfl)) ?_; (with_reducible refine (spec_Unxtext.calls k a0 t109 t110 true _ A3.out).mono ?_); rintro e w10 ⟨rfl, hb⟩; refine ⟨_, rfl, ?_⟩; have n0_ := Aside0.mk (below_step (by repeat (first | (with_reducible first | exact HB.out | apply below_alloc | apply pw_below_drewN | apply below_drew1) | exact HB.out)) hb); clear HB; have HB := n0_; clear n0_; (try clear hb); (try clear hb2); (try clear hk); (try clear hi)) | ((with_reducible refine gate_callee (f := 25) rfl ?_); refine goesL_ (some 26) rfl rfl Tryd.func25 (by kernel_rfl) rfl #[.string a0] rfl (by (try simp only [List.map_toArray, List.map_cons, List.map_nil]); first | done | rfl | (simp only [List.length_drop, List.length_take]; rfl)) ?_; (with_reducible refine (Own.impl_Unxtext.calls a0 t112 true _ A7.out (HENV.out _ (by repeat (first | (with_reducible first | exact HB.out | apply below_alloc | apply pw_below_drewN | apply below_drew1) | exact HB.out)))).mono ?_); rintro e w11 ⟨rfl, hb⟩; refine ⟨_, rfl, ?_⟩; have n0_ := Aside0.mk (below_step (by repeat (first | (with_reducible first | exact HB.out | apply below_alloc | apply pw_below_drewN | apply below_drew1) | exact HB.out)) hb); clear HB; have HB := n0_; clear n0_; (try clear hb); (try clear hb2); (try clear hk); (try clear hi)))
            go_ret
            exact ⟨by first | rfl | (simp [errW_none, errW_some] <;> rfl) | (simp [*, errW_none, errW_some] <;> rfl), by repeat (first | (with_reducible first | exact HB.out | apply below_alloc | apply pw_below_drewN | apply below_drew1) | exact HB.out)⟩
          · replace c9 := Bool.eq_false_iff.mpr c9
            subst c9
            have H1 : (some true) = some r := by rw [if_neg (show ¬ (false = true) by decide)] at H; exact H
            clear H
            have H := H1
            clear H1
            obtain rfl := Option.some.inj H
            go_enter Tryd.func6, Tryd.ntmps6
            go_wp2_with (first | ((with_reducible refine gate_callee (f := 24) rfl ?_); refine goesL_ (some 13) rfl rfl Tryd.func24 (by kernel_rfl) rfl #[.string a0] rfl (by (try simp only [List.map_toArray, List.map_cons, List.map_nil]); first | done | rfl | (simp only [List.length_drop, List.length_take]; rfl)) ?_; (with_reducible refine (spec_Unxtext.calls k a0 t109 t110 true _ A3.out).mono ?_); rintro e w12 ⟨rfl, hb⟩; refine ⟨_, rfl, ?_⟩; have n0_ := Aside0.mk (below_step (by repeat (first | (with_reducible first | exact HB.out | apply below_alloc | apply pw_below_drewN | apply below_drew1) | exact HB.out)) hb); clear HB; have HB := n0_; clear n0_; (try clear hb); (try clear hb2); (try clear hk); (try clear hi)) | ((with_reducible refine gate_callee (f := 25) rfl ?_); refine goesL_ (some 26) rfl rfl Tryd.func25 (by kernel_rfl) rfl #[.string a0] rfl (by (try simp only [List.map_toArray, List.map_cons, List.map_nil]); first | done | rfl | (simp only [List.length_drop, List.length_take]; rfl)) ?_; (with_reducible refine (Own.impl_Unxtext.calls a0 t112 false _ A7.out (HENV.out _ (by repeat (first | (with_reducible first | exact HB.out | apply below_alloc | apply pw_below_drewN | apply below_drew1) | exact HB.out)))).mono ?_); rintro e w13 ⟨rfl, hb⟩; refine ⟨_, rfl, ?_⟩; have n0_ := Aside0.mk (below_step (by repeat (first | (with_reducible first | exact HB.out | apply below_alloc | apply pw_below_drewN | apply below_drew1) | exact HB.out)) hb); clear HB; have HB := n0_; clear n0_; (try clear hb); (try clear hb2); (try clear hk); (try clear hi)))
            go_ret
            exact ⟨by first | rfl | (simp [errW_none, errW_some] <;> rfl) | (simp [*, errW_none, errW_some] <;> rfl), by repeat (first | (with_reducible first | exact HB.out | apply below_alloc | apply pw_below_drewN | apply below_drew1) | exact HB.out)⟩
        · rw [if_neg c8] at H
          have c8b0 : (t113 == t110) = false := by simpa using c8
          (try (have c8b1 : decide (t113 = t110) = false := by simpa using c8))
          (try (have c8b2 : (t113 == t110) = false := by simpa using c8))
          (try (have c8b3 : ¬ (t113 = t110) := by simpa using c8))
          clear c8
          obtain rfl := Option.some.inj H
          go_enter Tryd.func6, Tryd.ntmps6
          go_wp2_with (first | ((with_reducible refine gate_callee (f := 24) rfl ?_); refine goesL_ (some 13) rfl rfl Tryd.func24 (by kernel_rfl) rfl #[.string a0] rfl (by (try simp only [List.map_toArray, List.map_cons, List.map_nil]); first | done | rfl | (simp only [List.length_drop, List.length_take]; rfl)) ?_; (with_reducible refine (spec_Unxtext.calls k a0 t109 t110 true _ A3.out).mono ?_); rintro e w14 ⟨rfl, hb⟩; refine ⟨_, rfl, ?_⟩; have n0_ := Aside0.mk (below_step (by repeat (first | (with_reducible first | exact HB.out | apply below_alloc | apply pw_below_drewN | apply below_drew1) | exact HB.out)) hb); clear HB; have HB := n0_; clear n0_; (try clear hb); (try clear hb2); (try clear hk); (try clear hi)) | ((with_reducible refine gate_callee (f := 25) rfl ?_); refine goesL_ (some 26) rfl rfl Tryd.func25 (by kernel_rfl) rfl #[.string a0] rfl (by (try simp only [List.map_toArray, List.map_cons, List.map_nil]); first | done | rfl | (simp only [List.length_drop, List.length_take]; rfl)) ?_; (with_reducible refine (Own.impl_Unxtext.calls a0 t112 t113 _ A7.out (HENV.out _ (by repeat (first | (with_reducible first | exact HB.out | apply below_alloc | apply pw_below_drewN | apply below_drew1) | exact HB.out)))).mono ?_); rintro e w15 ⟨rfl, hb⟩; refine ⟨_, rfl, ?_⟩; have n0_ := Aside0.mk (below_step (by repeat (first | (with_reducible first | exact HB.out | apply below_alloc | apply pw_below_drewN | apply below_drew1) | exact HB.out)) hb); clear HB; have HB := n0_; clear n0_; (try clear hb); (try clear hb2); (try clear hk); (try clear hi)))
          go_ret
          exact ⟨by first | rfl | (simp [errW_none, errW_some] <;> rfl) | (simp [*, errW_none, errW_some] <;> rfl), by repeat (first | (with_reducible first | exact HB.out | apply below_alloc | apply pw_below_drewN | apply below_drew1) | exact HB.out)⟩
    · replace c4 := Bool.eq_false_iff.mpr c4
      subst c4
      have H1 : (some true) = some r := by rw [if_neg (show ¬ (false = true) by decide)] at H; exact H
      clear H
      have H := H1
      clear H1
      obtain rfl := Option.some.inj H
      go_enter Tryd.func6, Tryd.ntmps6
      go_wp2_with (first | ((with_reducible refine gate_callee (f := 24) rfl ?_); refine goesL_ (some 13) rfl rfl Tryd.func24 (by kernel_rfl) rfl #[.string a0] rfl (by (try simp only [List.map_toArray, List.map_cons, List.map_nil]); first | done | rfl | (simp only [List.length_drop, List.length_take]; rfl)) ?_; (with_reducible refine (spec_Unxtext.calls k a0 t109 t110 false _ A3.out).mono ?_); rintro e w16 ⟨rfl, hb⟩; refine ⟨_, rfl, ?_⟩; have n0_ := Aside0.mk (below_step (by repeat (first | (with_reducible first | exact HB.out | apply below_alloc | apply pw_below_drewN | apply below_drew1) | exact HB.out)) hb); clear HB; have HB := n0_; clear n0_; (try clear hb); (try clear hb2); (try clear hk); (try clear hi)))
      go_ret
      exact ⟨by first | rfl | (simp [errW_none, errW_some] <;> rfl) | (simp [*, errW_none, errW_some] <;> rfl), by repeat (first | (with_reducible first | exact HB.out | apply below_alloc | apply pw_below_drewN | apply below_drew1) | exact HB.out)⟩

/-- THE ONE PURE STATEMENT of laws_FnUnxtext: yours. -/
def laws_FnUnxtext.Pure : Prop := ∀ (a0 : ByteArray), a0.size ≤ 140737488351232 → ∃ k, laws_FnUnxtext.f k a0 = some true
theorem laws_FnUnxtext.walk (P : laws_FnUnxtext.Pure) (a0 : ByteArray) (w : World) (w0 : a0.size ≤ 140737488351232) (henv : Own.EnvXg w) :
    Calls Tryd.prog 6 #[.string a0] w fun e w' => e = .returned (.bool true) ∧ Below w.heap.size w w' := by
  obtain ⟨k, h⟩ := P a0 w0
  refine (laws_FnUnxtext.calls k a0 true w h henv).mono ?_
  rintro e w' ⟨rfl, hd⟩
  exact ⟨rfl, hd⟩

end Go.Proofs.YtnokeaiemiiicaaDoor.PFnUnxtext
