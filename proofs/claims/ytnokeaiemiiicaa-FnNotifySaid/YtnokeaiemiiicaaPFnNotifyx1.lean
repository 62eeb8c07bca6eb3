-- Printed for this claim by a copy of the kit's print that takes hand-proved callees (wip/patch_print.py).
import Derived.Test.YtnokeaiemiiicaaPFnNotifyx0
namespace Go.Proofs.Ytnokeaiemiiicaa.PFnNotify
open Go.RowKit Go.Proofs.YtnokeaiemiiicaaW.PrintWords Go.Proofs.YtnokeaiemiiicaaW.PrintLast Go.Proofs.YtnokeaiemiiicaaW.PrintMore
attribute [local go_sem] max2_int min2_int max_two min_two max_three min_three max_four min_four   -- for this text's walks alone
set_option linter.unusedVariables false
set_option linter.unusedSimpArgs false

/-! ### laws_zzFits2: function 10 -/
def laws_zzFits2.l0 : Nat → List ByteArray → Int → Int → Option (Bool)
  | 0, _, _, _ => none
  | k + 1, x8, x9, x10 => if x10 < x9 then (if 0 ≤ x10 then (if x10 < (x8.length : Int) then (if ((rdOf ByteArray.empty x8 x10).size : Int) > 2147483647 then (some false) else (laws_zzFits2.l0 k x8 x9 (wrap64 (x10 + 1)))) else (none)) else (none)) else (some true)
def laws_zzFits2.f (k : Nat) (l0 : List ByteArray) : Option (Bool) := if (l0.length : Int) > 2147483647 then (some false) else (laws_zzFits2.l0 k l0 (l0.length : Int) 0)
theorem laws_zzFits2.mono_l : ∀ k, (∀ y0 y1 y2, LeO (laws_zzFits2.l0 k y0 y1 y2) (laws_zzFits2.l0 (k + 1) y0 y1 y2))
  | 0 => fun _ _ _ r h => by simp [laws_zzFits2.l0] at h
  | k + 1 => by
    have ih0 := laws_zzFits2.mono_l k
    · intro y0 y1 y2
      unfold laws_zzFits2.l0
      repeat' first
      | (with_reducible exact ih0 _ _ _)
      | (with_reducible exact LeO.refl _)
      | (with_reducible exact LeO.none _)
      | (with_reducible refine LeO.ite ?_ ?_)
      | (with_reducible refine LeO.bind ?_ (fun _ => ?_))
      | exact ih0 _ _ _
      | exact LeO.none _
      | refine LeO.ite ?_ ?_
      | refine LeO.bind ?_ (fun _ => ?_)
theorem laws_zzFits2.mono : ∀ a0 k, LeO (laws_zzFits2.f k a0) (laws_zzFits2.f (k + 1) a0) := by
  intro a0 k
  have ih0 := laws_zzFits2.mono_l k
  unfold laws_zzFits2.f
  repeat' first
      | (with_reducible exact ih0 _ _ _)
      | (with_reducible exact LeO.refl _)
      | (with_reducible exact LeO.none _)
      | (with_reducible refine LeO.ite ?_ ?_)
      | (with_reducible refine LeO.bind ?_ (fun _ => ?_))
      | exact ih0 _ _ _
      | exact LeO.none _
      | refine LeO.ite ?_ ?_
      | refine LeO.bind ?_ (fun _ => ?_)
set_option maxHeartbeats 8000000 in
set_option maxRecDepth 100000 in
theorem laws_zzFits2.calls (k : Nat) (A0 : Option Addr) (c0 : Nat) (l0 : List ByteArray) (r : Bool) (w : World) (hr0 : Kd.C Kd.string w A0 l0.length l0) (hc0 : l0.length ≤ c0) (h : laws_zzFits2.f k l0 = some r) :
    Calls Try.prog 10 #[.slice A0 l0.length c0] w fun e w' => e = .returned (.bool r) ∧ Drawn0 w w' := by
  have HR0 := Aside0.mk hr0
  have HC0 := Aside0.mk hc0
  clear hr0 hc0
  have H : (if (l0.length : Int) > 2147483647 then (some false) else (laws_zzFits2.l0 k l0 (l0.length : Int) 0)) = some r := h
  clear h
  by_cases c2 : (l0.length : Int) > 2147483647
  · rw [if_pos c2] at H
    have c2b0 : decide (2147483647 < (l0.length : Int)) = true := decide_eq_true c2
    have c2b1 : decide (2147483647 < l0.length) = true := decide_eq_true (by omega)
    clear c2
    obtain rfl := Option.some.inj H
    go_enter Try.func10, Try.ntmps10
    go_wp2
    go_ret
    exact ⟨by first | rfl | (simp; done) | (simp [*]; done), by repeat (first | exact Drawn0.refl _ | apply Drawn0.step)⟩
  · rw [if_neg c2] at H
    have c2b0 : decide (2147483647 < (l0.length : Int)) = false := decide_eq_false c2
    have c2b1 : decide (2147483647 < l0.length) = false := decide_eq_false (by omega)
    clear c2
    have H' := Aside0.mk H
    clear H
    go_enter Try.func10, Try.ntmps10
    go_wp2
    go_loopg [10] k (fun kq v10 w' => ∃ (x10_1 : Int), v10 = .int .i64 x10_1 ∧ Aside0 (laws_zzFits2.l0 kq l0 (l0.length : Int) x10_1 = some r) ∧ Aside0 (kq ≤ k) ∧ Drawn0 w w')
    case atStart => exact ⟨(0), (by first | rfl | (simp; done) | (simp [*]; done)), H', ⟨Nat.le_refl _⟩, by repeat (first | exact Drawn0.refl _ | apply Drawn0.step)⟩
    case round =>
      clear H'
      try clear c1
      try clear c2
      try clear c2b0
      try clear c2b1
      try clear p2
      obtain ⟨x10_1, rfl, HA, HK1, ⟨m1, rfl⟩⟩ := hrel
      cases gk with
      | zero => exact absurd HA.out (by simp [laws_zzFits2.l0])
      | succ k1 =>
        have H := HA.out
        clear HA
        simp only [laws_zzFits2.l0] at H
        by_cases c3 : x10_1 < (l0.length : Int)
        · rw [if_pos c3] at H
          have c3b0 : decide (x10_1 < (l0.length : Int)) = true := decide_eq_true c3
          clear c3
          by_cases c4 : 0 ≤ x10_1
          · rw [if_pos c4] at H
            have c4b0 : decide (0 ≤ x10_1) = true := decide_eq_true c4
            clear c4
            by_cases c5 : x10_1 < (l0.length : Int)
            · rw [if_pos c5] at H
              have c5b0 : decide (x10_1 < (l0.length : Int)) = true := decide_eq_true c5
              clear c5
              by_cases c6 : ((rdOf ByteArray.empty l0 x10_1).size : Int) > 2147483647
              · rw [if_pos c6] at H
                have c6b0 : decide (2147483647 < ((rdOf ByteArray.empty l0 x10_1).size : Int)) = true := decide_eq_true c6
                have c6b1 : decide (2147483647 < (rdOf ByteArray.empty l0 x10_1).size) = true := decide_eq_true (by omega)
                clear c6
                obtain rfl := Option.some.inj H
                have p101 : 0 ≤ (x10_1 : Int) := of_decide_eq_true (by first | (with_reducible assumption) | assumption)
                have q101 : x10_1 < (l0.length : Int) := of_decide_eq_true (by first | (with_reducible assumption) | assumption)
                obtain ⟨ad101, e101, hx101_0⟩ := Kd.at_string HR0.out x10_1 p101 q101
                cases e101
                replace p101 := eq_true p101
                replace q101 := eq_true q101
                go_wp2
                go_ret
                exact ⟨by first | rfl | (simp; done) | (simp [*]; done), by repeat (first | exact Drawn0.refl _ | apply Drawn0.step)⟩
              · rw [if_neg c6] at H
                have c6b0 : decide (2147483647 < ((rdOf ByteArray.empty l0 x10_1).size : Int)) = false := decide_eq_false c6
                have c6b1 : decide (2147483647 < (rdOf ByteArray.empty l0 x10_1).size) = false := decide_eq_false (by omega)
                clear c6
                have H' := Aside0.mk H
                clear H
                have p101 : 0 ≤ (x10_1 : Int) := of_decide_eq_true (by first | (with_reducible assumption) | assumption)
                have q101 : x10_1 < (l0.length : Int) := of_decide_eq_true (by first | (with_reducible assumption) | assumption)
                obtain ⟨ad101, e101, hx101_0⟩ := Kd.at_string HR0.out x10_1 p101 q101
                cases e101
                replace p101 := eq_true p101
                replace q101 := eq_true q101
                go_wp2
                go_roundg k1
                case measure => have := HK1.out; omega
                case rel => exact ⟨(wrap64 (x10_1 + 1)), (by first | rfl | (simp; done) | (simp [*]; done)), H', ⟨by have := HK1.out; omega⟩, by repeat (first | exact Drawn0.refl _ | apply Drawn0.step)⟩
            · rw [if_neg c5] at H
              exact absurd H (by simp)
          · rw [if_neg c4] at H
            exact absurd H (by simp)
        · rw [if_neg c3] at H
          have c3b0 : decide (x10_1 < (l0.length : Int)) = false := decide_eq_false c3
          clear c3
          obtain rfl := Option.some.inj H
          go_wp2
          go_ret
          exact ⟨by first | rfl | (simp; done) | (simp [*]; done), by repeat (first | exact Drawn0.refl _ | apply Drawn0.step)⟩

/-! ### spec_among: function 25 -/
def spec_among.l0 : Nat → List ByteArray → ByteArray → Int → Option (Bool)
  | 0, _, _, _ => none
  | k + 1, x0, x1, x5 => if x5 < (x0.length : Int) then (if 0 ≤ x5 then (if (rdOf ByteArray.empty x0 x5).toList = x1.toList then (some true) else (spec_among.l0 k x0 x1 (wrap64 (x5 + 1)))) else (none)) else (some false)
def spec_among.f (k : Nat) (l0 : List ByteArray) (a1 : ByteArray) : Option (Bool) := spec_among.l0 k l0 a1 0
theorem spec_among.mono_l : ∀ k, (∀ y0 y1 y2, LeO (spec_among.l0 k y0 y1 y2) (spec_among.l0 (k + 1) y0 y1 y2))
  | 0 => fun _ _ _ r h => by simp [spec_among.l0] at h
  | k + 1 => by
    have ih0 := spec_among.mono_l k
    · intro y0 y1 y2
      unfold spec_among.l0
      repeat' first
      | (with_reducible exact ih0 _ _ _)
      | (with_reducible exact LeO.refl _)
      | (with_reducible exact LeO.none _)
      | (with_reducible refine LeO.ite ?_ ?_)
      | (with_reducible refine LeO.bind ?_ (fun _ => ?_))
      | exact ih0 _ _ _
      | exact LeO.none _
      | refine LeO.ite ?_ ?_
      | refine LeO.bind ?_ (fun _ => ?_)
theorem spec_among.mono : ∀ a0 a1 k, LeO (spec_among.f k a0 a1) (spec_among.f (k + 1) a0 a1) := by
  intro a0 a1 k
  have ih0 := spec_among.mono_l k
  unfold spec_among.f
  repeat' first
      | (with_reducible exact ih0 _ _ _)
      | (with_reducible exact LeO.refl _)
      | (with_reducible exact LeO.none _)
      | (with_reducible refine LeO.ite ?_ ?_)
      | (with_reducible refine LeO.bind ?_ (fun _ => ?_))
      | exact ih0 _ _ _
      | exact LeO.none _
      | refine LeO.ite ?_ ?_
      | refine LeO.bind ?_ (fun _ => ?_)
set_option maxHeartbeats 8000000 in
set_option maxRecDepth 100000 in
theorem spec_among.calls (k : Nat) (A0 : Option Addr) (c0 : Nat) (l0 : List ByteArray) (a1 : ByteArray) (r : Bool) (w : World) (hr0 : Kd.C Kd.string w A0 l0.length l0) (hc0 : l0.length ≤ c0) (h : spec_among.f k l0 a1 = some r) :
    Calls Try.prog 25 #[.slice A0 l0.length c0, .string a1] w fun e w' => e = .returned (.bool r) ∧ Drawn0 w w' := by
  have HR0 := Aside0.mk hr0
  have HC0 := Aside0.mk hc0
  clear hr0 hc0
  have H : (spec_among.l0 k l0 a1 0) = some r := h
  clear h
  have H' := Aside0.mk H
  clear H
  go_enter Try.func25, Try.ntmps25
  go_wp2
  go_loopg [5] k (fun kq v5 w' => ∃ (x5_1 : Int), v5 = .int .i64 x5_1 ∧ Aside0 (spec_among.l0 kq l0 a1 x5_1 = some r) ∧ Aside0 (kq ≤ k) ∧ Drawn0 w w')
  case atStart => exact ⟨(0), (by first | rfl | (simp; done) | (simp [*]; done)), H', ⟨Nat.le_refl _⟩, by repeat (first | exact Drawn0.refl _ | apply Drawn0.step)⟩
  case round =>
    clear H'
    try clear c2
    try clear p2
    obtain ⟨x5_1, rfl, HA, HK1, ⟨m1, rfl⟩⟩ := hrel
    cases gk with
    | zero => exact absurd HA.out (by simp [spec_among.l0])
    | succ k1 =>
      have H := HA.out
      clear HA
      simp only [spec_among.l0] at H
      by_cases c3 : x5_1 < (l0.length : Int)
      · rw [if_pos c3] at H
        have c3b0 : decide (x5_1 < (l0.length : Int)) = true := decide_eq_true c3
        clear c3
        by_cases c4 : 0 ≤ x5_1
        · rw [if_pos c4] at H
          have c4b0 : decide (0 ≤ x5_1) = true := decide_eq_true c4
          clear c4
          by_cases c5 : (rdOf ByteArray.empty l0 x5_1).toList = a1.toList
          · rw [if_pos c5] at H
            have c5b0 : ((rdOf ByteArray.empty l0 x5_1).toList == a1.toList) = true := beq_iff_eq.mpr c5
            have c5b1 : ((rdOf ByteArray.empty l0 x5_1).toList != a1.toList) = false := bne_eq_false_iff_eq.mpr c5
            clear c5
            obtain rfl := Option.some.inj H
            have p102 : 0 ≤ (x5_1 : Int) := of_decide_eq_true (by first | (with_reducible assumption) | assumption)
            have q102 : x5_1 < (l0.length : Int) := of_decide_eq_true (by first | (with_reducible assumption) | assumption)
            obtain ⟨ad102, e102, hx102_0⟩ := Kd.at_string HR0.out x5_1 p102 q102
            cases e102
            replace p102 := eq_true p102
            replace q102 := eq_true q102
            go_wp2
            go_ret
            exact ⟨by first | rfl | (simp; done) | (simp [*]; done), by repeat (first | exact Drawn0.refl _ | apply Drawn0.step)⟩
          · rw [if_neg c5] at H
            have c5b0 : ((rdOf ByteArray.empty l0 x5_1).toList == a1.toList) = false := beq_eq_false_iff_ne.mpr c5
            have c5b1 : ((rdOf ByteArray.empty l0 x5_1).toList != a1.toList) = true := bne_iff_ne.mpr c5
            have H' := Aside0.mk H
            clear H
            have p102 : 0 ≤ (x5_1 : Int) := of_decide_eq_true (by first | (with_reducible assumption) | assumption)
            have q102 : x5_1 < (l0.length : Int) := of_decide_eq_true (by first | (with_reducible assumption) | assumption)
            obtain ⟨ad102, e102, hx102_0⟩ := Kd.at_string HR0.out x5_1 p102 q102
            cases e102
            replace p102 := eq_true p102
            replace q102 := eq_true q102
            go_wp2
            go_roundg k1
            case measure => have := HK1.out; omega
            case rel => exact ⟨(wrap64 (x5_1 + 1)), (by first | rfl | (simp; done) | (simp [*]; done)), H', ⟨by have := HK1.out; omega⟩, by repeat (first | exact Drawn0.refl _ | apply Drawn0.step)⟩
        · rw [if_neg c4] at H
          exact absurd H (by simp)
      · rw [if_neg c3] at H
        have c3b0 : decide (x5_1 < (l0.length : Int)) = false := decide_eq_false c3
        clear c3
        obtain rfl := Option.some.inj H
        go_wp2
        go_ret
        exact ⟨by first | rfl | (simp; done) | (simp [*]; done), by repeat (first | exact Drawn0.refl _ | apply Drawn0.step)⟩

/-! ### spec_Notify: function 11 -/
mutual
def spec_Notify.l0 : Nat → ByteArray → List ByteArray → Int → Int → Option (ByteArray × Bool)
  | 0, _, _, _, _ => none
  | k + 1, x0, x4, x5, x6 => if x6 ≤ (x0.size : Int) then (if x6 < (x0.size : Int) then (if 0 ≤ x6 then (spec_Notify.j1 k x0 x4 x5 x6 ((bt x0 x6) != 44)) else (none)) else (spec_Notify.j1 k x0 x4 x5 x6 false)) else (some (x0, true))
def spec_Notify.j1 : Nat → ByteArray → List ByteArray → Int → Int → Bool → Option (ByteArray × Bool)
  | 0, _, _, _, _, _ => none
  | k + 1, x0, x4, x5, x6, x28 => if x28 = true then (spec_Notify.l0 k x0 x4 x5 (wrap64 (x6 + 1))) else (if 0 ≤ x5 then (if x5 ≤ x6 then (if x6 ≤ (x0.size : Int) then (if (x0.extract (x5 : Int).toNat (x6 : Int).toNat).toList = ([83, 85, 67, 67, 69, 83, 83] : List UInt8) then ((spec_among.f k x4 (x0.extract (x5 : Int).toNat (x6 : Int).toNat)).bind fun t104 => (if t104 = true then (some ((⟨#[]⟩ : ByteArray), false)) else (if x4.length < 8796093022208 then (spec_Notify.l0 k x0 (x4 ++ [x0.extract (x5 : Int).toNat (x6 : Int).toNat]) (wrap64 (x6 + 1)) (wrap64 (x6 + 1))) else (none)))) else (if (x0.extract (x5 : Int).toNat (x6 : Int).toNat).toList = ([70, 65, 73, 76, 85, 82, 69] : List UInt8) then ((spec_among.f k x4 (x0.extract (x5 : Int).toNat (x6 : Int).toNat)).bind fun t108 => (if t108 = true then (some ((⟨#[]⟩ : ByteArray), false)) else (if x4.length < 8796093022208 then (spec_Notify.l0 k x0 (x4 ++ [x0.extract (x5 : Int).toNat (x6 : Int).toNat]) (wrap64 (x6 + 1)) (wrap64 (x6 + 1))) else (none)))) else (if (x0.extract (x5 : Int).toNat (x6 : Int).toNat).toList = ([68, 69, 76, 65, 89] : List UInt8) then ((spec_among.f k x4 (x0.extract (x5 : Int).toNat (x6 : Int).toNat)).bind fun t112 => (if t112 = true then (some ((⟨#[]⟩ : ByteArray), false)) else (if x4.length < 8796093022208 then (spec_Notify.l0 k x0 (x4 ++ [x0.extract (x5 : Int).toNat (x6 : Int).toNat]) (wrap64 (x6 + 1)) (wrap64 (x6 + 1))) else (none)))) else (some ((⟨#[]⟩ : ByteArray), false))))) else (none)) else (none)) else (none))
end
def spec_Notify.f (k : Nat) (a0 : ByteArray) : Option (ByteArray × Bool) := (Own.spec_Upper.f a0).bind fun t103 => (if t103.toList = ([78, 69, 86, 69, 82] : List UInt8) then (some (t103, true)) else (spec_Notify.l0 k t103 ([] : List ByteArray) 0 0))
theorem spec_Notify.mono_l : ∀ k, (∀ y0 y1 y2 y3, LeO (spec_Notify.l0 k y0 y1 y2 y3) (spec_Notify.l0 (k + 1) y0 y1 y2 y3)) ∧ (∀ y0 y1 y2 y3 y4, LeO (spec_Notify.j1 k y0 y1 y2 y3 y4) (spec_Notify.j1 (k + 1) y0 y1 y2 y3 y4))
  | 0 => ⟨fun _ _ _ _ r h => by simp [spec_Notify.l0] at h, fun _ _ _ _ _ r h => by simp [spec_Notify.j1] at h⟩
  | k + 1 => by
    obtain ⟨ih0, ih1⟩ := spec_Notify.mono_l k
    refine ⟨?_, ?_⟩
    · intro y0 y1 y2 y3
      unfold spec_Notify.l0
      repeat' first
      | (with_reducible exact ih0 _ _ _ _)
      | (with_reducible exact ih1 _ _ _ _ _)
      | (with_reducible exact spec_among.mono _ _ _)
      | (with_reducible exact LeO.refl _)
      | (with_reducible exact LeO.none _)
      | (with_reducible refine LeO.ite ?_ ?_)
      | (with_reducible refine LeO.bind ?_ (fun _ => ?_))
      | exact ih0 _ _ _ _
      | exact ih1 _ _ _ _ _
      | exact spec_among.mono _ _ _
      | exact LeO.none _
      | refine LeO.ite ?_ ?_
      | refine LeO.bind ?_ (fun _ => ?_)
    · intro y0 y1 y2 y3 y4
      unfold spec_Notify.j1
      repeat' first
      | (with_reducible exact ih0 _ _ _ _)
      | (with_reducible exact ih1 _ _ _ _ _)
      | (with_reducible exact spec_among.mono _ _ _)
      | (with_reducible exact LeO.refl _)
      | (with_reducible exact LeO.none _)
      | (with_reducible refine LeO.ite ?_ ?_)
      | (with_reducible refine LeO.bind ?_ (fun _ => ?_))
      | exact ih0 _ _ _ _
      | exact ih1 _ _ _ _ _
      | exact spec_among.mono _ _ _
      | exact LeO.none _
      | refine LeO.ite ?_ ?_
      | refine LeO.bind ?_ (fun _ => ?_)
theorem spec_Notify.mono : ∀ a0 k, LeO (spec_Notify.f k a0) (spec_Notify.f (k + 1) a0) := by
  intro a0 k
  obtain ⟨ih0, ih1⟩ := spec_Notify.mono_l k
  unfold spec_Notify.f
  repeat' first
      | (with_reducible exact ih0 _ _ _ _)
      | (with_reducible exact ih1 _ _ _ _ _)
      | (with_reducible exact spec_among.mono _ _ _)
      | (with_reducible exact LeO.refl _)
      | (with_reducible exact LeO.none _)
      | (with_reducible refine LeO.ite ?_ ?_)
      | (with_reducible refine LeO.bind ?_ (fun _ => ?_))
      | exact ih0 _ _ _ _
      | exact ih1 _ _ _ _ _
      | exact spec_among.mono _ _ _
      | exact LeO.none _
      | refine LeO.ite ?_ ?_
      | refine LeO.bind ?_ (fun _ => ?_)
set_option maxHeartbeats 8000000 in
set_option maxRecDepth 100000 in
theorem spec_Notify.calls (k : Nat) (a0 : ByteArray) (r1 : ByteArray) (r2 : Bool) (w : World) (h : spec_Notify.f k a0 = some (r1, r2)) :
    Calls Try.prog 11 #[.string a0] w fun e w' => e = .returned (.tuple #[.string r1, .bool r2]) ∧ Below w.heap.size w w' := by
  have HB := Aside0.mk (Below.refl w.heap.size w)
  have H : ((Own.spec_Upper.f a0).bind fun t103 => (if t103.toList = ([78, 69, 86, 69, 82] : List UInt8) then (some (t103, true)) else (spec_Notify.l0 k t103 ([] : List ByteArray) 0 0))) = some (r1, r2) := h
  clear h
  replace H := Option.bind_eq_some_iff.mp H
  obtain ⟨t103, A20, H⟩ := H
  replace H : (if t103.toList = ([78, 69, 86, 69, 82] : List UInt8) then (some (t103, true)) else (spec_Notify.l0 k t103 ([] : List ByteArray) 0 0)) = some (r1, r2) := H
  have A2 := Aside0.mk A20
  clear A20
  by_cases c3 : t103.toList = ([78, 69, 86, 69, 82] : List UInt8)
  · rw [if_pos c3] at H
    have c3b0 : (t103.toList == ([78, 69, 86, 69, 82] : List UInt8)) = true := beq_iff_eq.mpr c3
    have c3b1 : (t103.toList != ([78, 69, 86, 69, 82] : List UInt8)) = false := bne_eq_false_iff_eq.mpr c3
    clear c3
    simp only [Option.some.injEq, Prod.mk.injEq] at H
    obtain ⟨rfl, rfl⟩ := H
    go_enter Try.func11, Try.ntmps11
    go_wp2_with (first | ((with_reducible refine gate_callee (f := 24) rfl ?_); refine goesL_ (some 9) rfl rfl Try.func24 (by kernel_rfl) rfl #[.string a0] rfl (by (try simp only [List.map_toArray, List.map_cons, List.map_nil]); first | done | rfl | (simp only [List.length_drop, List.length_take]; rfl)) ?_; (with_reducible refine (Own.spec_Upper.calls a0 t103 _ A2.out).mono ?_); rintro e w4 ⟨rfl, hb⟩; refine ⟨_, rfl, ?_⟩; have n0_ := Aside0.mk (below_step (by repeat (first | (with_reducible first | exact HB.out | apply below_alloc | apply pw_below_drewN | apply below_drew1) | exact HB.out)) hb); clear HB; have HB := n0_; clear n0_; (try clear hb); (try clear hb2); (try clear hk); (try clear hi)))
    go_ret2
    exact ⟨by first | rfl | (simp [errW_none, errW_some] <;> rfl) | (simp [*, errW_none, errW_some] <;> rfl), by repeat (first | (with_reducible first | exact HB.out | apply below_alloc | apply pw_below_drewN | apply below_drew1) | exact HB.out)⟩
  · rw [if_neg c3] at H
    have c3b0 : (t103.toList == ([78, 69, 86, 69, 82] : List UInt8)) = false := beq_eq_false_iff_ne.mpr c3
    have c3b1 : (t103.toList != ([78, 69, 86, 69, 82] : List UInt8)) = true := bne_iff_ne.mpr c3
    have H' := Aside0.mk H
    clear H
    go_enter Try.func11, Try.ntmps11
    go_wp2_with (first | ((with_reducible refine gate_callee (f := 24) rfl ?_); refine goesL_ (some 9) rfl rfl Try.func24 (by kernel_rfl) rfl #[.string a0] rfl (by (try simp only [List.map_toArray, List.map_cons, List.map_nil]); first | done | rfl | (simp only [List.length_drop, List.length_take]; rfl)) ?_; (with_reducible refine (Own.spec_Upper.calls a0 t103 _ A2.out).mono ?_); rintro e w5 ⟨rfl, hb⟩; refine ⟨_, rfl, ?_⟩; have n0_ := Aside0.mk (below_step (by repeat (first | (with_reducible first | exact HB.out | apply below_alloc | apply pw_below_drewN | apply below_drew1) | exact HB.out)) hb); clear HB; have HB := n0_; clear n0_; (try clear hb); (try clear hb2); (try clear hk); (try clear hi)))
    go_loopg [4, 5, 6] k (fun kq v4 v5 v6 w' => ∃ (x4_1 : List ByteArray) (x5_1 : Int) (x6_1 : Int), v5 = .int .i64 x5_1 ∧ v6 = .int .i64 x6_1 ∧ Aside0 (spec_Notify.l0 kq t103 x4_1 x5_1 x6_1 = some (r1, r2)) ∧ Aside0 (kq ≤ k) ∧ Aside0 (Kd.R Kd.string 9 w' w.heap.size (fun _ => True) v4 x4_1) ∧ Aside0 (Below w.heap.size w w'))
    case atStart => exact ⟨(([] : List ByteArray)), (0), (0), (by first | rfl | (simp; done) | (simp [*]; done)), (by first | rfl | (simp; done) | (simp [*]; done)), H', ⟨Nat.le_refl _⟩, ⟨by first | exact Kd.R_nil _ _ _ _ _ | exact Kd.N_nil _ _ _ _ _ | exact Kd.V_nil _ _ _ _ _ | exact Kd.Q_nil _ _ _ _ _ | exact Kd.S_nil _ _ _ _ _⟩, ⟨by repeat (first | (with_reducible first | exact HB.out | apply below_alloc | apply pw_below_drewN | apply below_drew1) | exact HB.out)⟩⟩
    case round =>
      clear H'
      try clear c1
      try clear c2
      try clear p2
      try clear c3
      try clear c3b0
      try clear c3b1
      obtain ⟨x4_1, x5_1, x6_1, rfl, rfl, HA, HK1, HO_4, HB⟩ := hrel
      cases gk with
      | zero => exact absurd HA.out (by simp [spec_Notify.l0])
      | succ k1 =>
        have H := HA.out
        clear HA
        simp only [spec_Notify.l0] at H
        by_cases c6 : x6_1 ≤ (t103.size : Int)
        · rw [if_pos c6] at H
          have c6b0 : decide (x6_1 ≤ (t103.size : Int)) = true := decide_eq_true c6
          clear c6
          have HC7 := Aside0.mk H
          clear H
          go_upto_region 9 with (fail)
          go_cut [28] (fun v28 wc => ∃ (kq : Nat) (x28_6 : Bool), v28 = .bool x28_6 ∧ Aside0 (spec_Notify.j1 kq t103 x4_1 x5_1 x6_1 x28_6 = some (r1, r2)) ∧ Aside0 (kq ≤ k1) ∧ Aside0 (Kd.R Kd.string 9 wc w.heap.size (fun _ => True) u4 x4_1) ∧ Aside0 (Below w.heap.size w wc))
          case first =>
            have H := HC7.out
            clear HC7
            by_cases c8 : x6_1 < (t103.size : Int)
            · rw [if_pos c8] at H
              have c8b0 : decide (x6_1 < (t103.size : Int)) = true := decide_eq_true c8
              clear c8
              (first | rw [c8b0] | (simp only [i64_w, i32_w]; rw [c8b0]) | skip)
              by_cases c9 : 0 ≤ x6_1
              · rw [if_pos c9] at H
                have c9b0 : decide (0 ≤ x6_1) = true := decide_eq_true c9
                clear c9
                have H' := Aside0.mk H
                clear H
                have p10 : 0 ≤ (x6_1 : Int) := of_decide_eq_true (by first | (with_reducible assumption) | assumption)
                have q10 : x6_1 < (t103.size : Int) := of_decide_eq_true (by first | (with_reducible assumption) | assumption)
                have hx10 := bt_at t103 x6_1
                replace p10 := eq_true p10
                replace q10 := eq_true q10
                go_wp2
                go_meet
                case rel => exact ⟨_, (((bt t103 x6_1) != 44)), (by first | rfl | (simp; done) | (simp [*]; done)), H', ⟨by have := HK1.out; first | omega | exact Nat.le_refl _⟩, ⟨by (with_reducible repeat (first | apply Kd.R_alloc | apply Kd.R_drewN | apply Kd.R_drew)); exact HO_4.out⟩, ⟨by repeat (first | (with_reducible first | exact HB.out | apply below_alloc | apply pw_below_drewN | apply below_drew1) | exact HB.out)⟩⟩
              · rw [if_neg c9] at H
                exact absurd H (by simp)
            · rw [if_neg c8] at H
              have c8b0 : decide (x6_1 < (t103.size : Int)) = false := decide_eq_false c8
              clear c8
              (first | rw [c8b0] | (simp only [i64_w, i32_w]; rw [c8b0]) | skip)
              have H' := Aside0.mk H
              clear H
              go_wp2
              go_meet
              case rel => exact ⟨_, (false), (by first | rfl | (simp; done) | (simp [*]; done)), H', ⟨by have := HK1.out; first | omega | exact Nat.le_refl _⟩, ⟨by (with_reducible repeat (first | apply Kd.R_alloc | apply Kd.R_drewN | apply Kd.R_drew)); exact HO_4.out⟩, ⟨by repeat (first | (with_reducible first | exact HB.out | apply below_alloc | apply pw_below_drewN | apply below_drew1) | exact HB.out)⟩⟩
          case rest =>
            clear HC7
            try clear c1
            try clear p1
            try clear q1
            try clear hx1
            try clear c2
            try clear p2
            try clear c3
            try clear c3b0
            try clear c3b1
            try clear c6
            try clear c6b0
            try clear c8
            try clear c8b0
            try clear c9
            try clear c9b0
            try clear p10
            try clear q10
            try clear hx10
            try clear p10
            try clear p2
            try clear q10
            obtain ⟨kq, x28_6, rfl, HA, HJ6, HO_4, HB⟩ := hcut
            cases kq with
            | zero => exact absurd HA.out (by simp [spec_Notify.j1])
            | succ kj6 =>
              have H := HA.out
              clear HA
              simp only [spec_Notify.j1] at H
              by_cases c11 : x28_6 = true
              · subst c11
                have H1 : (spec_Notify.l0 kj6 t103 x4_1 x5_1 (wrap64 (x6_1 + 1))) = some (r1, r2) := by rw [if_pos rfl] at H; exact H
                clear H
                have H := H1
                clear H1
                have H' := Aside0.mk H
                clear H
                go_wp2
                go_roundg kj6
                case measure => have := HK1.out; have := HJ6.out; omega
                case rel => exact ⟨(x4_1), (x5_1), (wrap64 (x6_1 + 1)), (by first | rfl | (simp; done) | (simp [*]; done)), (by first | rfl | (simp; done) | (simp [*]; done)), H', ⟨by have := HK1.out; have := HJ6.out; omega⟩, ⟨by (with_reducible repeat (first | apply Kd.R_alloc | apply Kd.R_drewN | apply Kd.R_drew)); exact HO_4.out⟩, ⟨by repeat (first | (with_reducible first | exact HB.out | apply below_alloc | apply pw_below_drewN | apply below_drew1) | exact HB.out)⟩⟩
              · replace c11 := Bool.eq_false_iff.mpr c11
                subst c11
                have H1 : (if 0 ≤ x5_1 then (if x5_1 ≤ x6_1 then (if x6_1 ≤ (t103.size : Int) then (if (t103.extract (x5_1 : Int).toNat (x6_1 : Int).toNat).toList = ([83, 85, 67, 67, 69, 83, 83] : List UInt8) then ((spec_among.f kj6 x4_1 (t103.extract (x5_1 : Int).toNat (x6_1 : Int).toNat)).bind fun t104 => (if t104 = true then (some ((⟨#[]⟩ : ByteArray), false)) else (if x4_1.length < 8796093022208 then (spec_Notify.l0 kj6 t103 (x4_1 ++ [t103.extract (x5_1 : Int).toNat (x6_1 : Int).toNat]) (wrap64 (x6_1 + 1)) (wrap64 (x6_1 + 1))) else (none)))) else (if (t103.extract (x5_1 : Int).toNat (x6_1 : Int).toNat).toList = ([70, 65, 73, 76, 85, 82, 69] : List UInt8) then ((spec_among.f kj6 x4_1 (t103.extract (x5_1 : Int).toNat (x6_1 : Int).toNat)).bind fun t108 => (if t108 = true then (some ((⟨#[]⟩ : ByteArray), false)) else (if x4_1.length < 8796093022208 then (spec_Notify.l0 kj6 t103 (x4_1 ++ [t103.extract (x5_1 : Int).toNat (x6_1 : Int).toNat]) (wrap64 (x6_1 + 1)) (wrap64 (x6_1 + 1))) else (none)))) else (if (t103.extract (x5_1 : Int).toNat (x6_1 : Int).toNat).toList = ([68, 69, 76, 65, 89] : List UInt8) then ((spec_among.f kj6 x4_1 (t103.extract (x5_1 : Int).toNat (x6_1 : Int).toNat)).bind fun t112 => (if t112 = true then (some ((⟨#[]⟩ : ByteArray), false)) else (if x4_1.length < 8796093022208 then (spec_Notify.l0 kj6 t103 (x4_1 ++ [t103.extract (x5_1 : Int).toNat (x6_1 : Int).toNat]) (wrap64 (x6_1 + 1)) (wrap64 (x6_1 + 1))) else (none)))) else (some ((⟨#[]⟩ : ByteArray), false))))) else (none)) else (none)) else (none)) = some (r1, r2) := by rw [if_neg (show ¬ (false = true) by decide)] at H; exact H
                clear H
                have H := H1
                clear H1
                by_cases c12 : 0 ≤ x5_1
                · rw [if_pos c12] at H
                  have c12b0 := eq_true c12
                  have c12b1 : decide (0 ≤ x5_1) = true := decide_eq_true c12
                  clear c12
                  by_cases c13 : x5_1 ≤ x6_1
                  · rw [if_pos c13] at H
                    have c13b0 := eq_true c13
                    have c13b1 : decide (x5_1 ≤ x6_1) = true := decide_eq_true c13
                    clear c13
                    by_cases c14 : x6_1 ≤ (t103.size : Int)
                    · rw [if_pos c14] at H
                      have c14b0 := eq_true c14
                      have c14b1 : decide (x6_1 ≤ (t103.size : Int)) = true := decide_eq_true c14
                      clear c14
                      by_cases c15 : (t103.extract (x5_1 : Int).toNat (x6_1 : Int).toNat).toList = ([83, 85, 67, 67, 69, 83, 83] : List UInt8)
                      · rw [if_pos c15] at H
                        have c15b0 : ((t103.extract (x5_1 : Int).toNat (x6_1 : Int).toNat).toList == ([83, 85, 67, 67, 69, 83, 83] : List UInt8)) = true := beq_iff_eq.mpr c15
                        have c15b1 : ((t103.extract (x5_1 : Int).toNat (x6_1 : Int).toNat).toList != ([83, 85, 67, 67, 69, 83, 83] : List UInt8)) = false := bne_eq_false_iff_eq.mpr c15
                        clear c15
                        replace H := Option.bind_eq_some_iff.mp H
                        obtain ⟨t104, A160, H⟩ := H
                        replace H : (if t104 = true then (some ((⟨#[]⟩ : ByteArray), false)) else (if x4_1.length < 8796093022208 then (spec_Notify.l0 kj6 t103 (x4_1 ++ [t103.extract (x5_1 : Int).toNat (x6_1 : Int).toNat]) (wrap64 (x6_1 + 1)) (wrap64 (x6_1 + 1))) else (none))) = some (r1, r2) := H
                        have A16 := Aside0.mk A160
                        clear A160
                        by_cases c17 : t104 = true
                        · subst c17
                          have H1 : (some ((⟨#[]⟩ : ByteArray), false)) = some (r1, r2) := by rw [if_pos rfl] at H; exact H
                          clear H
                          have H := H1
                          clear H1
                          simp only [Option.some.injEq, Prod.mk.injEq] at H
                          obtain ⟨rfl, rfl⟩ := H
                          obtain ⟨Ao18, co18, eo18⟩ := Kd.R_slice HO_4.out
                          subst eo18
                          go_wp2_with (first | (go_at_call 25; (with_reducible refine (spec_among.calls kj6 _ _ x4_1 (t103.extract (x5_1 : Int).toNat (x6_1 : Int).toNat) true _ ?side1 ?side2 A16.out).mono ?_); (case side1 => repeat (first | exact (Kd.R_reads' HO_4.out).2.2 | (with_reducible refine Kd.C_alloc ?_ _) | (with_reducible refine Kd.C_drewN ?_ _) | (with_reducible refine Kd.C_drew ?_))); (case side2 => exact (Kd.R_reads' HO_4.out).2.1); rintro e w' ⟨rfl, ⟨nd, rfl⟩⟩))
                          go_ret2
                          exact ⟨by first | rfl | (simp [errW_none, errW_some] <;> rfl) | (simp [*, errW_none, errW_some] <;> rfl), by repeat (first | (with_reducible first | exact HB.out | apply below_alloc | apply pw_below_drewN | apply below_drew1) | exact HB.out)⟩
                        · replace c17 := Bool.eq_false_iff.mpr c17
                          subst c17
                          have H1 : (if x4_1.length < 8796093022208 then (spec_Notify.l0 kj6 t103 (x4_1 ++ [t103.extract (x5_1 : Int).toNat (x6_1 : Int).toNat]) (wrap64 (x6_1 + 1)) (wrap64 (x6_1 + 1))) else (none)) = some (r1, r2) := by rw [if_neg (show ¬ (false = true) by decide)] at H; exact H
                          clear H
                          have H := H1
                          clear H1
                          by_cases c19 : x4_1.length < 8796093022208
                          · rw [if_pos c19] at H
                            have LMc19 := Aside0.mk c19
                            clear c19
                            obtain ⟨y105, hy105⟩ : ∃ y_ : List ByteArray, y_ = (x4_1 ++ [t103.extract (x5_1 : Int).toNat (x6_1 : Int).toNat]) := ⟨_, rfl⟩
                            replace H : (spec_Notify.l0 kj6 t103 y105 (wrap64 (x6_1 + 1)) (wrap64 (x6_1 + 1))) = some (r1, r2) := by first | (rw [hy105]; with_reducible exact H) | (have H2_ := (Option.bind_some _ _).symm.trans H; rw [hy105]; with_reducible exact H2_) | (have H2_ := (Option.bind_some _ _).symm.trans H; with_reducible exact H2_) | with_reducible exact H | (rw [hy105]; exact H) | exact H
                            have Ny105 := Aside0.mk hy105
                            clear hy105
                            have H' := Aside0.mk H
                            clear H
                            obtain ⟨Ao20, co20, eo20⟩ := Kd.R_slice HO_4.out
                            subst eo20
                            go_wp2_with (first | (go_at_call 25; (with_reducible refine (spec_among.calls kj6 _ _ x4_1 (t103.extract (x5_1 : Int).toNat (x6_1 : Int).toNat) false _ ?side1 ?side2 A16.out).mono ?_); (case side1 => repeat (first | exact (Kd.R_reads' HO_4.out).2.2 | (with_reducible refine Kd.C_alloc ?_ _) | (with_reducible refine Kd.C_drewN ?_ _) | (with_reducible refine Kd.C_drew ?_))); (case side2 => exact (Kd.R_reads' HO_4.out).2.1); rintro e w' ⟨rfl, ⟨nd, rfl⟩⟩) | ((with_reducible refine gate_builtin (b := .append) (xs := #[.tmp 48, .tmp 50]) rfl ?_); at_builtin; refine Kd.R_append Kd.string (w0 := w) w.heap.size rfl (.tmp 48) (.tmp 50) 22 9 (.string ⟨#[]⟩) 16 rfl Try.underlying22 info9 rfl (by decide) (by omega) (.slice Ao20 x4_1.length co20) x4_1 (t103.extract (x5_1 : Int).toNat (x6_1 : Int).toNat) [.string (t103.extract (x5_1 : Int).toNat (x6_1 : Int).toNat)] (fun _ => True) (fun _ => False) rfl rfl ?aP (fun _ hk => hk.elim) ?aF ?aO ?aB ?aS ?aL ?_; (case aP => exact rfl); (case aB => exact (by repeat (first | (with_reducible first | exact HB.out | apply below_alloc | apply pw_below_drewN | apply below_drew1) | exact HB.out))); (case aF => exact (fun _ _ => trivial)); (case aO => exact (by (with_reducible repeat (first | apply Kd.R_alloc | apply Kd.R_drewN | apply Kd.R_drew)); exact HO_4.out)); (case aS => exact (below_size (by repeat (first | (with_reducible first | exact HB.out | apply below_alloc | apply pw_below_drewN | apply below_drew1) | exact HB.out)))); (case aL => have := LMc19.out; omega); intro v106 w21 ho hb hg hat; rw [← Ny105.out] at ho; have n0_ := Aside0.mk (hb); have n1_ := Aside0.mk (ho); clear HB; clear HO_4; have HB := n0_; have HO107 := n1_; clear n0_ n1_; clear ho hb hg hat))
                            go_roundg kj6
                            case measure => have := HK1.out; have := HJ6.out; omega
                            case rel => exact ⟨(y105), (wrap64 (x6_1 + 1)), (wrap64 (x6_1 + 1)), (by first | rfl | (simp; done) | (simp [*]; done)), (by first | rfl | (simp; done) | (simp [*]; done)), H', ⟨by have := HK1.out; have := HJ6.out; omega⟩, ⟨by (with_reducible repeat (first | apply Kd.R_alloc | apply Kd.R_drewN | apply Kd.R_drew)); exact HO107.out⟩, ⟨by repeat (first | (with_reducible first | exact HB.out | apply below_alloc | apply pw_below_drewN | apply below_drew1) | exact HB.out)⟩⟩
                          · rw [if_neg c19] at H
                            exact absurd H (by simp)
                      · rw [if_neg c15] at H
                        have c15b0 : ((t103.extract (x5_1 : Int).toNat (x6_1 : Int).toNat).toList == ([83, 85, 67, 67, 69, 83, 83] : List UInt8)) = false := beq_eq_false_iff_ne.mpr c15
                        have c15b1 : ((t103.extract (x5_1 : Int).toNat (x6_1 : Int).toNat).toList != ([83, 85, 67, 67, 69, 83, 83] : List UInt8)) = true := bne_iff_ne.mpr c15
                        by_cases c22 : (t103.extract (x5_1 : Int).toNat (x6_1 : Int).toNat).toList = ([70, 65, 73, 76, 85, 82, 69] : List UInt8)
                        · rw [if_pos c22] at H
                          have c22b0 : ((t103.extract (x5_1 : Int).toNat (x6_1 : Int).toNat).toList == ([70, 65, 73, 76, 85, 82, 69] : List UInt8)) = true := beq_iff_eq.mpr c22
                          have c22b1 : ((t103.extract (x5_1 : Int).toNat (x6_1 : Int).toNat).toList != ([70, 65, 73, 76, 85, 82, 69] : List UInt8)) = false := bne_eq_false_iff_eq.mpr c22
                          clear c22
                          replace H := Option.bind_eq_some_iff.mp H
                          obtain ⟨t108, A230, H⟩ := H
                          replace H : (if t108 = true then (some ((⟨#[]⟩ : ByteArray), false)) else (if x4_1.length < 8796093022208 then (spec_Notify.l0 kj6 t103 (x4_1 ++ [t103.extract (x5_1 : Int).toNat (x6_1 : Int).toNat]) (wrap64 (x6_1 + 1)) (wrap64 (x6_1 + 1))) else (none))) = some (r1, r2) := H
                          have A23 := Aside0.mk A230
                          clear A230
                          by_cases c24 : t108 = true
                          · subst c24
                            have H1 : (some ((⟨#[]⟩ : ByteArray), false)) = some (r1, r2) := by rw [if_pos rfl] at H; exact H
                            clear H
                            have H := H1
                            clear H1
                            simp only [Option.some.injEq, Prod.mk.injEq] at H
                            obtain ⟨rfl, rfl⟩ := H
                            obtain ⟨Ao25, co25, eo25⟩ := Kd.R_slice HO_4.out
                            subst eo25
                            go_wp2_with (first | (go_at_call 25; (with_reducible refine (spec_among.calls kj6 _ _ x4_1 (t103.extract (x5_1 : Int).toNat (x6_1 : Int).toNat) true _ ?side1 ?side2 A23.out).mono ?_); (case side1 => repeat (first | exact (Kd.R_reads' HO_4.out).2.2 | (with_reducible refine Kd.C_alloc ?_ _) | (with_reducible refine Kd.C_drewN ?_ _) | (with_reducible refine Kd.C_drew ?_))); (case side2 => exact (Kd.R_reads' HO_4.out).2.1); rintro e w' ⟨rfl, ⟨nd, rfl⟩⟩))
                            go_ret2
                            exact ⟨by first | rfl | (simp [errW_none, errW_some] <;> rfl) | (simp [*, errW_none, errW_some] <;> rfl), by repeat (first | (with_reducible first | exact HB.out | apply below_alloc | apply pw_below_drewN | apply below_drew1) | exact HB.out)⟩
                          · replace c24 := Bool.eq_false_iff.mpr c24
                            subst c24
                            have H1 : (if x4_1.length < 8796093022208 then (spec_Notify.l0 kj6 t103 (x4_1 ++ [t103.extract (x5_1 : Int).toNat (x6_1 : Int).toNat]) (wrap64 (x6_1 + 1)) (wrap64 (x6_1 + 1))) else (none)) = some (r1, r2) := by rw [if_neg (show ¬ (false = true) by decide)] at H; exact H
                            clear H
                            have H := H1
                            clear H1
                            by_cases c26 : x4_1.length < 8796093022208
                            · rw [if_pos c26] at H
                              have LMc26 := Aside0.mk c26
                              clear c26
                              obtain ⟨y109, hy109⟩ : ∃ y_ : List ByteArray, y_ = (x4_1 ++ [t103.extract (x5_1 : Int).toNat (x6_1 : Int).toNat]) := ⟨_, rfl⟩
                              replace H : (spec_Notify.l0 kj6 t103 y109 (wrap64 (x6_1 + 1)) (wrap64 (x6_1 + 1))) = some (r1, r2) := by first | (rw [hy109]; with_reducible exact H) | (have H2_ := (Option.bind_some _ _).symm.trans H; rw [hy109]; with_reducible exact H2_) | (have H2_ := (Option.bind_some _ _).symm.trans H; with_reducible exact H2_) | with_reducible exact H | (rw [hy109]; exact H) | exact H
                              have Ny109 := Aside0.mk hy109
                              clear hy109
                              have H' := Aside0.mk H
                              clear H
                              obtain ⟨Ao27, co27, eo27⟩ := Kd.R_slice HO_4.out
                              subst eo27
                              go_wp2_with (first | (go_at_call 25; (with_reducible refine (spec_among.calls kj6 _ _ x4_1 (t103.extract (x5_1 : Int).toNat (x6_1 : Int).toNat) false _ ?side1 ?side2 A23.out).mono ?_); (case side1 => repeat (first | exact (Kd.R_reads' HO_4.out).2.2 | (with_reducible refine Kd.C_alloc ?_ _) | (with_reducible refine Kd.C_drewN ?_ _) | (with_reducible refine Kd.C_drew ?_))); (case side2 => exact (Kd.R_reads' HO_4.out).2.1); rintro e w' ⟨rfl, ⟨nd, rfl⟩⟩) | ((with_reducible refine gate_builtin (b := .append) (xs := #[.tmp 48, .tmp 50]) rfl ?_); at_builtin; refine Kd.R_append Kd.string (w0 := w) w.heap.size rfl (.tmp 48) (.tmp 50) 22 9 (.string ⟨#[]⟩) 16 rfl Try.underlying22 info9 rfl (by decide) (by omega) (.slice Ao27 x4_1.length co27) x4_1 (t103.extract (x5_1 : Int).toNat (x6_1 : Int).toNat) [.string (t103.extract (x5_1 : Int).toNat (x6_1 : Int).toNat)] (fun _ => True) (fun _ => False) rfl rfl ?aP (fun _ hk => hk.elim) ?aF ?aO ?aB ?aS ?aL ?_; (case aP => exact rfl); (case aB => exact (by repeat (first | (with_reducible first | exact HB.out | apply below_alloc | apply pw_below_drewN | apply below_drew1) | exact HB.out))); (case aF => exact (fun _ _ => trivial)); (case aO => exact (by (with_reducible repeat (first | apply Kd.R_alloc | apply Kd.R_drewN | apply Kd.R_drew)); exact HO_4.out)); (case aS => exact (below_size (by repeat (first | (with_reducible first | exact HB.out | apply below_alloc | apply pw_below_drewN | apply below_drew1) | exact HB.out)))); (case aL => have := LMc26.out; omega); intro v110 w28 ho hb hg hat; rw [← Ny109.out] at ho; have n0_ := Aside0.mk (hb); have n1_ := Aside0.mk (ho); clear HB; clear HO_4; have HB := n0_; have HO111 := n1_; clear n0_ n1_; clear ho hb hg hat))
                              go_roundg kj6
                              case measure => have := HK1.out; have := HJ6.out; omega
                              case rel => exact ⟨(y109), (wrap64 (x6_1 + 1)), (wrap64 (x6_1 + 1)), (by first | rfl | (simp; done) | (simp [*]; done)), (by first | rfl | (simp; done) | (simp [*]; done)), H', ⟨by have := HK1.out; have := HJ6.out; omega⟩, ⟨by (with_reducible repeat (first | apply Kd.R_alloc | apply Kd.R_drewN | apply Kd.R_drew)); exact HO111.out⟩, ⟨by repeat (first | (with_reducible first | exact HB.out | apply below_alloc | apply pw_below_drewN | apply below_drew1) | exact HB.out)⟩⟩
                            · rw [if_neg c26] at H
                              exact absurd H (by simp)
                        · rw [if_neg c22] at H
                          have c22b0 : ((t103.extract (x5_1 : Int).toNat (x6_1 : Int).toNat).toList == ([70, 65, 73, 76, 85, 82, 69] : List UInt8)) = false := beq_eq_false_iff_ne.mpr c22
                          have c22b1 : ((t103.extract (x5_1 : Int).toNat (x6_1 : Int).toNat).toList != ([70, 65, 73, 76, 85, 82, 69] : List UInt8)) = true := bne_iff_ne.mpr c22
                          by_cases c29 : (t103.extract (x5_1 : Int).toNat (x6_1 : Int).toNat).toList = ([68, 69, 76, 65, 89] : List UInt8)
                          · rw [if_pos c29] at H
                            have c29b0 : ((t103.extract (x5_1 : Int).toNat (x6_1 : Int).toNat).toList == ([68, 69, 76, 65, 89] : List UInt8)) = true := beq_iff_eq.mpr c29
                            have c29b1 : ((t103.extract (x5_1 : Int).toNat (x6_1 : Int).toNat).toList != ([68, 69, 76, 65, 89] : List UInt8)) = false := bne_eq_false_iff_eq.mpr c29
                            clear c29
                            replace H := Option.bind_eq_some_iff.mp H
                            obtain ⟨t112, A300, H⟩ := H
                            replace H : (if t112 = true then (some ((⟨#[]⟩ : ByteArray), false)) else (if x4_1.length < 8796093022208 then (spec_Notify.l0 kj6 t103 (x4_1 ++ [t103.extract (x5_1 : Int).toNat (x6_1 : Int).toNat]) (wrap64 (x6_1 + 1)) (wrap64 (x6_1 + 1))) else (none))) = some (r1, r2) := H
                            have A30 := Aside0.mk A300
                            clear A300
                            by_cases c31 : t112 = true
                            · subst c31
                              have H1 : (some ((⟨#[]⟩ : ByteArray), false)) = some (r1, r2) := by rw [if_pos rfl] at H; exact H
                              clear H
                              have H := H1
                              clear H1
                              simp only [Option.some.injEq, Prod.mk.injEq] at H
                              obtain ⟨rfl, rfl⟩ := H
                              obtain ⟨Ao32, co32, eo32⟩ := Kd.R_slice HO_4.out
                              subst eo32
                              go_wp2_with (first | (go_at_call 25; (with_reducible refine (spec_among.calls kj6 _ _ x4_1 (t103.extract (x5_1 : Int).toNat (x6_1 : Int).toNat) true _ ?side1 ?side2 A30.out).mono ?_); (case side1 => repeat (first | exact (Kd.R_reads' HO_4.out).2.2 | (with_reducible refine Kd.C_alloc ?_ _) | (with_reducible refine Kd.C_drewN ?_ _) | (with_reducible refine Kd.C_drew ?_))); (case side2 => exact (Kd.R_reads' HO_4.out).2.1); rintro e w' ⟨rfl, ⟨nd, rfl⟩⟩))
                              go_ret2
                              exact ⟨by first | rfl | (simp [errW_none, errW_some] <;> rfl) | (simp [*, errW_none, errW_some] <;> rfl), by repeat (first | (with_reducible first | exact HB.out | apply below_alloc | apply pw_below_drewN | apply below_drew1) | exact HB.out)⟩
                            · replace c31 := Bool.eq_false_iff.mpr c31
                              subst c31
                              have H1 : (if x4_1.length < 8796093022208 then (spec_Notify.l0 kj6 t103 (x4_1 ++ [t103.extract (x5_1 : Int).toNat (x6_1 : Int).toNat]) (wrap64 (x6_1 + 1)) (wrap64 (x6_1 + 1))) else (none)) = some (r1, r2) := by rw [if_neg (show ¬ (false = true) by decide)] at H; exact H
                              clear H
                              have H := H1
                              clear H1
                              by_cases c33 : x4_1.length < 8796093022208
                              · rw [if_pos c33] at H
                                have LMc33 := Aside0.mk c33
                                clear c33
                                obtain ⟨y113, hy113⟩ : ∃ y_ : List ByteArray, y_ = (x4_1 ++ [t103.extract (x5_1 : Int).toNat (x6_1 : Int).toNat]) := ⟨_, rfl⟩
                                replace H : (spec_Notify.l0 kj6 t103 y113 (wrap64 (x6_1 + 1)) (wrap64 (x6_1 + 1))) = some (r1, r2) := by first | (rw [hy113]; with_reducible exact H) | (have H2_ := (Option.bind_some _ _).symm.trans H; rw [hy113]; with_reducible exact H2_) | (have H2_ := (Option.bind_some _ _).symm.trans H; with_reducible exact H2_) | with_reducible exact H | (rw [hy113]; exact H) | exact H
                                have Ny113 := Aside0.mk hy113
                                clear hy113
                                have H' := Aside0.mk H
                                clear H
                                obtain ⟨Ao34, co34, eo34⟩ := Kd.R_slice HO_4.out
                                subst eo34
                                go_wp2_with (first | (go_at_call 25; (with_reducible refine (spec_among.calls kj6 _ _ x4_1 (t103.extract (x5_1 : Int).toNat (x6_1 : Int).toNat) false _ ?side1 ?side2 A30.out).mono ?_); (case side1 => repeat (first | exact (Kd.R_reads' HO_4.out).2.2 | (with_reducible refine Kd.C_alloc ?_ _) | (with_reducible refine Kd.C_drewN ?_ _) | (with_reducible refine Kd.C_drew ?_))); (case side2 => exact (Kd.R_reads' HO_4.out).2.1); rintro e w' ⟨rfl, ⟨nd, rfl⟩⟩) | ((with_reducible refine gate_builtin (b := .append) (xs := #[.tmp 48, .tmp 50]) rfl ?_); at_builtin; refine Kd.R_append Kd.string (w0 := w) w.heap.size rfl (.tmp 48) (.tmp 50) 22 9 (.string ⟨#[]⟩) 16 rfl Try.underlying22 info9 rfl (by decide) (by omega) (.slice Ao34 x4_1.length co34) x4_1 (t103.extract (x5_1 : Int).toNat (x6_1 : Int).toNat) [.string (t103.extract (x5_1 : Int).toNat (x6_1 : Int).toNat)] (fun _ => True) (fun _ => False) rfl rfl ?aP (fun _ hk => hk.elim) ?aF ?aO ?aB ?aS ?aL ?_; (case aP => exact rfl); (case aB => exact (by repeat (first | (with_reducible first | exact HB.out | apply below_alloc | apply pw_below_drewN | apply below_drew1) | exact HB.out))); (case aF => exact (fun _ _ => trivial)); (case aO => exact (by (with_reducible repeat (first | apply Kd.R_alloc | apply Kd.R_drewN | apply Kd.R_drew)); exact HO_4.out)); (case aS => exact (below_size (by repeat (first | (with_reducible first | exact HB.out | apply below_alloc | apply pw_below_drewN | apply below_drew1) | exact HB.out)))); (case aL => have := LMc33.out; omega); intro v114 w35 ho hb hg hat; rw [← Ny113.out] at ho; have n0_ := Aside0.mk (hb); have n1_ := Aside0.mk (ho); clear HB; clear HO_4; have HB := n0_; have HO115 := n1_; clear n0_ n1_; clear ho hb hg hat))
                                go_roundg kj6
                                case measure => have := HK1.out; have := HJ6.out; omega
                                case rel => exact ⟨(y113), (wrap64 (x6_1 + 1)), (wrap64 (x6_1 + 1)), (by first | rfl | (simp; done) | (simp [*]; done)), (by first | rfl | (simp; done) | (simp [*]; done)), H', ⟨by have := HK1.out; have := HJ6.out; omega⟩, ⟨by (with_reducible repeat (first | apply Kd.R_alloc | apply Kd.R_drewN | apply Kd.R_drew)); exact HO115.out⟩, ⟨by repeat (first | (with_reducible first | exact HB.out | apply below_alloc | apply pw_below_drewN | apply below_drew1) | exact HB.out)⟩⟩
                              · rw [if_neg c33] at H
                                exact absurd H (by simp)
                          · rw [if_neg c29] at H
                            have c29b0 : ((t103.extract (x5_1 : Int).toNat (x6_1 : Int).toNat).toList == ([68, 69, 76, 65, 89] : List UInt8)) = false := beq_eq_false_iff_ne.mpr c29
                            have c29b1 : ((t103.extract (x5_1 : Int).toNat (x6_1 : Int).toNat).toList != ([68, 69, 76, 65, 89] : List UInt8)) = true := bne_iff_ne.mpr c29
                            simp only [Option.some.injEq, Prod.mk.injEq] at H
                            obtain ⟨rfl, rfl⟩ := H
                            go_wp2
                            go_ret2
                            exact ⟨by first | rfl | (simp [errW_none, errW_some] <;> rfl) | (simp [*, errW_none, errW_some] <;> rfl), by repeat (first | (with_reducible first | exact HB.out | apply below_alloc | apply pw_below_drewN | apply below_drew1) | exact HB.out)⟩
                    · rw [if_neg c14] at H
                      exact absurd H (by simp)
                  · rw [if_neg c13] at H
                    exact absurd H (by simp)
                · rw [if_neg c12] at H
                  exact absurd H (by simp)
        · rw [if_neg c6] at H
          have c6b0 : decide (x6_1 ≤ (t103.size : Int)) = false := decide_eq_false c6
          clear c6
          simp only [Option.some.injEq, Prod.mk.injEq] at H
          obtain ⟨rfl, rfl⟩ := H
          go_wp2
          go_ret2
          exact ⟨by first | rfl | (simp [errW_none, errW_some] <;> rfl) | (simp [*, errW_none, errW_some] <;> rfl), by repeat (first | (with_reducible first | exact HB.out | apply below_alloc | apply pw_below_drewN | apply below_drew1) | exact HB.out)⟩

end Go.Proofs.Ytnokeaiemiiicaa.PFnNotify
