/- internal/strconv.ParseUint at two great hexadecimal digits, base 16, eight bits: their number. -/
import Derived.Test.YtoeggcckcnlllaaDoorProg
import Derived.Test.YtoeggcckcnlllaaDoorBytes
import Derived.WalkKit
import Derived.WalkSpells
import Derived.WalkLawsBesides
import Derived.Lib.Hide
import Derived.BigCall
import Derived.BigGuard
import Derived.Outline
import Derived.KernelRfl
namespace Go.Proofs.YtoeggcckcnlllaaDoor.Own
open Go.RowKit Go.Lib
set_option linter.unusedVariables false
set_option linter.unusedSimpArgs false

def hexG (c : UInt8) : Prop := (48 ≤ c.toNat ∧ c.toNat ≤ 57) ∨ (65 ≤ c.toNat ∧ c.toNat ≤ 70)
def hv (c : UInt8) : Nat := if c.toNat ≤ 57 then c.toNat - 48 else c.toNat - 55
set_option maxHeartbeats 1000000 in
theorem lower_big (c : UInt8) (h : 65 ≤ c.toNat ∧ c.toNat ≤ 70) (w : World) :
    Calls Tryd.prog 54 #[.int .u8 c.toNat] w fun e w' => e = .returned (.int .u8 ((c.toNat : Int) + 32)) ∧ w = w' := by
  obtain ⟨n, hn⟩ : ∃ n, n = c.toNat := ⟨_, rfl⟩
  rw [← hn] at h ⊢
  clear hn
  rcases (show n = 65 ∨ n = 66 ∨ n = 67 ∨ n = 68 ∨ n = 69 ∨ n = 70 by omega) with rfl | rfl | rfl | rfl | rfl | rfl
  all_goals
    go_enter Tryd.func54, Tryd.ntmps54
    go_wp2
    go_ret
    exact ⟨rfl, rfl⟩
def acc (x y : UInt8) (k : Nat) : Nat := if k = 0 then 0 else if k = 1 then hv x else hv x * 16 + hv y
theorem hv_lt {c : UInt8} (h : hexG c) : hv c < 16 := by unfold hv; unfold hexG at h; split <;> omega
theorem acc_step (x y : UInt8) (hx : hexG x) (hy : hexG y) (k : Nat) (hk : k < 2) : ∃ c, [x, y][k]? = some c ∧ hexG c ∧ acc x y k ≤ 15 ∧ acc x y (k + 1) = acc x y k * 16 + hv c := by
  have h1 := hv_lt hx
  rcases (show k = 0 ∨ k = 1 by omega) with rfl | rfl
  · exact ⟨x, rfl, hx, by simp [acc], by simp [acc]⟩
  · exact ⟨y, rfl, hy, by simp [acc]; omega, by simp [acc]⟩
set_option maxRecDepth 100000 in
set_option maxHeartbeats 2000000 in
theorem pu16_any (x y : UInt8) (hx : hexG x) (hy : hexG y) (w : World) :
    Calls Tryd.prog 38 #[.string ⟨#[x, y]⟩, .int .i64 16, .int .i64 8] w fun e w' => e = .returned (.tuple #[.int .u64 ((hv x * 16 + hv y : Nat) : Int), .nilIface]) ∧ Below w.heap.size w w' := by
  have hconv := fun W => Lib.run_convert_string_bytes (P := Tryd.prog) W 9 32 5 ⟨#[x, y]⟩ Tryd.underlying9 Tryd.underlying32 Tryd.underlying5
  have hrow := Lib.hid (Row8.of_conv w 5 ⟨#[x, y]⟩)
  have hb := Lib.hid (below_conv w 5 ⟨#[x, y]⟩)
  have hstep := Lib.hid (acc_step x y hx hy)
  have hxy : acc x y 2 = hv x * 16 + hv y := rfl
  have h0 : acc x y 0 = 0 := rfl
  rw [← hxy]
  have h0' := Lib.hid h0
  have hlow := Lib.hid lower_big
  obtain ⟨A, hA⟩ : ∃ A, A = acc x y := ⟨_, rfl⟩
  rw [← hA] at hstep h0' ⊢
  clear hA hx hy hxy h0
  go_enter Tryd.func38, Tryd.ntmps38
  go_wp2_with fail
  obtain ⟨W1, hW1⟩ : ∃ W1, W1 = Lib.bytesWorld w 5 ⟨#[x, y]⟩ := ⟨_, rfl⟩
  rw [← hW1] at hrow hb ⊢
  clear hW1 hconv
  obtain ⟨C, hC⟩ : ∃ C : Int, C = 1152921504606846976 := ⟨_, rfl⟩
  rw [← hC]
  have hCb : 1000 < C := by rw [hC]; decide
  clear hC
  go_loop [12, 13, 101] (fun v12 v13 v101 => ∃ k : Nat, k ≤ 2 ∧ v101 = .int .i64 k ∧ v12 = .bool false ∧ v13 = .int .u64 ((A k : Nat) : Int)) (fun _ _ v101 => 2 - (intOf v101).toNat)
  case atStart => exact ⟨0, by omega, rfl, rfl, by rw [h0'.out]; rfl⟩
  case round =>
    obtain ⟨k, hk, rfl, rfl, rfl⟩ := hrel
    by_cases hlt : k < 2
    · obtain ⟨c, hc, hh, hp, hs⟩ := hstep.out k hlt
      have hcell := hrow.out.cell (j := k) hc
      have hs' := Lib.hid hs
      obtain ⟨p, hp'⟩ : ∃ p, p = A k := ⟨_, rfl⟩
      rw [← hp'] at hp hs' ⊢
      clear hc hs hp'
      rcases hh with ⟨c1, c2⟩ | ⟨c1, c2⟩
      · have c3 : (48 : Int) ≤ (c.toNat : Int) := by omega
        have c4 : (c.toNat : Int) ≤ 57 := by omega
        have n95 : ((c.toNat : Int) == 95) = false := by rw [beq_eq_false_iff_ne]; omega
        have hvv : Hid (hv c = c.toNat - 48) := Lib.hid (by unfold hv; rw [if_pos c2])
        clear c1 c2
        have pC : (p : Int) < C := by omega
        go_wp2
        go_round
        case rel => exact ⟨k + 1, by omega, by go_num, rfl, by rw [hs'.out, hvv.out]; go_num⟩
        case measure => simp [intOf]; omega
      · have c3 : (65 : Int) ≤ (c.toNat : Int) := by omega
        have c4 : (c.toNat : Int) ≤ 70 := by omega
        have n95 : ((c.toNat : Int) == 95) = false := by rw [beq_eq_false_iff_ne]; omega
        have hl := Lib.hid (fun W => hlow.out c ⟨c1, c2⟩ W)
        have hvv : Hid (hv c = c.toNat - 55) := Lib.hid (by unfold hv; rw [if_neg (by omega)])
        clear c1 c2
        have pC : (p : Int) < C := by omega
        go_wp2_with (go_at_call 54; refine (hl.out _).mono ?_; rintro e w' ⟨rfl, rfl⟩)
        go_round
        case rel => exact ⟨k + 1, by omega, by go_num, rfl, by rw [hs'.out, hvv.out]; go_num⟩
        case measure => simp [intOf]; omega
    · obtain rfl : k = 2 := by omega
      go_wp2
      go_ret2
      exact ⟨rfl, hb.out⟩
end Go.Proofs.YtoeggcckcnlllaaDoor.Own
