/- laws.flags9 by hand: where it says yes, the flags are different and short. -/
import Derived.Test.YtnokeaiemiiicaaPureFnUpdatedFlags
import Derived.WalkSpells
import Derived.WalkSmall
import Derived.Deep.QuietTactic
import Derived.BigQuiet
namespace Go.Proofs.Ytnokeaiemiiicaa.Pure
open Go.RowKit Go.Proofs.Ytnokeaiemiiicaa.Own Go.Proofs.YtnokeaiemiiicaaW.PrintWords Go.Proofs.YtnokeaiemiiicaaW.PrintLast
set_option linter.unusedVariables false
set_option linter.unusedSimpArgs false

def FlagAt (l : List ByteArray) (j : Nat) : Prop := (l.getD j ByteArray.empty).size ≤ 40 ∧ hasU (l.take j) (l.getD j ByteArray.empty) = false
def FlagsOk (l : List ByteArray) : Prop := l.length ≤ 12 ∧ ∀ j, j < l.length → FlagAt l j
def FlagsPost (l : List ByteArray) (w : World) (e : Ending) (w' : World) : Prop := ∃ b, e = .returned (.bool b) ∧ (b = true → FlagsOk l) ∧ Drawn0 w w'
theorem Drawn0.trans {a b c : World} (h : Drawn0 a b) (k : Drawn0 b c) : Drawn0 a c := by
  obtain ⟨⟨n, rfl⟩⟩ := k
  exact h.step n

set_option maxHeartbeats 2000000 in
theorem flags_any (A : Option Addr) (l : List ByteArray) (c : Nat) (w : World) (h : Cells w A l) (hc : l.length ≤ c) (hmax : l.length ≤ 1000000000000000000) :
    Calls Try.prog 18 #[.slice A l.length c] w (FlagsPost l w) := by
  by_cases h12 : (l.length : Int) > 12
  · go_enter Try.func18, Try.ntmps18
    go_wp2
    go_ret
    exact ⟨false, rfl, (fun e => absurd e (by decide)), Drawn0.refl _⟩
  · have hlen : (l.length : Int) ≤ 12 := by omega
    have hcells := Lib.hid h
    clear h
    go_enter Try.func18, Try.ntmps18
    go_wp2
    go_loopw [9] (fun i wr => ∃ k : Nat, k ≤ l.length ∧ i = .int .i64 k ∧ Drawn0 w wr ∧ ∀ j, j < k → FlagAt l j) (fun i _ => l.length - (intOf i).toNat)
    case atStart => exact ⟨0, Nat.zero_le _, rfl, Drawn0.refl _, fun j hj => by omega⟩
    case round =>
      obtain ⟨k, hk, rfl, hd, hall⟩ := hrel
      have hd' := Lib.hid hd
      have hall' := Lib.hid hall
      by_cases hlt : k < l.length
      · obtain ⟨m, hm⟩ := hd.out
        clear hd hall
        obtain ⟨ad, rfl, hcc⟩ := hcells.out (by omega)
        obtain ⟨x, hx⟩ : ∃ x, x = l.getD k ByteArray.empty := ⟨_, rfl⟩
        have hcx : wr.cell? (ad.add k) = some (.string x) := by rw [hx, hm]; exact hcc k hlt
        have hcr : Cells wr (some ad) (l.take k) := by rw [hm]; exact Cells.take hcells.out k hk
        have hcr' := Lib.hid hcr
        clear hcr hm
        have hx' := Lib.hid hx
        have hi0 : (0 : Int) ≤ (k : Int) := by omega
        have hi1 : (k : Int) < (l.length : Int) := by omega
        clear hx hcc
        by_cases h40 : (x.size : Int) > 40
        · have hg1 : decide ((x.size : Int) > 40) = true := decide_eq_true h40
          go_wp2
          go_quiet (fail)
          go_wp2
          go_ret
          exact ⟨false, rfl, (fun e => absurd e (by decide)), hd'.out.step _⟩
        · have hg1 : decide ((x.size : Int) > 40) = false := decide_eq_false h40
          obtain ⟨b, hsh⟩ := sh_any x (by omega)
          have hsh' := Lib.hid hsh
          clear hsh
          have hsq := Lib.hid (fun n => Calls.quiet_of ((hsh'.out (wr.drewN n)).mono (fun e w' h => ⟨h.1, h.2.out⟩)))
          cases b with
          | false =>
            go_wp2
            go_quiet ((go_at_call 14; exact hsq.out _))
            go_wp2
            go_ret
            exact ⟨false, rfl, (fun e => absurd e (by decide)), hd'.out.step _⟩
          | true =>
            have hhq := Lib.hid (fun n => Calls.quiet_of ((has_any (some ad) (l.take k) k c x (wr.drewN n) (by rw [List.length_take]; omega) hcr'.out (by rw [List.length_take]; omega) (by omega)).mono (fun e w' h => ⟨h.1, h.2.out⟩)))
            obtain ⟨b2, hb2⟩ : ∃ b2, hasU (l.take k) x = b2 := ⟨_, rfl⟩
            rw [hb2] at hhq
            have hb2' := Lib.hid hb2
            clear hb2
            cases b2 with
            | true =>
              go_wp2
              go_quiet (first | (go_at_call 14; exact hsq.out _) | (go_at_call 20; exact hhq.out _))
              go_wp2
              go_ret
              exact ⟨false, rfl, (fun e => absurd e (by decide)), hd'.out.step _⟩
            | false =>
              go_wp2
              go_quiet (first | (go_at_call 14; exact hsq.out _) | (go_at_call 20; exact hhq.out _))
              go_wp2
              exact ⟨⟨k + 1, by omega, by go_num, hd'.out.step _, fun j hj => by
                rcases Nat.lt_or_ge j k with h | h
                · exact hall'.out j h
                · obtain rfl : j = k := by omega
                  exact ⟨by rw [← hx'.out]; omega, by rw [← hx'.out]; exact hb2'.out⟩⟩, by simp [intOf]; omega⟩
      · obtain rfl : k = l.length := by omega
        go_wp2
        go_ret
        exact ⟨true, rfl, fun _ => ⟨by omega, hall⟩, hd⟩
end Go.Proofs.Ytnokeaiemiiicaa.Pure
