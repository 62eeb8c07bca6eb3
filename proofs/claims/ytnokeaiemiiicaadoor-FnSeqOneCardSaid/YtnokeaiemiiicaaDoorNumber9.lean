/- spec.Number9 by hand: a number's decimal numeral. -/
import Derived.Test.YtnokeaiemiiicaaDoorProg
import Derived.Test.YtnokeaiemiiicaaDoorPlain
import Derived.WalkKit
import Derived.WalkSpells
import Derived.WalkSmall
import Derived.Lib.ItoaNum
import Derived.Lib.ConvBytes
import Derived.Lib.Hide
import Derived.Below
import Derived.Laws.BytesArg
namespace Go.Proofs.YtnokeaiemiiicaaDoor.Own
open Go.RowKit Go.Lib
set_option linter.unusedVariables false
set_option linter.unusedSimpArgs false

theorem str_cons (c : Nat) (l : List UInt8) : Value.string ((⟨#[UInt8.ofNat c]⟩ : ByteArray) ++ (⟨l.toArray⟩ : ByteArray)) = Value.string ⟨(UInt8.ofNat c :: l).toArray⟩ := by
  congr 1

set_option maxRecDepth 100000 in
set_option maxHeartbeats 2000000 in
theorem number9_any (n : Nat) (hn : n < 4294967296) (w : World) :
    Calls Tryd.prog 37 #[.int .i64 n] w fun e w' => e = .returned (.string ⟨(Lib.decDigits n).toArray⟩) ∧ Below w.heap.size w w' := by
  have hlen : (Lib.decDigits n).length ≤ 20 := by
    rw [Lib.decDigits_length]
    by_cases h1 : 1 ≤ n
    · have := Lib.numDigits_eq n h1 (by omega); split at this <;> omega
    · rw [Lib.nDigits_small (by omega)]; omega
  go_enter Tryd.func37, Tryd.ntmps37
  go_wp2
  go_loopw [0, 3] (fun x s wr => ∃ (m : Nat) (l : List UInt8), m ≤ n ∧ x = .int .i64 m ∧ s = .string ⟨l.toArray⟩ ∧ Lib.decDigits m ++ l = Lib.decDigits n ∧ Below w.heap.size w wr) (fun x _ _ => (intOf x).toNat)
  case atStart => exact ⟨n, [], Nat.le_refl _, rfl, rfl, by simp, Below.refl _ _⟩
  case round =>
    obtain ⟨m, l, hm, rfl, rfl, hl, hbel⟩ := hrel
    have hbel' := Lib.hid hbel
    have hl' := Lib.hid hl
    have hl20 : l.length ≤ 20 := by
      have e := congrArg List.length hl
      rw [List.length_append] at e
      omega
    have hbs := hbel.size
    clear hbel hl
    by_cases h9 : 9 < m
    · obtain ⟨c, hc⟩ : ∃ c : Nat, c = 48 + m % 10 := ⟨_, rfl⟩
      have hcv : (convert 54 9 (.slice (some ⟨wr.heap.size, 0, none⟩) 1 1)).run Tryd.prog (wr.alloc (.cells #[.int .u8 (48 + (m : Int) % 10)] 5)) = .ok (.string ⟨[UInt8.ofNat c].toArray⟩) (wr.alloc (.cells #[.int .u8 (48 + (m : Int) % 10)] 5)) := by
        have := run_convert_bytes_back (P := Tryd.prog) (wr.alloc (.cells #[.int .u8 (48 + (m : Int) % 10)] 5)) 54 9 5 ⟨wr.heap.size, 0, none⟩ 1 [UInt8.ofNat c] Tryd.underlying54 Tryd.underlying5 Tryd.underlying9 (fun j hj => by
          obtain rfl : j = 0 := by simp at hj; exact hj
          rw [Addr.add, if_pos rfl]
          simp [go_sem]
          omega)
        exact this
      have hdd := Lib.hid (show Lib.decDigits (m / 10) ++ (UInt8.ofNat c :: l) = Lib.decDigits n by
        rw [← hl'.out, Lib.decDigits.eq_1 m, dif_neg (by omega), hc]; simp)
      clear hc
      go_wp2_with fail
      exact ⟨⟨m / 10, UInt8.ofNat c :: l, by omega, by go_num, str_cons c l, hdd.out, hbel'.out.alloc hbs _⟩, by simp [intOf]; omega⟩
    · obtain ⟨c, hc⟩ : ∃ c : Nat, c = 48 + m := ⟨_, rfl⟩
      have hcv : (convert 54 9 (.slice (some ⟨wr.heap.size, 0, none⟩) 1 1)).run Tryd.prog (wr.alloc (.cells #[.int .u8 (48 + (m : Int))] 5)) = .ok (.string ⟨[UInt8.ofNat c].toArray⟩) (wr.alloc (.cells #[.int .u8 (48 + (m : Int))] 5)) := by
        have := run_convert_bytes_back (P := Tryd.prog) (wr.alloc (.cells #[.int .u8 (48 + (m : Int))] 5)) 54 9 5 ⟨wr.heap.size, 0, none⟩ 1 [UInt8.ofNat c] Tryd.underlying54 Tryd.underlying5 Tryd.underlying9 (fun j hj => by
          obtain rfl : j = 0 := by simp at hj; exact hj
          rw [Addr.add, if_pos rfl]
          simp [go_sem]
          omega)
        exact this
      have hdd := Lib.hid (show (UInt8.ofNat c :: l) = Lib.decDigits n by
        rw [← hl'.out, Lib.decDigits.eq_1 m, dif_pos (by omega), hc]; rfl)
      clear hc
      go_wp2_with fail
      go_ret
      refine ⟨?_, hbel'.out.alloc hbs _⟩
      rw [← hdd.out]
      exact congrArg Ending.returned (str_cons c l)
end Go.Proofs.YtnokeaiemiiicaaDoor.Own
