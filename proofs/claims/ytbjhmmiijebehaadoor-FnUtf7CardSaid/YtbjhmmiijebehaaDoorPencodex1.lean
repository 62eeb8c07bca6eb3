-- Printed for this claim by a copy of the kit's print that takes hand-proved callees (wip/patch_print.py).
import Derived.Test.YtbjhmmiijebehaaDoorPencodex0
namespace Go.Proofs.YtbjhmmiijebehaaDoor.Pencode
open Go.RowKit Go.Proofs.YtbjhmmiijebehaaDoorW.PrintWords Go.Proofs.YtbjhmmiijebehaaDoorW.PrintLast Go.Proofs.YtbjhmmiijebehaaDoorW.PrintMore
attribute [local go_sem] max2_int min2_int max_two min_two max_three min_three max_four min_four   -- for this text's walks alone
set_option linter.unusedVariables false
set_option linter.unusedSimpArgs false

-- NOT PRINTED: function 30 (base64_NewEncoding)

-- NOT PRINTED: function 20 (utf7_b64Enc)

-- NOT PRINTED: function 38 (utf8_decodeRuneSlow)

-- NOT PRINTED: function 26 (utf8_DecodeRune)

/-! ### utf16_EncodeRune: function 27 -/
def utf16_EncodeRune.f (a0 : Int) : Option (Int × Int) := if a0 < 65536 then (some (65533, 65533)) else (if a0 > 1114111 then (some (65533, 65533)) else (some (wrap32 (55296 + (Go.bits .and .i32 ((wrap32 (a0 - 65536)) / 1024) 1023)), wrap32 (56320 + (Go.bits .and .i32 (wrap32 (a0 - 65536)) 1023)))))
set_option maxHeartbeats 8000000 in
set_option maxRecDepth 100000 in
theorem utf16_EncodeRune.calls (a0 : Int) (r1 : Int) (r2 : Int) (w : World) (h : utf16_EncodeRune.f a0 = some (r1, r2)) :
    Calls Tryd.prog 27 #[.int .i32 a0] w fun e w' => e = .returned (.tuple #[.int .i32 r1, .int .i32 r2]) ∧ Drawn0 w w' := by
  have H : (if a0 < 65536 then (some (65533, 65533)) else (if a0 > 1114111 then (some (65533, 65533)) else (some (wrap32 (55296 + (Go.bits .and .i32 ((wrap32 (a0 - 65536)) / 1024) 1023)), wrap32 (56320 + (Go.bits .and .i32 (wrap32 (a0 - 65536)) 1023)))))) = some (r1, r2) := h
  clear h
  by_cases c2 : a0 < 65536
  · rw [if_pos c2] at H
    have c2b0 : decide (a0 < 65536) = true := decide_eq_true c2
    clear c2
    simp only [Option.some.injEq, Prod.mk.injEq] at H
    obtain ⟨rfl, rfl⟩ := H
    go_enter Tryd.func27, Tryd.ntmps27
    go_wp2
    go_ret2
    exact ⟨by first | rfl | (simp; done) | (simp [*]; done), by repeat (first | exact Drawn0.refl _ | apply Drawn0.step)⟩
  · rw [if_neg c2] at H
    have c2b0 : decide (a0 < 65536) = false := decide_eq_false c2
    clear c2
    by_cases c3 : a0 > 1114111
    · rw [if_pos c3] at H
      have c3b0 : decide (1114111 < a0) = true := decide_eq_true c3
      clear c3
      simp only [Option.some.injEq, Prod.mk.injEq] at H
      obtain ⟨rfl, rfl⟩ := H
      go_enter Tryd.func27, Tryd.ntmps27
      go_wp2
      go_ret2
      exact ⟨by first | rfl | (simp; done) | (simp [*]; done), by repeat (first | exact Drawn0.refl _ | apply Drawn0.step)⟩
    · rw [if_neg c3] at H
      have c3b0 : decide (1114111 < a0) = false := decide_eq_false c3
      clear c3
      simp only [Option.some.injEq, Prod.mk.injEq] at H
      obtain ⟨rfl, rfl⟩ := H
      go_enter Tryd.func27, Tryd.ntmps27
      go_wp2
      go_ret2
      exact ⟨by first | rfl | (simp; done) | (simp [*]; done), by repeat (first | exact Drawn0.refl _ | apply Drawn0.step)⟩

-- NOT PRINTED: function 28 (base64_Encoding_EncodedLen)

-- NOT PRINTED: function 29 (base64_Encoding_Encode)

-- NOT PRINTED: function 19 (utf7_encode)

end Go.Proofs.YtbjhmmiijebehaaDoor.Pencode
