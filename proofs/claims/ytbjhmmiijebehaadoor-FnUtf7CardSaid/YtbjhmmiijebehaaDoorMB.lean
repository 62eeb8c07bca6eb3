/- byteorder.BEPutUint32 and 64 into a row of bytes, at an offset. base64's assemble64 and assemble32 at letters of the map, and what BEPutUint64 and BEPutUint32 make of a row. No law of the program is proved here. base64's Decode: what one step of its loops makes of the bytes that stand behind so many letters. No law of the program is proved here. base64's Decode at the alphabet of modified UTF-7: the bytes of whole quanta, or an error. -/
import Derived.Test.YtbjhmmiijebehaaDoorMA
import Derived.Test.YtbjhmmiijebehaaDoorPdecodex1
import Derived.WalkSpells
import Derived.WalkLawsBesides
import Derived.BigCall
import Derived.KernelRfl
namespace Go.Proofs.YtbjhmmiijebehaaDoor.Own
open Go.RowKit Go.Lib
set_option linter.unusedVariables false
set_option linter.unusedSimpArgs false
set_option maxHeartbeats 3200000 in
set_option maxRecDepth 100000 in
theorem bput32 (B o len cap x : Nat) (l : List UInt8) (w : World) (h : Row0 5 w B l) (ho : o + 4 ≤ l.length) (hlen : 4 ≤ len) :
    Calls Tryd.prog 36 #[.slice (some ⟨B, o, none⟩) len cap, .int .u32 x] w fun e w' => e = .returned (.tuple #[]) ∧
      w' = ((((w.setCell ⟨B, o, none⟩ (.int .u8 ((x : Int) / 16777216 % 256))).setCell ⟨B, o + 1, none⟩ (.int .u8 ((x : Int) / 65536 % 256))).setCell ⟨B, o + 2, none⟩ (.int .u8 ((x : Int) / 256 % 256))).setCell ⟨B, o + 3, none⟩ (.int .u8 ((x : Int) % 256))) := by
  have h' := Lib.hid h
  obtain ⟨c0, hc0⟩ : ∃ c, l[o]? = some c := ⟨_, List.getElem?_eq_getElem (by omega)⟩
  have q0 := h.cell hc0
  have f0 := h.free (o)
  have g0 : (0 : Int) < (len : Int) := by omega
  obtain ⟨c1, hc1⟩ : ∃ c, l[o + 1]? = some c := ⟨_, List.getElem?_eq_getElem (by omega)⟩
  have q1 := h.cell hc1
  have f1 := h.free (o + 1)
  have g1 : (1 : Int) < (len : Int) := by omega
  obtain ⟨c2, hc2⟩ : ∃ c, l[o + 2]? = some c := ⟨_, List.getElem?_eq_getElem (by omega)⟩
  have q2 := h.cell hc2
  have f2 := h.free (o + 2)
  have g2 : (2 : Int) < (len : Int) := by omega
  obtain ⟨c3, hc3⟩ : ∃ c, l[o + 3]? = some c := ⟨_, List.getElem?_eq_getElem (by omega)⟩
  have q3 := h.cell hc3
  have f3 := h.free (o + 3)
  have g3 : (3 : Int) < (len : Int) := by omega
  clear h hc0 hc1 hc2 hc3
  go_enter Tryd.func36, Tryd.ntmps36
  go_wp2_with fail
  go_end0
  exact ⟨rfl, rfl⟩
set_option maxHeartbeats 3200000 in
set_option maxRecDepth 100000 in
theorem bput64 (B o len cap x : Nat) (l : List UInt8) (w : World) (h : Row0 5 w B l) (ho : o + 8 ≤ l.length) (hlen : 8 ≤ len) :
    Calls Tryd.prog 33 #[.slice (some ⟨B, o, none⟩) len cap, .int .u64 x] w fun e w' => e = .returned (.tuple #[]) ∧
      w' = ((((((((w.setCell ⟨B, o, none⟩ (.int .u8 ((x : Int) / 72057594037927936 % 256))).setCell ⟨B, o + 1, none⟩ (.int .u8 ((x : Int) / 281474976710656 % 256))).setCell ⟨B, o + 2, none⟩ (.int .u8 ((x : Int) / 1099511627776 % 256))).setCell ⟨B, o + 3, none⟩ (.int .u8 ((x : Int) / 4294967296 % 256))).setCell ⟨B, o + 4, none⟩ (.int .u8 ((x : Int) / 16777216 % 256))).setCell ⟨B, o + 5, none⟩ (.int .u8 ((x : Int) / 65536 % 256))).setCell ⟨B, o + 6, none⟩ (.int .u8 ((x : Int) / 256 % 256))).setCell ⟨B, o + 7, none⟩ (.int .u8 ((x : Int) % 256))) := by
  have h' := Lib.hid h
  obtain ⟨c0, hc0⟩ : ∃ c, l[o]? = some c := ⟨_, List.getElem?_eq_getElem (by omega)⟩
  have q0 := h.cell hc0
  have f0 := h.free (o)
  have g0 : (0 : Int) < (len : Int) := by omega
  obtain ⟨c1, hc1⟩ : ∃ c, l[o + 1]? = some c := ⟨_, List.getElem?_eq_getElem (by omega)⟩
  have q1 := h.cell hc1
  have f1 := h.free (o + 1)
  have g1 : (1 : Int) < (len : Int) := by omega
  obtain ⟨c2, hc2⟩ : ∃ c, l[o + 2]? = some c := ⟨_, List.getElem?_eq_getElem (by omega)⟩
  have q2 := h.cell hc2
  have f2 := h.free (o + 2)
  have g2 : (2 : Int) < (len : Int) := by omega
  obtain ⟨c3, hc3⟩ : ∃ c, l[o + 3]? = some c := ⟨_, List.getElem?_eq_getElem (by omega)⟩
  have q3 := h.cell hc3
  have f3 := h.free (o + 3)
  have g3 : (3 : Int) < (len : Int) := by omega
  obtain ⟨c4, hc4⟩ : ∃ c, l[o + 4]? = some c := ⟨_, List.getElem?_eq_getElem (by omega)⟩
  have q4 := h.cell hc4
  have f4 := h.free (o + 4)
  have g4 : (4 : Int) < (len : Int) := by omega
  obtain ⟨c5, hc5⟩ : ∃ c, l[o + 5]? = some c := ⟨_, List.getElem?_eq_getElem (by omega)⟩
  have q5 := h.cell hc5
  have f5 := h.free (o + 5)
  have g5 : (5 : Int) < (len : Int) := by omega
  obtain ⟨c6, hc6⟩ : ∃ c, l[o + 6]? = some c := ⟨_, List.getElem?_eq_getElem (by omega)⟩
  have q6 := h.cell hc6
  have f6 := h.free (o + 6)
  have g6 : (6 : Int) < (len : Int) := by omega
  obtain ⟨c7, hc7⟩ : ∃ c, l[o + 7]? = some c := ⟨_, List.getElem?_eq_getElem (by omega)⟩
  have q7 := h.cell hc7
  have f7 := h.free (o + 7)
  have g7 : (7 : Int) < (len : Int) := by omega
  clear h hc0 hc1 hc2 hc3 hc4 hc5 hc6 hc7
  go_enter Tryd.func33, Tryd.ntmps33
  go_wp2_with fail
  go_end0
  exact ⟨rfl, rfl⟩
end Go.Proofs.YtbjhmmiijebehaaDoor.Own

namespace Go.Proofs.YtbjhmmiijebehaaDoor.Own
open Go.RowKit Go.Lib
set_option linter.unusedVariables false
set_option linter.unusedSimpArgs false

theorem or_chain4 (a b c d : Nat) (ha : a < 256) (hb : b < 256) (hc : c < 256) (hd : d < 256) :
    Go.bits .or .u8 (Go.bits .or .u8 (Go.bits .or .u8 (a : Int) (b : Int)) (c : Int)) (d : Int) = ((((a ||| b) ||| c) ||| d : Nat) : Int) := by
  have h1 := or_le a b 8 ha hb
  have h2 := or_le _ c 8 h1 hc
  rw [or8_nat a b ha hb, or8_nat _ c h1 hc, or8_nat _ d h2 hd]
theorem chain4_lt (a b c d n : Nat) (ha : a < 2 ^ n) (hb : b < 2 ^ n) (hc : c < 2 ^ n) (hd : d < 2 ^ n) : (((a ||| b) ||| c) ||| d) < 2 ^ n :=
  or_le _ _ n (or_le _ _ n (or_le _ _ n ha hb) hc) hd
theorem chain4_ge (a b c d : Nat) : a ≤ (((a ||| b) ||| c) ||| d) ∧ b ≤ (((a ||| b) ||| c) ||| d) ∧ c ≤ (((a ||| b) ||| c) ||| d) ∧ d ≤ (((a ||| b) ||| c) ||| d) := by
  refine ⟨Nat.le_trans (Nat.le_trans Nat.left_le_or Nat.left_le_or) Nat.left_le_or, Nat.le_trans (Nat.le_trans Nat.right_le_or Nat.left_le_or) Nat.left_le_or, Nat.le_trans Nat.right_le_or Nat.left_le_or, Nat.right_le_or⟩
theorem asm32_bad (a b c d : Nat) (ha : a < 256) (hb : b < 256) (hc : c < 256) (hd : d < 256) (h : a = 255 ∨ b = 255 ∨ c = 255 ∨ d = 255) :
    Pdecode.base64_assemble32.f (a : Int) b c d = some (0, false) := by
  have hlt := chain4_lt a b c d 8 ha hb hc hd
  have hge := chain4_ge a b c d
  unfold Pdecode.base64_assemble32.f
  rw [if_pos (by rw [or_chain4 a b c d ha hb hc hd]; omega)]
theorem asm32_good (a b c d : Nat) (ha : a < 64) (hb : b < 64) (hc : c < 64) (hd : d < 64) :
    Pdecode.base64_assemble32.f (a : Int) b c d = some ((((a * 262144 + b * 4096 + c * 64 + d) * 256 : Nat) : Int), true) := by
  have hlt := chain4_lt a b c d 6 ha hb hc hd
  unfold Pdecode.base64_assemble32.f
  rw [if_neg (by rw [or_chain4 a b c d (by omega) (by omega) (by omega) (by omega)]; omega)]
  have hw : ∀ n : Int, 0 ≤ n → n < 2 ^ 32 → IntKind.u32.wrap n = n := fun n h0 h1 => by rw [IntKind.wrap_u32']; omega
  obtain ⟨A, hA⟩ : ∃ A : Int, A = (a : Int) * 67108864 := ⟨_, rfl⟩
  obtain ⟨B, hB⟩ : ∃ A : Int, A = (b : Int) * 1048576 := ⟨_, rfl⟩
  obtain ⟨C, hC⟩ : ∃ A : Int, A = (c : Int) * 16384 := ⟨_, rfl⟩
  obtain ⟨D, hD⟩ : ∃ A : Int, A = (d : Int) * 256 := ⟨_, rfl⟩
  have e1 : ((a : Int) % 4294967296 * 67108864 % 4294967296) = A := by omega
  have e2 : ((b : Int) % 4294967296 * 1048576 % 4294967296) = B := by omega
  have e3 : ((c : Int) % 4294967296 * 16384 % 4294967296) = C := by omega
  have e4 : ((d : Int) % 4294967296 * 256 % 4294967296) = D := by omega
  rw [e1, e2, e3, e4]
  rw [bits_join .u32 32 (by decide) hw 26 A B (by omega) (by omega) (by omega) (by omega) (by omega) (by omega),
    bits_join .u32 32 (by decide) hw 20 (A + B) C (by omega) (by omega) (by omega) (by omega) (by omega) (by omega),
    bits_join .u32 32 (by decide) hw 14 (A + B + C) D (by omega) (by omega) (by omega) (by omega) (by omega) (by omega)]
  refine congrArg some (Prod.ext ?_ rfl)
  show A + B + C + D = _
  omega
theorem or_chain8 (a b c d e f g h : Nat) (ha : a < 256) (hb : b < 256) (hc : c < 256) (hd : d < 256) (he : e < 256) (hf : f < 256) (hg : g < 256) (hh : h < 256) :
    Go.bits .or .u8 (Go.bits .or .u8 (Go.bits .or .u8 (Go.bits .or .u8 (Go.bits .or .u8 (Go.bits .or .u8 (Go.bits .or .u8 (a : Int) (b : Int)) (c : Int)) (d : Int)) (e : Int)) (f : Int)) (g : Int)) (h : Int) = ((((((((a ||| b) ||| c) ||| d) ||| e) ||| f) ||| g) ||| h : Nat) : Int) := by
  have h3 := chain4_lt a b c d 8 ha hb hc hd
  have h4 := or_le _ e 8 h3 he
  have h5 := or_le _ f 8 h4 hf
  have h6 := or_le _ g 8 h5 hg
  rw [or_chain4 a b c d ha hb hc hd, or8_nat _ e h3 he, or8_nat _ f h4 hf, or8_nat _ g h5 hg, or8_nat _ h h6 hh]
theorem asm64_bad (a b c d e f g h : Nat) (ha : a < 256) (hb : b < 256) (hc : c < 256) (hd : d < 256) (he : e < 256) (hf : f < 256) (hg : g < 256) (hh : h < 256)
    (hbad : a = 255 ∨ b = 255 ∨ c = 255 ∨ d = 255 ∨ e = 255 ∨ f = 255 ∨ g = 255 ∨ h = 255) :
    Pdecode.base64_assemble64.f (a : Int) b c d e f g h = some (0, false) := by
  unfold Pdecode.base64_assemble64.f
  rw [if_pos]
  rw [or_chain8 a b c d e f g h ha hb hc hd he hf hg hh]
  have hge := chain4_ge a b c d
  have h3 := chain4_lt a b c d 8 ha hb hc hd
  generalize ((a ||| b) ||| c) ||| d = X at hge h3 ⊢
  have hge2 := chain4_ge (X ||| e) f g h
  have hlt : ((((X ||| e) ||| f) ||| g) ||| h) < 256 := chain4_lt _ f g h 8 (or_le _ _ 8 h3 he) hf hg hh
  have h1 : X ≤ X ||| e := Nat.left_le_or
  have h2 : e ≤ X ||| e := Nat.right_le_or
  omega
theorem asm64_good (a b c d e f g h : Nat) (ha : a < 64) (hb : b < 64) (hc : c < 64) (hd : d < 64) (he : e < 64) (hf : f < 64) (hg : g < 64) (hh : h < 64) :
    Pdecode.base64_assemble64.f (a : Int) b c d e f g h = some ((((a * 262144 + b * 4096 + c * 64 + d) * 1099511627776 + (e * 262144 + f * 4096 + g * 64 + h) * 65536 : Nat) : Int), true) := by
  unfold Pdecode.base64_assemble64.f
  rw [if_neg (by
    rw [or_chain8 a b c d e f g h (by omega) (by omega) (by omega) (by omega) (by omega) (by omega) (by omega) (by omega)]
    have hlt := chain4_lt _ f g h 6 (or_le _ e 6 (chain4_lt a b c d 6 ha hb hc hd) he) hf hg hh
    omega)]
  have hw : ∀ n : Int, 0 ≤ n → n < 18446744073709551616 → IntKind.u64.wrap n = n := fun n h0 h1 => by rw [IntKind.wrap_u64]; omega
  have hw2 : ∀ n : Int, 0 ≤ n → n < 2 ^ 64 → IntKind.u64.wrap n = n := hw
  rw [hw (a : Int) (by omega) (by omega), hw (b : Int) (by omega) (by omega), hw (c : Int) (by omega) (by omega), hw (d : Int) (by omega) (by omega), hw (e : Int) (by omega) (by omega), hw (f : Int) (by omega) (by omega), hw (g : Int) (by omega) (by omega), hw (h : Int) (by omega) (by omega)]
  obtain ⟨A, hA⟩ : ∃ A : Int, A = (a : Int) * 288230376151711744 := ⟨_, rfl⟩
  obtain ⟨B, hB⟩ : ∃ A : Int, A = (b : Int) * 4503599627370496 := ⟨_, rfl⟩
  obtain ⟨C, hC⟩ : ∃ A : Int, A = (c : Int) * 70368744177664 := ⟨_, rfl⟩
  obtain ⟨D, hD⟩ : ∃ A : Int, A = (d : Int) * 1099511627776 := ⟨_, rfl⟩
  obtain ⟨E, hE⟩ : ∃ A : Int, A = (e : Int) * 17179869184 := ⟨_, rfl⟩
  obtain ⟨F, hF⟩ : ∃ A : Int, A = (f : Int) * 268435456 := ⟨_, rfl⟩
  obtain ⟨G, hG⟩ : ∃ A : Int, A = (g : Int) * 4194304 := ⟨_, rfl⟩
  obtain ⟨H, hH⟩ : ∃ A : Int, A = (h : Int) * 65536 := ⟨_, rfl⟩
  rw [← hA, ← hB, ← hC, ← hD, ← hE, ← hF, ← hG, ← hH]
  rw [hw A (by omega) (by omega), hw B (by omega) (by omega), hw C (by omega) (by omega), hw D (by omega) (by omega), hw E (by omega) (by omega), hw F (by omega) (by omega), hw G (by omega) (by omega), hw H (by omega) (by omega)]
  rw [bits_join .u64 64 (by decide) hw2 58 A B (by omega) (by omega) (by omega) (by omega) (by omega) (by omega),
    bits_join .u64 64 (by decide) hw2 52 (A + B) C (by omega) (by omega) (by omega) (by omega) (by omega) (by omega),
    bits_join .u64 64 (by decide) hw2 46 (A + B + C) D (by omega) (by omega) (by omega) (by omega) (by omega) (by omega),
    bits_join .u64 64 (by decide) hw2 40 (A + B + C + D) E (by omega) (by omega) (by omega) (by omega) (by omega) (by omega),
    bits_join .u64 64 (by decide) hw2 34 (A + B + C + D + E) F (by omega) (by omega) (by omega) (by omega) (by omega) (by omega),
    bits_join .u64 64 (by decide) hw2 28 (A + B + C + D + E + F) G (by omega) (by omega) (by omega) (by omega) (by omega) (by omega),
    bits_join .u64 64 (by decide) hw2 22 (A + B + C + D + E + F + G) H (by omega) (by omega) (by omega) (by omega) (by omega) (by omega)]
  refine congrArg some (Prod.ext ?_ rfl)
  show A + B + C + D + E + F + G + H = _
  omega
def ch32 (w : World) (B o x : Nat) : World := ((((w.setCell ⟨B, o, none⟩ (.int .u8 ((x : Int) / 16777216 % 256))).setCell ⟨B, o + 1, none⟩ (.int .u8 ((x : Int) / 65536 % 256))).setCell ⟨B, o + 2, none⟩ (.int .u8 ((x : Int) / 256 % 256))).setCell ⟨B, o + 3, none⟩ (.int .u8 ((x : Int) % 256)))
def ch64 (w : World) (B o x : Nat) : World := ((((((((w.setCell ⟨B, o, none⟩ (.int .u8 ((x : Int) / 72057594037927936 % 256))).setCell ⟨B, o + 1, none⟩ (.int .u8 ((x : Int) / 281474976710656 % 256))).setCell ⟨B, o + 2, none⟩ (.int .u8 ((x : Int) / 1099511627776 % 256))).setCell ⟨B, o + 3, none⟩ (.int .u8 ((x : Int) / 4294967296 % 256))).setCell ⟨B, o + 4, none⟩ (.int .u8 ((x : Int) / 16777216 % 256))).setCell ⟨B, o + 5, none⟩ (.int .u8 ((x : Int) / 65536 % 256))).setCell ⟨B, o + 6, none⟩ (.int .u8 ((x : Int) / 256 % 256))).setCell ⟨B, o + 7, none⟩ (.int .u8 ((x : Int) % 256)))
theorem but32 (w : World) (B o x : Nat) : But B w (ch32 w B o x) := ((((But.refl B w).setIt _ _).setIt _ _).setIt _ _).setIt _ _
theorem but64 (w : World) (B o x : Nat) : But B w (ch64 w B o x) := ((((((((But.refl B w).setIt _ _).setIt _ _).setIt _ _).setIt _ _).setIt _ _).setIt _ _).setIt _ _).setIt _ _
/-- A row behind BEPutUint32 of a quantum. -/
theorem row_bput32 {w : World} {B o V : Nat} {pre rest : List UInt8} {r0 r1 r2 r3 : UInt8} (h : Row0 5 w B (pre ++ r0 :: r1 :: r2 :: r3 :: rest)) (ho : pre.length = o) (x : Nat) (hx : x = V * 256) (hV : V < 16777216) :
    Row0 5 (ch32 w B o x) B
      (pre ++ [qb0 V, qb1 V, qb2 V] ++ (0 :: rest)) := by
  unfold ch32
  rw [show ((x : Int) / 16777216 % 256) = ((qb0 V).toNat : Int) by simp only [qb0, UInt8.toNat_ofNat']; omega,
    show ((x : Int) / 65536 % 256) = ((qb1 V).toNat : Int) by simp only [qb1, UInt8.toNat_ofNat']; omega,
    show ((x : Int) / 256 % 256) = ((qb2 V).toNat : Int) by simp only [qb2, UInt8.toNat_ofNat']; omega,
    show ((x : Int) % 256) = ((0 : UInt8).toNat : Int) by simp; omega]
  have h5 := (((h.set o (qb0 V)).set (o + 1) (qb1 V)).set (o + 2) (qb2 V)).set (o + 3) 0
  rw [show (pre ++ r0 :: r1 :: r2 :: r3 :: rest).set o (qb0 V) = _ from set_at pre _ o 0 _ ho, set_at pre _ o 1 _ ho, set_at pre _ o 2 _ ho, set_at pre _ o 3 _ ho] at h5
  simpa using h5
theorem row_bput64 {w : World} {B o V U : Nat} {pre rest : List UInt8} {r0 r1 r2 r3 r4 r5 r6 r7 : UInt8} (h : Row0 5 w B (pre ++ r0 :: r1 :: r2 :: r3 :: r4 :: r5 :: r6 :: r7 :: rest)) (ho : pre.length = o) (x : Nat) (hx : x = V * 1099511627776 + U * 65536) (hV : V < 16777216) (hU : U < 16777216) :
    Row0 5 (ch64 w B o x) B
      (pre ++ [qb0 V, qb1 V, qb2 V, qb0 U, qb1 U, qb2 U] ++ (0 :: 0 :: rest)) := by
  unfold ch64
  rw [show ((x : Int) / 72057594037927936 % 256) = ((qb0 V).toNat : Int) by simp only [qb0, UInt8.toNat_ofNat']; omega,
    show ((x : Int) / 281474976710656 % 256) = ((qb1 V).toNat : Int) by simp only [qb1, UInt8.toNat_ofNat']; omega,
    show ((x : Int) / 1099511627776 % 256) = ((qb2 V).toNat : Int) by simp only [qb2, UInt8.toNat_ofNat']; omega,
    show ((x : Int) / 4294967296 % 256) = ((qb0 U).toNat : Int) by simp only [qb0, UInt8.toNat_ofNat']; omega,
    show ((x : Int) / 16777216 % 256) = ((qb1 U).toNat : Int) by simp only [qb1, UInt8.toNat_ofNat']; omega,
    show ((x : Int) / 65536 % 256) = ((qb2 U).toNat : Int) by simp only [qb2, UInt8.toNat_ofNat']; omega,
    show ((x : Int) / 256 % 256) = ((0 : UInt8).toNat : Int) by simp; omega,
    show ((x : Int) % 256) = ((0 : UInt8).toNat : Int) by simp; omega]
  have h5 := (((((((h.set o (qb0 V)).set (o + 1) (qb1 V)).set (o + 2) (qb2 V)).set (o + 3) (qb0 U)).set (o + 4) (qb1 U)).set (o + 5) (qb2 U)).set (o + 6) 0).set (o + 7) 0
  rw [show (pre ++ r0 :: r1 :: r2 :: r3 :: r4 :: r5 :: r6 :: r7 :: rest).set o (qb0 V) = _ from set_at pre _ o 0 _ ho, set_at pre _ o 1 _ ho, set_at pre _ o 2 _ ho, set_at pre _ o 3 _ ho, set_at pre _ o 4 _ ho, set_at pre _ o 5 _ ho, set_at pre _ o 6 _ ho, set_at pre _ o 7 _ ho] at h5
  simpa using h5
end Go.Proofs.YtbjhmmiijebehaaDoor.Own

namespace Go.Proofs.YtbjhmmiijebehaaDoor.Own
open Go.RowKit Go.Lib
set_option linter.unusedVariables false
set_option linter.unusedSimpArgs false

/-- Where the text lies: in a block of its own, or at the beginning of the bytes' block. -/
def SrcAt (w : World) (B Bs so : Nat) (P pre : List UInt8) : Prop :=
  (Bs ≠ B ∧ ∀ i x, P[i]? = some x → w.cell? ⟨Bs, so + i, none⟩ = some (.int .u8 (x.toNat : Int))) ∨ (Bs = B ∧ so = 0 ∧ P = pre)
theorem But.cell {B : Nat} {w w' : World} (h : But B w w') {k j : Nat} {v : Value} (hk : k ≠ B) (hv : w.cell? ⟨k, j, none⟩ = some v) : w'.cell? ⟨k, j, none⟩ = some v := by
  have hlt := World.block_lt_of_cell? w _ hv
  have hb := h.2.2.2.2 k hlt hk
  simp only [World.cell?] at hv ⊢
  rw [hb]; exact hv
theorem But.enc {B : Nat} {w w' : World} (h : But B w w') {E i : Nat} (hE : E ≠ B) (he : EncAt w E i) : EncAt w' E i := (h.2.2.2.2 E he.lt hE).trans he
theorem src_read {w W : World} {B Bs so : Nat} {P pre l : List UInt8} (hs : SrcAt w B Bs so P pre) (hb : But B w W) (hr : Row0 5 W B (pre ++ l)) :
    ∀ i x, P[i]? = some x → W.cell? ⟨Bs, so + i, none⟩ = some (.int .u8 (x.toNat : Int)) := by
  intro i x hx
  rcases hs with ⟨hne, hc⟩ | ⟨rfl, rfl, rfl⟩
  · exact hb.cell hne (hc i x hx)
  · rw [Nat.zero_add]
    refine hr.cell ?_
    rw [List.getElem?_append_left (List.getElem?_eq_some_iff.1 hx).1]
    exact hx
theorem dec64_none (a b c d : UInt8) (t : List UInt8) (h : qd (a :: b :: c :: d :: t) = none) : dec64 (a :: b :: c :: d :: t) = none := by
  rw [dec64, h]
theorem dec64_some (a b c d : UInt8) (t bs : List UInt8) (h : qd (a :: b :: c :: d :: t) = some bs) : dec64 (a :: b :: c :: d :: t) = (dec64 t).map (bs ++ ·) := by
  rw [dec64, h]
def DecD (w' : World) (e : Ending) (B n : Nat) (pre : List UInt8) : Option (List UInt8) → Prop
  | some out => e = .returned (.tuple #[.int .i64 (out.length : Int), .nilIface]) ∧ ∃ x, Row0 5 w' B (pre ++ out ++ x) ∧ out.length + x.length = n
  | none => ∃ (x : Int) (v : Value), e = .returned (.tuple #[.int .i64 x, .iface 76 v])
/-- Behind si letters: the bytes out. -/
def Dinv (w wr : World) (B R : Nat) (P pre out : List UInt8) (si : Nat) : Prop :=
  si ≤ P.length ∧ (P.length - si) % 4 = 0 ∧ dec64 P = (dec64 (P.drop si)).map (out ++ ·) ∧ But B w wr ∧ ∃ x, Row0 5 wr B (pre ++ out ++ x) ∧ out.length + x.length = R ∧ 2 * (P.length - si) ≤ x.length
theorem drop_four (P : List UInt8) (si : Nat) (h : si + 4 ≤ P.length) : ∃ a b c d t, P.drop si = a :: b :: c :: d :: t ∧ P.drop (si + 4) = t := by
  have hl : (P.drop si).length = P.length - si := List.length_drop
  rcases hd : P.drop si with _ | ⟨a, _ | ⟨b, _ | ⟨c, _ | ⟨d, t⟩⟩⟩⟩
  all_goals (rw [hd] at hl; simp at hl; try omega)
  exact ⟨a, b, c, d, t, rfl, by rw [← List.drop_drop, hd]; rfl⟩
theorem dinv_step {w wr wr' : World} {B R si : Nat} {P pre out bs x : List UInt8} {a b c d : UInt8} {t : List UInt8} (h : Dinv w wr B R P pre out si) (hs : si + 4 ≤ P.length)
    (hd : P.drop si = a :: b :: c :: d :: t) (ht : P.drop (si + 4) = t) (hq : qd (a :: b :: c :: d :: t) = some bs) (hb : But B w wr') (hr : Row0 5 wr' B (pre ++ (out ++ bs) ++ x)) (hx : (out ++ bs).length + x.length = R) (hbs : bs.length ≤ 3) :
    Dinv w wr' B R P pre (out ++ bs) (si + 4) := by
  obtain ⟨h1, h2, h3, h4, y, hy, hyr, hyl⟩ := h
  refine ⟨hs, by omega, ?_, hb, x, hr, hx, by simp at hx; omega⟩
  rw [h3, hd, dec64_some a b c d t bs hq, ht]
  cases dec64 t <;> simp
theorem dinv_draw {w wr : World} {B R si : Nat} {P pre out : List UInt8} (h : Dinv w wr B R P pre out si) (m : Nat) : Dinv w (wr.drewN m) B R P pre out si := by
  obtain ⟨h1, h2, h3, h4, x, h5, h6, h7⟩ := h
  exact ⟨h1, h2, h3, h4.trans ⟨rfl, rfl, rfl, Nat.le_refl _, fun _ _ _ => rfl⟩, x, h5, h6, h7⟩
theorem dinv_below {w wr W : World} {B R si : Nat} {P pre out : List UInt8} (h : Dinv w wr B R P pre out si) (hb : Below wr.heap.size wr W) : Dinv w W B R P pre out si := by
  obtain ⟨h1, h2, h3, h4, x, h5, h6, h7⟩ := h
  exact ⟨h1, h2, h3, h4.trans (But.of_below hb), x, h5.below hb, h6, h7⟩
theorem qd_len (a b c d : UInt8) (t bs : List UInt8) (h : qd (a :: b :: c :: d :: t) = some bs) : bs.length ≤ 3 := by
  unfold qd at h
  simp only at h
  split at h
  · cases h; simp
  · split at h
    · cases h; simp
    · split at h
      · cases h; simp
      · cases h
theorem q3_lt (a b c d : UInt8) (ha : good a) (hb : good b) (hc : good c) (hd : good d) : q3 a b c d < 16777216 := by
  unfold good at ha hb hc hd; unfold q3; omega
theorem But.chain {B : Nat} {w : World} (j : Nat) (v : Value) {w' : World} (h : But B w w') : But B w (w'.setCell ⟨B, j, none⟩ v) := h.setIt j v
theorem step32 {w wd : World} {B R o n si dcap : Nat} {P pre out : List UInt8} {a b c d : UInt8} {t : List UInt8} (hI : Dinv w wd B R P pre out si) (hpre : pre.length = o) (hs : si + 4 ≤ P.length)
    (hd : P.drop si = a :: b :: c :: d :: t) (ht : P.drop (si + 4) = t) (hg : good a ∧ good b ∧ good c ∧ good d) (hn : out.length = n) (X : Nat) (hX : X = q3 a b c d * 256) :
    Calls Tryd.prog 36 #[.slice (some ⟨B, o + n, none⟩) (R - n) dcap, .int .u32 X] wd fun e w' => e = .returned (.tuple #[]) ∧ ∃ out', out'.length = n + 3 ∧ Dinv w w' B R P pre out' (si + 4) := by
  have hI0 := hI
  obtain ⟨h1, h2, h3, h4, x, h5, h6, h7⟩ := hI
  rcases x with _ | ⟨r0, _ | ⟨r1, _ | ⟨r2, _ | ⟨r3, x⟩⟩⟩⟩ <;> (try (simp at h7; omega))
  have hlen : (pre ++ out).length = o + n := by simp; omega
  refine (bput32 B (o + n) (R - n) dcap X _ wd h5 (by simp; omega) (by simp at h6; omega)).mono ?_
  rintro e w' ⟨rfl, rfl⟩
  refine ⟨rfl, out ++ [qb0 (q3 a b c d), qb1 (q3 a b c d), qb2 (q3 a b c d)], by simp; omega, ?_⟩
  have hr := row_bput32 h5 hlen X hX (q3_lt a b c d hg.1 hg.2.1 hg.2.2.1 hg.2.2.2)
  exact dinv_step hI0 hs hd ht (qd_4 a b c d t hg.1 hg.2.1 hg.2.2.1 hg.2.2.2) (h4.trans (but32 wd B (o + n) X)) (show Row0 5 (ch32 wd B (o + n) X) B _ by simpa using hr) (by simp at h6 ⊢; omega) (by simp)
theorem step64 {w wd : World} {B R o n si dcap : Nat} {P pre out : List UInt8} {a b c d e f g h : UInt8} {t t2 : List UInt8} (hI : Dinv w wd B R P pre out si) (hpre : pre.length = o) (hs : si + 8 ≤ P.length)
    (hd : P.drop si = a :: b :: c :: d :: t) (ht : P.drop (si + 4) = t) (hd2 : P.drop (si + 4) = e :: f :: g :: h :: t2) (ht2 : P.drop (si + 8) = t2) (hg : good a ∧ good b ∧ good c ∧ good d) (hg2 : good e ∧ good f ∧ good g ∧ good h)
    (hn : out.length = n) (X : Nat) (hX : X = q3 a b c d * 1099511627776 + q3 e f g h * 65536) :
    Calls Tryd.prog 33 #[.slice (some ⟨B, o + n, none⟩) (R - n) dcap, .int .u64 X] wd fun e w' => e = .returned (.tuple #[]) ∧ ∃ out', out'.length = n + 6 ∧ Dinv w w' B R P pre out' (si + 8) := by
  have hI0 := hI
  obtain ⟨h1, h2, h3, h4, x, h5, h6, h7⟩ := hI
  rcases x with _ | ⟨r0, _ | ⟨r1, _ | ⟨r2, _ | ⟨r3, _ | ⟨r4, _ | ⟨r5, _ | ⟨r6, _ | ⟨r7, x⟩⟩⟩⟩⟩⟩⟩⟩ <;> (try (simp at h7; omega))
  have hlen : (pre ++ out).length = o + n := by simp; omega
  refine (bput64 B (o + n) (R - n) dcap X _ wd h5 (by simp; omega) (by simp at h6; omega)).mono ?_
  rintro e' w' ⟨rfl, rfl⟩
  refine ⟨rfl, out ++ [qb0 (q3 a b c d), qb1 (q3 a b c d), qb2 (q3 a b c d)] ++ [qb0 (q3 e f g h), qb1 (q3 e f g h), qb2 (q3 e f g h)], by simp; omega, ?_⟩
  have hr := row_bput64 h5 hlen X hX (q3_lt a b c d hg.1 hg.2.1 hg.2.2.1 hg.2.2.2) (q3_lt e f g h hg2.1 hg2.2.1 hg2.2.2.1 hg2.2.2.2)
  have hb := h4.trans (but64 wd B (o + n) X)
  have hm : Dinv w _ B R P pre (out ++ [qb0 (q3 a b c d), qb1 (q3 a b c d), qb2 (q3 a b c d)]) (si + 4) :=
    dinv_step (x := [qb0 (q3 e f g h), qb1 (q3 e f g h), qb2 (q3 e f g h)] ++ 0 :: 0 :: x) hI0 (by omega) hd ht (qd_4 a b c d t hg.1 hg.2.1 hg.2.2.1 hg.2.2.2) hb (by simpa using hr) (by simp at h6 ⊢; omega) (by simp)
  exact dinv_step (x := 0 :: 0 :: x) hm (by omega) hd2 ht2 (qd_4 e f g h t2 hg2.1 hg2.2.1 hg2.2.2.1 hg2.2.2.2) hb (show Row0 5 (ch64 wd B (o + n) X) B (pre ++ (out ++ [qb0 (q3 a b c d), qb1 (q3 a b c d), qb2 (q3 a b c d)] ++ [qb0 (q3 e f g h), qb1 (q3 e f g h), qb2 (q3 e f g h)]) ++ 0 :: 0 :: x) by simpa using hr) (by simp at h6 ⊢; omega) (by simp)
theorem stepq {w wd : World} {B Bs so scap E R o n si dcap : Nat} {P pre out : List UInt8} {a b c d : UInt8} {t : List UInt8} (hI : Dinv w wd B R P pre out si) (hpre : pre.length = o) (hs : si + 4 ≤ P.length)
    (hd : P.drop si = a :: b :: c :: d :: t) (ht : P.drop (si + 4) = t) (hn : out.length = n) (hsrc : SrcAt w B Bs so P pre) (hnl : ∀ x ∈ P, x ≠ 10 ∧ x ≠ 13) (henc : EncAt w E 64) (hEB : E ≠ B) (hlen : P.length < 1000000) (hlen2 : R < 1000000) :
    Calls Tryd.prog 34 #[.pointer (some ⟨E, 0, none⟩), .slice (some ⟨B, o + n, none⟩) (R - n) dcap, .slice (some ⟨Bs, so, none⟩) P.length scap, .int .i64 (si : Int)] wd fun e w' =>
      (∃ (out' : List UInt8) (k : Nat), out'.length = n + k ∧ k ≤ 3 ∧ e = .returned (.tuple #[.int .i64 ((si + 4 : Nat) : Int), .int .i64 (k : Int), .nilIface]) ∧ Dinv w w' B R P pre out' (si + 4)) ∨
      ((∃ (x y : Int) (v : Value), e = .returned (.tuple #[.int .i64 x, .int .i64 y, .iface 76 v]) ∧ 0 ≤ y ∧ y ≤ 3) ∧ But B w w' ∧ dec64 P = none) := by
  have hI0 := hI
  obtain ⟨h1, h2, h3, h4, x, h5, h6, h7⟩ := hI
  rcases x with _ | ⟨r0, _ | ⟨r1, _ | ⟨r2, x⟩⟩⟩ <;> (try (simp at h7; omega))
  have hlen3 : (pre ++ out).length = o + n := by simp; omega
  have hsr := src_read hsrc h4 (by rw [List.append_assoc] at h5; exact h5)
  have hq := dquant_any wd B (o + n) dcap Bs so scap E si P (pre ++ out) r0 r1 r2 x a b c d t h5 hlen3 hsr hd hnl (h4.enc hEB henc) hEB hlen (by simp at h6; omega)
  rw [show x.length + 3 = R - n by simp at h6; omega] at hq
  refine hq.mono ?_
  rintro e w' ⟨hb, hD⟩
  rcases hqd : qd (a :: b :: c :: d :: t) with _ | bs
  · rw [hqd] at hD
    obtain ⟨u, y, v, rfl, hy0, hy3⟩ := hD
    refine .inr ⟨⟨u, y, v, rfl, hy0, hy3⟩, h4.trans hb, ?_⟩
    rw [h3, hd, dec64_none a b c d t hqd]; rfl
  · rw [hqd] at hD
    obtain ⟨rfl, y, hy, hyl⟩ := hD
    have h33 := qd_len a b c d t bs hqd
    refine .inl ⟨out ++ bs, bs.length, by simp; omega, h33, rfl, ?_⟩
    exact dinv_step hI0 hs hd ht hqd (h4.trans hb) (show Row0 5 w' B (pre ++ (out ++ bs) ++ y) by simpa using hy) (by simp at h6 ⊢; omega) h33
end Go.Proofs.YtbjhmmiijebehaaDoor.Own

namespace Go.Proofs.YtbjhmmiijebehaaDoor.Own
open Go.RowKit Go.Lib
set_option linter.unusedVariables false
set_option linter.unusedSimpArgs false

set_option maxHeartbeats 4000000 in
set_option maxRecDepth 100000 in
theorem decode_any (w : World) (B o dcap Bs so scap E : Nat) (P pre rest0 : List UInt8) (hrow : Row0 5 w B (pre ++ rest0)) (hpre : pre.length = o)
    (hs : SrcAt w B Bs so P pre) (h4 : P.length % 4 = 0) (hP : 0 < P.length) (hnl : ∀ x ∈ P, x ≠ 10 ∧ x ≠ 13) (henc : EncAt w E 64) (hEB : E ≠ B) (hscap : P.length ≤ scap) (hdcap : rest0.length ≤ dcap)
    (hroom : 2 * P.length ≤ rest0.length) (hlen : P.length < 1000000) (hlen2 : rest0.length < 1000000) :
    Calls Tryd.prog 22 #[.pointer (some ⟨E, 0, none⟩), .slice (some ⟨B, o, none⟩) rest0.length dcap, .slice (some ⟨Bs, so, none⟩) P.length scap] w fun e w' =>
      But B w w' ∧ DecD w' e B rest0.length pre (dec64 P) := by
  have hI : Dinv w w B rest0.length P pre [] 0 := ⟨by omega, by omega, by simp, But.refl _ _, rest0, by simpa using hrow, by simp, by omega⟩
  have hI' := Lib.hid hI
  have hs' := Lib.hid hs
  have hnl' := Lib.hid hnl
  have henc' := Lib.hid henc
  have hpre' := Lib.hid hpre
  obtain ⟨L, hL⟩ : ∃ L, P.length = L := ⟨_, rfl⟩
  obtain ⟨R, hR⟩ : ∃ R, rest0.length = R := ⟨_, rfl⟩
  rw [hL] at h4 hP hscap hroom hlen ⊢
  rw [hR] at hdcap hroom hlen2 hI' ⊢
  have hL' := Lib.hid hL
  clear hI hs hnl henc hpre hrow hL hR
  have n0 : ((L : Int) == 0) = false := by rw [beq_eq_false_iff_ne]; omega
  go_enter Tryd.func22, Tryd.ntmps22
  go_wp2_with (refine wpList_load_dmap rfl _ rfl E rfl henc'.out ?_)
  go_loopw [6, 7, 8] (fun s6 s7 s8 wr => ∃ (si : Nat) (out : List UInt8), s8 = .int .i64 (si : Int) ∧ s6 = .int .i64 (out.length : Int) ∧ s7 = .nilIface ∧ Hid (Dinv w wr B R P pre out si)) (fun _ _ s8 _ => L - (RowKit.intOf s8).toNat)
  case atStart => exact ⟨0, [], rfl, rfl, rfl, hI'⟩
  case round =>
    obtain ⟨wq, hwq⟩ : ∃ wq : World, wq = wr := ⟨_, rfl⟩
    rw [← hwq] at hrel ⊢
    clear hwq hI'
    obtain ⟨si, out, rfl, rfl, rfl, hI⟩ := hrel
    obtain ⟨n, hn⟩ : ∃ n, out.length = n := ⟨_, rfl⟩
    rw [hn]
    by_cases h8 : si + 8 ≤ L
    · have hL := hL'.out
      obtain ⟨i1, i2, i3, i4, x, i5, i6, i7⟩ := hI.out
      obtain ⟨a, b, c, d, t, hd, ht⟩ := drop_four P si (by omega)
      obtain ⟨e, f, g, h, t2, hd2, ht2⟩ := drop_four P (si + 4) (by omega)
      have hsrc := src_read hs'.out i4 (by rw [List.append_assoc] at i5; exact i5)
      have hat : ∀ k y, (P.drop si)[k]? = some y → wq.cell? ⟨Bs, so + si + k, none⟩ = some (.int .u8 (y.toNat : Int)) := fun k y hy => by
        rw [List.getElem?_drop] at hy; rw [Nat.add_assoc]; exact hsrc _ y hy
      have henc2 := i4.enc hEB henc'.out
      have hd3 : P.drop si = [a, b, c, d, e, f, g, h] ++ t2 := by rw [hd, ← ht, hd2]; rfl
      rw [hd3] at hat
      have k0 : wq.cell? ⟨Bs, so + si, none⟩ = some (.int .u8 (a.toNat : Int)) := hat 0 a rfl
      have k1 := hat 1 b rfl
      have k2 := hat 2 c rfl
      have k3 := hat 3 d rfl
      have k4 := hat 4 e rfl
      have k5 := hat 5 f rfl
      have k6 := hat 6 g rfl
      have k7 := hat 7 h rfl
      have p0 := henc2.map a
      have p1 := henc2.map b
      have p2 := henc2.map c
      have p3 := henc2.map d
      have p4 := henc2.map e
      have p5 := henc2.map f
      have p6 := henc2.map g
      have p7 := henc2.map h
      have l0 : (a.toNat : Int) < 256 := by have := UInt8.toNat_lt a; omega
      have l1 : (b.toNat : Int) < 256 := by have := UInt8.toNat_lt b; omega
      have l2 : (c.toNat : Int) < 256 := by have := UInt8.toNat_lt c; omega
      have l3 : (d.toNat : Int) < 256 := by have := UInt8.toNat_lt d; omega
      have l4 : (e.toNat : Int) < 256 := by have := UInt8.toNat_lt e; omega
      have l5 : (f.toNat : Int) < 256 := by have := UInt8.toNat_lt f; omega
      have l6 : (g.toNat : Int) < 256 := by have := UInt8.toNat_lt g; omega
      have l7 : (h.toNat : Int) < 256 := by have := UInt8.toNat_lt h; omega
      have g1 : 8 ≤ (L : Int) - (si : Int) := by omega
      have g2 : 8 ≤ (R : Int) - (n : Int) := by omega
      have g3 : (si : Int) + 8 ≤ (scap : Int) := by omega
      have i3' := Lib.hid i3
      have i4' := Lib.hid i4
      have i5' := Lib.hid i5
      have hd' := Lib.hid (And.intro hd (And.intro ht (And.intro hd2 ht2)))
      have hL' := Lib.hid hL
      clear hsrc hat henc2 hd3 hd ht hd2 ht2 i3 i4 i5 hL i1 i2
      have g4 : si + 8 - si = 8 := by omega
      have hn' := Lib.hid hn
      have hI' := hI
      clear hI hn
      by_cases hall : (good a ∧ good b ∧ good c ∧ good d) ∧ good e ∧ good f ∧ good g ∧ good h
      · obtain ⟨X, hX⟩ : ∃ X, X = q3 a b c d * 1099511627776 + q3 e f g h * 65536 := ⟨_, rfl⟩
        have hasm := asm64_good _ _ _ _ _ _ _ _ hall.1.1 hall.1.2.1 hall.1.2.2.1 hall.1.2.2.2 hall.2.1 hall.2.2.1 hall.2.2.2.1 hall.2.2.2.2
        rw [show ((dm a).toNat * 262144 + (dm b).toNat * 4096 + (dm c).toNat * 64 + (dm d).toNat) * 1099511627776 + ((dm e).toNat * 262144 + (dm f).toNat * 4096 + (dm g).toNat * 64 + (dm h).toNat) * 65536 = X from hX.symm] at hasm
        have hasm' := Lib.hid hasm
        have hall' := Lib.hid hall
        have hX' := Lib.hid hX
        clear hasm hall hX
        go_wp2_with fail
        go_quiet (first | (go_at_call 32; exact Calls.quiet_of ((Pdecode.base64_assemble64.calls _ _ _ _ _ _ _ _ _ _ _ hasm'.out).mono (fun e w' h => ⟨h.1, h.2.out⟩))))
        have hI := Lib.hid (dinv_draw hI'.out nq)
        generalize wq.drewN nq = wd at hI ⊢
        clear hI' hasm' k0 k1 k2 k3 k4 k5 k6 k7 p0 p1 p2 p3 p4 p5 p6 p7
        have hq' := Lib.hid (step64 (dcap := dcap - n) hI.out hpre'.out (by have := hL'.out; omega) hd'.out.1 hd'.out.2.1 hd'.out.2.2.1 hd'.out.2.2.2 hall'.out.1 hall'.out.2 hn'.out X hX'.out)
        clear hI
        go_wp2_with fail
        refine hq'.out.mono ?_
        clear hq'
        rintro e1 w1 ⟨rfl, out', hk, hI1⟩
        have hI1' := Lib.hid hI1
        have hk' := Lib.hid hk
        clear hI1 hk
        go_wp2_with fail
        go_roundw
        case rel => exact ⟨si + 8, out', by congr 1 <;> omega, by rw [hk'.out]; congr 1 <;> omega, rfl, hI1'⟩
        case measure => simp only [RowKit.intOf]; omega
      · have hasm : Pdecode.base64_assemble64.f ((dm a).toNat : Int) (dm b).toNat (dm c).toNat (dm d).toNat (dm e).toNat (dm f).toNat (dm g).toNat (dm h).toNat = some (0, false) := by
          refine asm64_bad _ _ _ _ _ _ _ _ (UInt8.toNat_lt _) (UInt8.toNat_lt _) (UInt8.toNat_lt _) (UInt8.toNat_lt _) (UInt8.toNat_lt _) (UInt8.toNat_lt _) (UInt8.toNat_lt _) (UInt8.toNat_lt _) ?_
          have c0 := dm_cases a
          have c1 := dm_cases b
          have c2 := dm_cases c
          have c3 := dm_cases d
          have c4 := dm_cases e
          have c5 := dm_cases f
          have c6 := dm_cases g
          have c7 := dm_cases h
          unfold good at hall
          omega
        have hasm' := Lib.hid hasm
        clear hasm hall
        go_wp2_with fail
        go_quiet (first | (go_at_call 32; exact Calls.quiet_of ((Pdecode.base64_assemble64.calls _ _ _ _ _ _ _ _ _ _ _ hasm'.out).mono (fun e w' h => ⟨h.1, h.2.out⟩))))
        have hI := Lib.hid (dinv_draw hI'.out nq)
        generalize wq.drewN nq = wd at hI ⊢
        clear hI' hasm' k0 k1 k2 k3 k4 k5 k6 k7 p0 p1 p2 p3 p4 p5 p6 p7
        have hq := stepq (dcap := dcap - n) (scap := scap) hI.out hpre'.out (by have := hL'.out; omega) hd'.out.1 hd'.out.2.1 hn'.out hs'.out hnl'.out henc'.out hEB (by have := hL'.out; omega) hlen2
        rw [hL'.out] at hq
        have hq' := Lib.hid hq
        clear hq
        go_wp2_with fail
        refine hq'.out.mono ?_
        clear hq'
        rintro e1 w1 (⟨out', k, hk, hk3, rfl, hI1⟩ | ⟨⟨u, y, v, rfl, hy0, hy3⟩, hb1, hdn⟩)
        · have hI1' := Lib.hid hI1
          have hk' := Lib.hid hk
          clear hI1 hk
          go_wp2_with fail
          go_roundw
          case rel => exact ⟨si + 4, out', by congr 1 <;> omega, by rw [hk'.out]; congr 1 <;> omega, rfl, hI1'⟩
          case measure => simp only [RowKit.intOf]; omega
        · have hb1' := Lib.hid hb1
          have hdn' := Lib.hid hdn
          clear hb1 hdn
          go_wp2_with fail
          go_ret2
          refine ⟨hb1'.out, ?_⟩
          rw [hdn'.out]
          exact ⟨_, _, rfl⟩
    · have g1 : ¬ 8 ≤ (L : Int) - (si : Int) := by omega
      have hsl : si ≤ L := by have h1 := hI.out.1; have h2 := hL'.out; omega
      have hnR : n ≤ R := by
        obtain ⟨_, _, _, _, x, _, h6, _⟩ := hI.out
        omega
      have hn' := Lib.hid hn
      have hI0 := hI
      clear hn hI
      go_wp2_with fail
      go_loopw [6, 7, 8] (fun s6 s7 s8 wr => ∃ (si : Nat) (out : List UInt8), s8 = .int .i64 (si : Int) ∧ s6 = .int .i64 (out.length : Int) ∧ s7 = .nilIface ∧ Hid (Dinv w wr B R P pre out si)) (fun _ _ s8 _ => L - (RowKit.intOf s8).toNat)
      case atStart => exact ⟨si, out, rfl, by rw [hn'.out], rfl, hI0⟩
      case round =>
        obtain ⟨wp, hwp⟩ : ∃ wp : World, wp = wr := ⟨_, rfl⟩
        rw [← hwp] at hrel ⊢
        clear hwp hI0 hn' g1 hsl hnR h8
        obtain ⟨si, out, rfl, rfl, rfl, hI⟩ := hrel
        obtain ⟨n, hn⟩ : ∃ n, out.length = n := ⟨_, rfl⟩
        rw [hn]
        by_cases h8 : si + 4 ≤ L
        · have hL := hL'.out
          obtain ⟨i1, i2, i3, i4, x, i5, i6, i7⟩ := hI.out
          obtain ⟨a, b, c, d, t, hd, ht⟩ := drop_four P si (by omega)
          have hsrc := src_read hs'.out i4 (by rw [List.append_assoc] at i5; exact i5)
          have hat : ∀ k y, (P.drop si)[k]? = some y → wp.cell? ⟨Bs, so + si + k, none⟩ = some (.int .u8 (y.toNat : Int)) := fun k y hy => by
            rw [List.getElem?_drop] at hy; rw [Nat.add_assoc]; exact hsrc _ y hy
          have henc2 := i4.enc hEB henc'.out
          rw [hd] at hat
          have k0 : wp.cell? ⟨Bs, so + si, none⟩ = some (.int .u8 (a.toNat : Int)) := hat 0 a rfl
          have k1 := hat 1 b rfl
          have k2 := hat 2 c rfl
          have k3 := hat 3 d rfl
          have p0 := henc2.map a
          have p1 := henc2.map b
          have p2 := henc2.map c
          have p3 := henc2.map d
          have l0 : (a.toNat : Int) < 256 := by have := UInt8.toNat_lt a; omega
          have l1 : (b.toNat : Int) < 256 := by have := UInt8.toNat_lt b; omega
          have l2 : (c.toNat : Int) < 256 := by have := UInt8.toNat_lt c; omega
          have l3 : (d.toNat : Int) < 256 := by have := UInt8.toNat_lt d; omega
          have g1 : 4 ≤ (L : Int) - (si : Int) := by omega
          have g2 : 4 ≤ (R : Int) - (n : Int) := by omega
          have g3 : (si : Int) + 4 ≤ (scap : Int) := by omega
          have hd' := Lib.hid (And.intro hd (And.intro ht trivial))
          have hL' := Lib.hid hL
          clear hsrc hat henc2 hd ht i3 i4 i5 hL i1 i2
          have g4 : si + 4 - si = 4 := by omega
          have hn' := Lib.hid hn
          have hI' := hI
          clear hI hn
          by_cases hall : good a ∧ good b ∧ good c ∧ good d
          · obtain ⟨X, hX⟩ : ∃ X, X = q3 a b c d * 256 := ⟨_, rfl⟩
            have hasm := asm32_good _ _ _ _ hall.1 hall.2.1 hall.2.2.1 hall.2.2.2
            rw [show ((dm a).toNat * 262144 + (dm b).toNat * 4096 + (dm c).toNat * 64 + (dm d).toNat) * 256 = X from hX.symm] at hasm
            have hasm' := Lib.hid hasm
            have hall' := Lib.hid hall
            have hX' := Lib.hid hX
            clear hasm hall hX
            go_wp2_with fail
            go_quiet (first | (go_at_call 35; exact Calls.quiet_of ((Pdecode.base64_assemble32.calls _ _ _ _ _ _ _ hasm'.out).mono (fun e w' h => ⟨h.1, h.2.out⟩))))
            have hI := Lib.hid (dinv_draw hI'.out nq)
            generalize wp.drewN nq = wd at hI ⊢
            clear hI' hasm' k0 k1 k2 k3 p0 p1 p2 p3
            have hq' := Lib.hid (step32 (dcap := dcap - n) hI.out hpre'.out (by have := hL'.out; omega) hd'.out.1 hd'.out.2.1 hall'.out hn'.out X hX'.out)
            clear hI
            go_wp2_with fail
            refine hq'.out.mono ?_
            clear hq'
            rintro e1 w1 ⟨rfl, out', hk, hI1⟩
            have hI1' := Lib.hid hI1
            have hk' := Lib.hid hk
            clear hI1 hk
            go_wp2_with fail
            go_roundw
            case rel => exact ⟨si + 4, out', by congr 1 <;> omega, by rw [hk'.out]; congr 1 <;> omega, rfl, hI1'⟩
            case measure => simp only [RowKit.intOf]; omega
          · have hasm : Pdecode.base64_assemble32.f ((dm a).toNat : Int) (dm b).toNat (dm c).toNat (dm d).toNat = some (0, false) := by
              refine asm32_bad _ _ _ _ (UInt8.toNat_lt _) (UInt8.toNat_lt _) (UInt8.toNat_lt _) (UInt8.toNat_lt _) ?_
              have c0 := dm_cases a
              have c1 := dm_cases b
              have c2 := dm_cases c
              have c3 := dm_cases d
              unfold good at hall
              omega
            have hasm' := Lib.hid hasm
            clear hasm hall
            go_wp2_with fail
            go_quiet (first | (go_at_call 35; exact Calls.quiet_of ((Pdecode.base64_assemble32.calls _ _ _ _ _ _ _ hasm'.out).mono (fun e w' h => ⟨h.1, h.2.out⟩))))
            have hI := Lib.hid (dinv_draw hI'.out nq)
            generalize wp.drewN nq = wd at hI ⊢
            clear hI' hasm' k0 k1 k2 k3 p0 p1 p2 p3
            have hq := stepq (dcap := dcap - n) (scap := scap) hI.out hpre'.out (by have := hL'.out; omega) hd'.out.1 hd'.out.2.1 hn'.out hs'.out hnl'.out henc'.out hEB (by have := hL'.out; omega) hlen2
            rw [hL'.out] at hq
            have hq' := Lib.hid hq
            clear hq
            go_wp2_with fail
            refine hq'.out.mono ?_
            clear hq'
            rintro e1 w1 (⟨out', k, hk, hk3, rfl, hI1⟩ | ⟨⟨u, y, v, rfl, hy0, hy3⟩, hb1, hdn⟩)
            · have hI1' := Lib.hid hI1
              have hk' := Lib.hid hk
              clear hI1 hk
              go_wp2_with fail
              go_roundw
              case rel => exact ⟨si + 4, out', by congr 1 <;> omega, by rw [hk'.out]; congr 1 <;> omega, rfl, hI1'⟩
              case measure => simp only [RowKit.intOf]; omega
            · have hb1' := Lib.hid hb1
              have hdn' := Lib.hid hdn
              clear hb1 hdn
              go_wp2_with fail
              go_ret2
              refine ⟨hb1'.out, ?_⟩
              rw [hdn'.out]
              exact ⟨_, _, rfl⟩
        · have hsl : si = L := by
            obtain ⟨h1, h2, _⟩ := hI.out
            have h3 := hL'.out
            omega
          subst hsl
          have hn' := Lib.hid hn
          have hI0 := hI
          clear hn hI h8
          go_wp2_with fail
          go_loopw [6, 7, 8] (fun s6 s7 s8 wr => s6 = .int .i64 (n : Int) ∧ s7 = .nilIface ∧ s8 = .int .i64 (si : Int) ∧ wr = wp) (fun _ _ _ _ => 0)
          case atStart => exact ⟨rfl, rfl, rfl, rfl⟩
          case round =>
            obtain ⟨rfl, rfl, rfl, hwl⟩ := hrel
            rw [hwl]
            clear hwl
            go_wp2_with fail
            go_ret2
            obtain ⟨h1, h2, h3, h4, x, h5, h6, h7⟩ := hI0.out
            refine ⟨h4, ?_⟩
            rw [h3, ← hL'.out, List.drop_length]
            show DecD wp _ B R pre (some (out ++ []))
            rw [List.append_nil]
            exact ⟨by rw [hn'.out]; rfl, x, h5, h6⟩
end Go.Proofs.YtbjhmmiijebehaaDoor.Own
