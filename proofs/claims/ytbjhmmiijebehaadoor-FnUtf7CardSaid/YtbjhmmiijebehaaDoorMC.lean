/- utf8.EncodeRune into a row of bytes, at an offset: every character. base64's DecodedLen at the alphabet of modified UTF-7; a row of bytes that make lays. Plain words on utf7.decode: what it makes of a shift's letters; copies between rows of bytes. No law of the program is proved here. utf7.decode's loop over code units: what one step makes. No law of the program is proved here. -/
import Derived.Test.YtbjhmmiijebehaaDoorMA
import Derived.Test.YtbjhmmiijebehaaDoorMB
import Derived.Lib.RuneBytes
import Derived.Deep.OwnRows
import Derived.Laws.CopyOwn
namespace Go.Proofs.YtbjhmmiijebehaaDoor.Own
open Go.RowKit Go.Lib
set_option linter.unusedVariables false
set_option linter.unusedSimpArgs false

theorem e8_or192 : ∀ n : Nat, n < 32 → bits .or .u8 192 (n : Int) = ((192 + n : Nat) : Int) := by decide +kernel
theorem e8_or224 : ∀ n : Nat, n < 16 → bits .or .u8 224 (n : Int) = ((224 + n : Nat) : Int) := by decide +kernel
theorem e8_or240 : ∀ n : Nat, n < 8 → bits .or .u8 240 (n : Int) = ((240 + n : Nat) : Int) := by decide +kernel
theorem e8_or128 : ∀ n : Nat, n < 64 → bits .or .u8 128 (n : Int) = ((128 + n : Nat) : Int) := by decide +kernel
theorem e8_and63 : ∀ n : Nat, n < 256 → bits .and .u8 (n : Int) 63 = ((n % 64 : Nat) : Int) := by decide +kernel
/-- The bytes of a character. -/
def enc8 (r : Nat) : List UInt8 := Lib.encodeRune (r : Int)
theorem enc8_1 (r : Nat) (h : r ≤ 127) : enc8 r = [UInt8.ofNat r] := by
  unfold enc8 Lib.encodeRune
  rw [Lib.encodeRuneZ_one (by omega) (by omega)]
  rfl
theorem enc8_2 (r : Nat) (h : 128 ≤ r) (h2 : r ≤ 2047) : enc8 r = [UInt8.ofNat (192 + r / 64), UInt8.ofNat (128 + r % 64)] := by
  unfold enc8 Lib.encodeRune
  rw [Lib.encodeRuneZ_two (by omega) (by omega)]
  rfl
theorem enc8_3 (r : Nat) (h : (2048 ≤ r ∧ r < 55296) ∨ (57343 < r ∧ r ≤ 65535)) : enc8 r = [UInt8.ofNat (224 + r / 4096), UInt8.ofNat (128 + r / 64 % 64), UInt8.ofNat (128 + r % 64)] := by
  unfold enc8 Lib.encodeRune
  rw [Lib.encodeRuneZ_three (by omega)]
  rfl
theorem enc8_4 (r : Nat) (h : 65536 ≤ r) (h2 : r ≤ 1114111) : enc8 r = [UInt8.ofNat (240 + r / 262144), UInt8.ofNat (128 + r / 4096 % 64), UInt8.ofNat (128 + r / 64 % 64), UInt8.ofNat (128 + r % 64)] := by
  unfold enc8 Lib.encodeRune
  rw [Lib.encodeRuneZ_four (by omega) (by omega)]
  rfl
theorem enc_1 (B o len cap r : Nat) (l : List UInt8) (w : World) (h : Row0 5 w B l) (ho : o + 1 ≤ l.length) (hlen : 1 ≤ len) (hr : r ≤ 127) :
    Calls Tryd.prog 25 #[.slice (some ⟨B, o, none⟩) len cap, .int .i32 (r : Int)] w fun e w' => e = .returned (.int .i64 1) ∧ w' = w.setCell ⟨B, o, none⟩ (.int .u8 (r : Int)) := by
  obtain ⟨c0, hc0⟩ : ∃ c, l[o]? = some c := ⟨_, List.getElem?_eq_getElem (by omega)⟩
  have q0 := h.cell hc0
  have f0 := h.free o
  have g0 : (0 : Int) < (len : Int) := by omega
  have w0 : IntKind.u32.wrap (r : Int) = (r : Int) := by rw [IntKind.wrap_u32']; omega
  have w1 : (r : Int) % 4294967296 = (r : Int) := by omega
  have w2 : (r : Int) % 256 = (r : Int) := by omega
  have g1 : (r : Int) ≤ 127 := by omega
  clear h hc0 hr ho hlen
  go_enter Tryd.func25, Tryd.ntmps25
  go_wp2_with fail
  go_ret
  exact ⟨rfl, rfl⟩
theorem enc_2 (B o len cap r : Nat) (l : List UInt8) (w : World) (h : Row0 5 w B l) (ho : o + 2 ≤ l.length) (hlen : 2 ≤ len) (hr : 128 ≤ r) (hr2 : r ≤ 2047) :
    Calls Tryd.prog 37 #[.slice (some ⟨B, o, none⟩) len cap, .int .i32 (r : Int)] w fun e w' => e = .returned (.int .i64 2) ∧
      w' = (w.setCell ⟨B, o, none⟩ (.int .u8 ((192 + r / 64 : Nat) : Int))).setCell ⟨B, o + 1, none⟩ (.int .u8 ((128 + r % 64 : Nat) : Int)) := by
  obtain ⟨c0, hc0⟩ : ∃ c, l[o]? = some c := ⟨_, List.getElem?_eq_getElem (by omega)⟩
  obtain ⟨c1, hc1⟩ : ∃ c, l[o + 1]? = some c := ⟨_, List.getElem?_eq_getElem (by omega)⟩
  have q0 := h.cell hc0
  have f0 := h.free o
  have q1 := h.cell hc1
  have f1 := h.free (o + 1)
  have g0 : (0 : Int) < (len : Int) := by omega
  have g1 : (1 : Int) < (len : Int) := by omega
  have w1 : (r : Int) % 4294967296 = (r : Int) := by omega
  have g2 : (r : Int) ≤ 2047 := by omega
  have a0 : bits .or .u8 192 ((r : Int) / 64 % 256) = ((192 + r / 64 : Nat) : Int) := by rw [show ((r : Int) / 64 % 256) = ((r / 64 : Nat) : Int) by omega]; exact e8_or192 _ (by omega)
  have a1 : bits .and .u8 ((r : Int) % 256) 63 = ((r % 64 : Nat) : Int) := by rw [show ((r : Int) % 256) = ((r % 256 : Nat) : Int) by omega, e8_and63 _ (by omega)]; congr 1; omega
  have a2 : bits .or .u8 128 ((r % 64 : Nat) : Int) = ((128 + r % 64 : Nat) : Int) := e8_or128 _ (by omega)
  clear h hc0 hc1 hr ho hlen hr2
  go_enter Tryd.func37, Tryd.ntmps37
  go_wp2_with fail
  go_ret
  exact ⟨rfl, rfl⟩
theorem enc_3 (B o len cap r : Nat) (l : List UInt8) (w : World) (h : Row0 5 w B l) (ho : o + 3 ≤ l.length) (hlen : 3 ≤ len) (hr : (2048 ≤ r ∧ r < 55296) ∨ (57343 < r ∧ r ≤ 65535)) :
    Calls Tryd.prog 37 #[.slice (some ⟨B, o, none⟩) len cap, .int .i32 (r : Int)] w fun e w' => e = .returned (.int .i64 3) ∧
      w' = ((w.setCell ⟨B, o, none⟩ (.int .u8 ((224 + r / 4096 : Nat) : Int))).setCell ⟨B, o + 1, none⟩ (.int .u8 ((128 + r / 64 % 64 : Nat) : Int))).setCell ⟨B, o + 2, none⟩ (.int .u8 ((128 + r % 64 : Nat) : Int)) := by
  obtain ⟨c0, hc0⟩ : ∃ c, l[o]? = some c := ⟨_, List.getElem?_eq_getElem (by omega)⟩
  obtain ⟨c1, hc1⟩ : ∃ c, l[o + 1]? = some c := ⟨_, List.getElem?_eq_getElem (by omega)⟩
  obtain ⟨c2, hc2⟩ : ∃ c, l[o + 2]? = some c := ⟨_, List.getElem?_eq_getElem (by omega)⟩
  have q0 := h.cell hc0
  have f0 := h.free o
  have q1 := h.cell hc1
  have f1 := h.free (o + 1)
  have q2 := h.cell hc2
  have f2 := h.free (o + 2)
  have g0 : (0 : Int) < (len : Int) := by omega
  have g1 : (1 : Int) < (len : Int) := by omega
  have g3 : (2 : Int) < (len : Int) := by omega
  have w1 : (r : Int) % 4294967296 = (r : Int) := by omega
  have g2 : ¬ (r : Int) ≤ 2047 := by omega
  have a0 : bits .or .u8 224 ((r : Int) / 4096 % 256) = ((224 + r / 4096 : Nat) : Int) := by rw [show ((r : Int) / 4096 % 256) = ((r / 4096 : Nat) : Int) by omega]; exact e8_or224 _ (by omega)
  have a1 : bits .and .u8 ((r : Int) % 256) 63 = ((r % 64 : Nat) : Int) := by rw [show ((r : Int) % 256) = ((r % 256 : Nat) : Int) by omega, e8_and63 _ (by omega)]; congr 1; omega
  have a2 : bits .or .u8 128 ((r % 64 : Nat) : Int) = ((128 + r % 64 : Nat) : Int) := e8_or128 _ (by omega)
  have a3 : bits .and .u8 ((r : Int) / 64 % 256) 63 = ((r / 64 % 64 : Nat) : Int) := by rw [show ((r : Int) / 64 % 256) = ((r / 64 % 256 : Nat) : Int) by omega, e8_and63 _ (by omega)]; congr 1; omega
  have a4 : bits .or .u8 128 ((r / 64 % 64 : Nat) : Int) = ((128 + r / 64 % 64 : Nat) : Int) := e8_or128 _ (by omega)
  clear h hc0 hc1 hc2 ho hlen
  rcases hr with hr | hr
  · have g4 : (r : Int) < 55296 := by omega
    clear hr
    go_enter Tryd.func37, Tryd.ntmps37
    go_wp2_with fail
    go_ret
    exact ⟨rfl, rfl⟩
  · have g4 : ¬ (r : Int) < 55296 := by omega
    have g5 : (57343 : Int) < (r : Int) := by omega
    have g6 : (r : Int) ≤ 65535 := by omega
    clear hr
    go_enter Tryd.func37, Tryd.ntmps37
    go_wp2_with fail
    go_ret
    exact ⟨rfl, rfl⟩
set_option maxRecDepth 100000 in
theorem enc_4 (B o len cap r : Nat) (l : List UInt8) (w : World) (h : Row0 5 w B l) (ho : o + 4 ≤ l.length) (hlen : 4 ≤ len) (hr : 65536 ≤ r) (hr2 : r ≤ 1114111) :
    Calls Tryd.prog 37 #[.slice (some ⟨B, o, none⟩) len cap, .int .i32 (r : Int)] w fun e w' => e = .returned (.int .i64 4) ∧
      w' = (((w.setCell ⟨B, o, none⟩ (.int .u8 ((240 + r / 262144 : Nat) : Int))).setCell ⟨B, o + 1, none⟩ (.int .u8 ((128 + r / 4096 % 64 : Nat) : Int))).setCell ⟨B, o + 2, none⟩ (.int .u8 ((128 + r / 64 % 64 : Nat) : Int))).setCell ⟨B, o + 3, none⟩ (.int .u8 ((128 + r % 64 : Nat) : Int)) := by
  obtain ⟨c0, hc0⟩ : ∃ c, l[o]? = some c := ⟨_, List.getElem?_eq_getElem (by omega)⟩
  obtain ⟨c1, hc1⟩ : ∃ c, l[o + 1]? = some c := ⟨_, List.getElem?_eq_getElem (by omega)⟩
  obtain ⟨c2, hc2⟩ : ∃ c, l[o + 2]? = some c := ⟨_, List.getElem?_eq_getElem (by omega)⟩
  obtain ⟨c3, hc3⟩ : ∃ c, l[o + 3]? = some c := ⟨_, List.getElem?_eq_getElem (by omega)⟩
  have q0 := h.cell hc0
  have f0 := h.free o
  have q1 := h.cell hc1
  have f1 := h.free (o + 1)
  have q2 := h.cell hc2
  have f2 := h.free (o + 2)
  have q3 := h.cell hc3
  have f3 := h.free (o + 3)
  have g0 : (0 : Int) < (len : Int) := by omega
  have g1 : (1 : Int) < (len : Int) := by omega
  have g3 : (2 : Int) < (len : Int) := by omega
  have g7 : (3 : Int) < (len : Int) := by omega
  have w1 : (r : Int) % 4294967296 = (r : Int) := by omega
  have a0 : bits .or .u8 240 ((r : Int) / 262144 % 256) = ((240 + r / 262144 : Nat) : Int) := by rw [show ((r : Int) / 262144 % 256) = ((r / 262144 : Nat) : Int) by omega]; exact e8_or240 _ (by omega)
  have a1 : bits .and .u8 ((r : Int) % 256) 63 = ((r % 64 : Nat) : Int) := by rw [show ((r : Int) % 256) = ((r % 256 : Nat) : Int) by omega, e8_and63 _ (by omega)]; congr 1; omega
  have a2 : bits .or .u8 128 ((r % 64 : Nat) : Int) = ((128 + r % 64 : Nat) : Int) := e8_or128 _ (by omega)
  have a3 : bits .and .u8 ((r : Int) / 64 % 256) 63 = ((r / 64 % 64 : Nat) : Int) := by rw [show ((r : Int) / 64 % 256) = ((r / 64 % 256 : Nat) : Int) by omega, e8_and63 _ (by omega)]; congr 1; omega
  have a4 : bits .or .u8 128 ((r / 64 % 64 : Nat) : Int) = ((128 + r / 64 % 64 : Nat) : Int) := e8_or128 _ (by omega)
  have a5 : bits .and .u8 ((r : Int) / 4096 % 256) 63 = ((r / 4096 % 64 : Nat) : Int) := by rw [show ((r : Int) / 4096 % 256) = ((r / 4096 % 256 : Nat) : Int) by omega, e8_and63 _ (by omega)]; congr 1; omega
  have a6 : bits .or .u8 128 ((r / 4096 % 64 : Nat) : Int) = ((128 + r / 4096 % 64 : Nat) : Int) := e8_or128 _ (by omega)
  have d2 : decide ((r : Int) ≤ 2047) = false := decide_eq_false (by omega)
  have d4 : decide ((r : Int) < 55296) = false := decide_eq_false (by omega)
  have d5 : decide ((57343 : Int) < (r : Int)) = true := decide_eq_true (by omega)
  have d6 : decide ((r : Int) ≤ 65535) = false := decide_eq_false (by omega)
  have d7 : decide ((65535 : Int) < (r : Int)) = true := decide_eq_true (by omega)
  have d8 : decide ((r : Int) ≤ 1114111) = true := decide_eq_true (by omega)
  clear h hc0 hc1 hc2 hc3 ho hlen hr hr2
  go_enter Tryd.func37, Tryd.ntmps37
  go_wp2_with fail
  go_ret
  exact ⟨rfl, rfl⟩
set_option maxRecDepth 100000 in
theorem enc_on (w : World) (p : Value) (r : Nat) (hr : 128 ≤ r) (hr2 : r ≤ 1114111) (k : Nat) (Q : World → Prop)
    (hc : Calls Tryd.prog 37 #[p, .int .i32 (r : Int)] w fun e w' => e = .returned (.int .i64 (k : Int)) ∧ Q w') :
    Calls Tryd.prog 25 #[p, .int .i32 (r : Int)] w fun e w' => e = .returned (.int .i64 (k : Int)) ∧ Q w' := by
  have w1 : (r : Int) % 4294967296 = (r : Int) := by omega
  have g1 : ¬ (r : Int) ≤ 127 := by omega
  have hc' := Lib.hid hc
  clear hc hr hr2
  go_enter Tryd.func25, Tryd.ntmps25
  go_wp2_with fail
  refine hc'.out.mono ?_
  rintro e w' ⟨rfl, hQ⟩
  have hQ' := Lib.hid hQ
  clear hQ
  go_wp2_with fail
  go_ret
  exact ⟨rfl, hQ'.out⟩
/-- A character that is no half of a pair. -/
def Chr (r : Nat) : Prop := r < 55296 ∨ (57343 < r ∧ r ≤ 1114111)
theorem u8int (n : Nat) (h : n < 256) : (n : Int) = ((UInt8.ofNat n).toNat : Int) := by rw [UInt8.toNat_ofNat']; omega
theorem put_at (pre l : List UInt8) (o j : Nat) (v : UInt8) (hp : pre.length = o) : (pre ++ l).set (o + j) v = pre ++ l.set j v := by
  rw [List.set_append_right _ _ (by omega), hp, Nat.add_sub_cancel_left]
theorem But.put {B : Nat} {w w' : World} (h : But B w w') (j : Nat) (v : Value) : But B w (w'.setCell ⟨B, j, none⟩ v) := h.trans (But.setCell B j w' v)
set_option maxRecDepth 100000 in
theorem encRune_any (B o len cap r : Nat) (pre l : List UInt8) (w : World) (h : Row0 5 w B (pre ++ l)) (ho : pre.length = o) (hr : Chr r) (hroom : (enc8 r).length ≤ l.length) (hlen : (enc8 r).length ≤ len) :
    Calls Tryd.prog 25 #[.slice (some ⟨B, o, none⟩) len cap, .int .i32 (r : Int)] w fun e w' => e = .returned (.int .i64 ((enc8 r).length : Int)) ∧ But B w w' ∧ Row0 5 w' B (pre ++ enc8 r ++ l.drop (enc8 r).length) := by
  unfold Chr at hr
  by_cases h1 : r ≤ 127
  · rw [enc8_1 r h1] at hroom hlen ⊢
    rcases l with _ | ⟨x0, l⟩ <;> (try (simp at hroom; done))
    refine (enc_1 B o len cap r _ w h (by simp; omega) hlen h1).mono ?_
    rintro e w' ⟨rfl, rfl⟩
    refine ⟨rfl, (But.refl _ _).put _ _, ?_⟩
    rw [u8int r (by omega)]
    have h5 := h.set o (UInt8.ofNat r)
    rw [show (pre ++ x0 :: l).set o (UInt8.ofNat r) = _ from put_at pre _ o 0 _ ho] at h5
    simpa using h5
  by_cases h2 : r ≤ 2047
  · rw [enc8_2 r (by omega) h2] at hroom hlen ⊢
    rcases l with _ | ⟨x0, _ | ⟨x1, l⟩⟩ <;> (try (simp at hroom; done))
    refine enc_on w _ r (by omega) (by omega) 2 (fun w' => But B w w' ∧ _) ((enc_2 B o len cap r _ w h (by simp; omega) hlen (by omega) h2).mono ?_)
    rintro e w' ⟨rfl, rfl⟩
    refine ⟨rfl, ((But.refl _ _).put _ _).put _ _, ?_⟩
    rw [u8int (192 + r / 64) (by omega), u8int (128 + r % 64) (by omega)]
    have h5 := (h.set o (UInt8.ofNat (192 + r / 64))).set (o + 1) (UInt8.ofNat (128 + r % 64))
    rw [show (pre ++ x0 :: x1 :: l).set o _ = _ from put_at pre _ o 0 _ ho, put_at pre _ o 1 _ ho] at h5
    simpa using h5
  by_cases h3 : r ≤ 65535
  · rw [enc8_3 r (by omega)] at hroom hlen ⊢
    rcases l with _ | ⟨x0, _ | ⟨x1, _ | ⟨x2, l⟩⟩⟩ <;> (try (simp at hroom; done))
    refine enc_on w _ r (by omega) (by omega) 3 (fun w' => But B w w' ∧ _) ((enc_3 B o len cap r _ w h (by simp; omega) hlen (by omega)).mono ?_)
    rintro e w' ⟨rfl, rfl⟩
    refine ⟨rfl, (((But.refl _ _).put _ _).put _ _).put _ _, ?_⟩
    rw [u8int (224 + r / 4096) (by omega), u8int (128 + r / 64 % 64) (by omega), u8int (128 + r % 64) (by omega)]
    have h5 := ((h.set o (UInt8.ofNat (224 + r / 4096))).set (o + 1) (UInt8.ofNat (128 + r / 64 % 64))).set (o + 2) (UInt8.ofNat (128 + r % 64))
    rw [show (pre ++ x0 :: x1 :: x2 :: l).set o _ = _ from put_at pre _ o 0 _ ho, put_at pre _ o 1 _ ho, put_at pre _ o 2 _ ho] at h5
    simpa using h5
  · rw [enc8_4 r (by omega) (by omega)] at hroom hlen ⊢
    rcases l with _ | ⟨x0, _ | ⟨x1, _ | ⟨x2, _ | ⟨x3, l⟩⟩⟩⟩ <;> (try (simp at hroom; done))
    refine enc_on w _ r (by omega) (by omega) 4 (fun w' => But B w w' ∧ _) ((enc_4 B o len cap r _ w h (by simp; omega) hlen (by omega) (by omega)).mono ?_)
    rintro e w' ⟨rfl, rfl⟩
    refine ⟨rfl, ((((But.refl _ _).put _ _).put _ _).put _ _).put _ _, ?_⟩
    rw [u8int (240 + r / 262144) (by omega), u8int (128 + r / 4096 % 64) (by omega), u8int (128 + r / 64 % 64) (by omega), u8int (128 + r % 64) (by omega)]
    have h5 := (((h.set o (UInt8.ofNat (240 + r / 262144))).set (o + 1) (UInt8.ofNat (128 + r / 4096 % 64))).set (o + 2) (UInt8.ofNat (128 + r / 64 % 64))).set (o + 3) (UInt8.ofNat (128 + r % 64))
    rw [show (pre ++ x0 :: x1 :: x2 :: x3 :: l).set o _ = _ from put_at pre _ o 0 _ ho, put_at pre _ o 1 _ ho, put_at pre _ o 2 _ ho, put_at pre _ o 3 _ ho] at h5
    simpa using h5
end Go.Proofs.YtbjhmmiijebehaaDoor.Own

namespace Go.Proofs.YtbjhmmiijebehaaDoor.Own
open Go.RowKit Go.Lib
set_option linter.unusedVariables false
set_option linter.unusedSimpArgs false

theorem info_u8z : (Tryd.prog.info? 5).map (fun i => (i.zero, i.size, i.bytes)) = some (some (.int .u8 0), 1, 1) := by kernel_rfl
theorem make_u8 (N : Nat) (hN : N ≤ 1000000) (W : World) : (Instr.makeSlice 38 (.int .i64 (N : Int)) (.int .i64 (N : Int))).run Tryd.prog W =
    .ok (.slice (some ⟨W.heap.size, 0, none⟩) N N) (W.alloc (.cells (madeCells #[.int .u8 0] N) 5)) :=
  run_make_row' 38 5 (.int .u8 0) 1 Tryd.underlying38 info_u8z rfl .i64 .i64 N (by omega) (by omega) W
theorem row_made (W : World) (N : Nat) : Row0 5 (W.alloc (.cells (madeCells #[.int .u8 0] N) 5)) W.heap.size (List.replicate N 0) := by
  refine ⟨_, heap_alloc_new _ _, by simp [madeCells], fun j c hj => ?_⟩
  by_cases h : j < N
  · rw [List.getElem?_replicate, if_pos h] at hj
    cases hj
    simp [madeCells, h, Nat.mod_one]
  · rw [List.getElem?_replicate, if_neg h] at hj
    cases hj
theorem decLen_any (w : World) (E n : Nat) (hn : n ≤ 100000) (he : EncAt w E 64) :
    Calls Tryd.prog 21 #[.pointer (some ⟨E, 0, none⟩), .int .i64 (n : Int)] w fun e w' => e = .returned (.int .i64 ((n / 4 * 3 : Nat) : Int)) ∧ Below w.heap.size w w' := by
  have q5 := he.pad
  have hf : Pdecode.base64_decodedLen.f (n : Int) 61 = some ((n / 4 * 3 : Nat) : Int) := by
    unfold Pdecode.base64_decodedLen.f
    rw [if_neg (by omega)]
    have e1 : Int.tdiv (n : Int) 4 = ((n / 4 : Nat) : Int) := by rw [Int.tdiv_eq_ediv_of_nonneg (by omega)]; omega
    rw [e1]
    congr 1
    unfold wrap64
    omega
  have hc := Lib.hid (fun W => Pdecode.base64_decodedLen.calls _ _ _ W hf)
  clear he hf
  go_enter Tryd.func21, Tryd.ntmps21
  go_wp2_with fail
  refine (hc.out _).mono ?_
  rintro e w1 ⟨rfl, hd⟩
  have hb := Lib.hid hd.below
  clear hd
  go_wp2_with fail
  go_ret
  exact ⟨rfl, hb.out⟩
end Go.Proofs.YtbjhmmiijebehaaDoor.Own

namespace Go.Proofs.YtbjhmmiijebehaaDoor.Own
open Go.RowKit Go.Lib
set_option linter.unusedVariables false
set_option linter.unusedSimpArgs false

/-- The letters with their padding, as the code lays it. -/
def padT (T : List UInt8) : List UInt8 := T ++ (if T.length % 4 = 0 then [] else if T.length % 4 = 3 then [61] else if T.length % 4 = 2 then [61, 61] else [61, 61, 0])
/-- The bytes' code units, two bytes a unit, as UTF-8; none if they are no text, or stand for printable ASCII. -/
def u16 : List UInt8 → Option (List UInt8)
  | [] => some []
  | [_] => none
  | [h, l] => if 55296 ≤ h.toNat * 256 + l.toNat ∧ h.toNat * 256 + l.toNat < 57344 then none else if 32 ≤ h.toNat * 256 + l.toNat ∧ h.toNat * 256 + l.toNat ≤ 126 then none else some (enc8 (h.toNat * 256 + l.toNat))
  | [h, l, _] => none
  | h :: l :: h2 :: l2 :: t =>
    if 55296 ≤ h.toNat * 256 + l.toNat ∧ h.toNat * 256 + l.toNat < 57344 then
      (if h.toNat * 256 + l.toNat < 56320 ∧ 56320 ≤ h2.toNat * 256 + l2.toNat ∧ h2.toNat * 256 + l2.toNat < 57344 then
        (u16 t).map (enc8 (65536 + (h.toNat * 256 + l.toNat - 55296) * 1024 + (h2.toNat * 256 + l2.toNat - 56320)) ++ ·) else none)
    else if 32 ≤ h.toNat * 256 + l.toNat ∧ h.toNat * 256 + l.toNat ≤ 126 then none else (u16 (h2 :: l2 :: t)).map (enc8 (h.toNat * 256 + l.toNat) ++ ·)
def codeU (T : List UInt8) : Option (List UInt8) :=
  if T.getLast? = some 61 then none else match dec64 (padT T) with
    | none => none
    | some bs => if bs.length % 2 = 1 then none else u16 bs
theorem setRow_but (W : World) (B : Nat) (cs : Array Value) : But B W (W.setRow B cs) := ⟨rfl, rfl, rfl, by simp, fun k hk hn => setRow_other W B k cs hn⟩
theorem run_copy_bytes (W : World) (B o dLen dCap Bs so sLen sCap : Nat) (pre old suf xs : List UInt8) (h : Row0 5 W B (pre ++ old ++ suf)) (hpre : pre.length = o) (hold : xs.length = old.length) (hmin : xs.length = Nat.min sLen dLen)
    (hsrc : ∀ i x, xs[i]? = some x → W.cell? ⟨Bs, so + i, none⟩ = some (.int .u8 (x.toNat : Int))) :
    ∃ W', (Builtin.copy_ #[38, 38] 3 #[.slice (some ⟨B, o, none⟩) dLen dCap, .slice (some ⟨Bs, so, none⟩) sLen sCap]).run Tryd.prog W = .ok (goInt xs.length) W' ∧ Row0 5 W' B (pre ++ xs ++ suf) ∧ But B W W' := by
  obtain ⟨C, hC, hn, hc⟩ := h
  have hl : (Lib.byteCells xs).length = xs.length := by rw [Lib.byteCells_length]
  have hrun := run_copy_row (P := Tryd.prog) W 38 38 3 5 B o dLen dCap ⟨Bs, so, none⟩ sLen sCap C 5 (Lib.byteCells xs) Tryd.underlying38 (by kernel_rfl) hC (by rw [hl]; exact hmin) (fun j v hv => by
    have hadd : (⟨Bs, so, none⟩ : Addr).add j = ⟨Bs, so + j, none⟩ := by unfold Addr.add; split <;> simp_all
    rw [hadd]
    unfold Lib.byteCells at hv
    rw [List.getElem?_map, Option.map_eq_some_iff] at hv
    obtain ⟨x, hx, rfl⟩ := hv
    exact hsrc j x hx) (by rw [hl]; simp at hn; omega) (fun v hv => byteCells_one _ v hv)
  rw [hl] at hrun
  refine ⟨_, hrun, ⟨_, setRow_heap _ _ _ _ _ _ hC, ?_, ?_⟩, setRow_but _ _ _⟩
  · simp [hl] at hn ⊢; omega
  · intro j c hj
    have hn' : C.size = o + xs.length + suf.length := by simp at hn; omega
    simp only [List.getElem?_toArray]
    rw [List.append_assoc]
    by_cases h1 : j < o
    · rw [List.getElem?_append_left (by simp; omega), List.getElem?_take_of_lt h1]
      rw [List.append_assoc, List.getElem?_append_left (by omega)] at hj
      have := hc j c (by rw [List.append_assoc, List.getElem?_append_left (by omega)]; exact hj)
      simpa using this
    · rw [List.getElem?_append_right (by simp; omega)]
      simp only [List.length_take, Array.length_toList]
      rw [show min o C.size = o by omega]
      by_cases h2 : j < o + xs.length
      · rw [List.getElem?_append_left (by rw [hl]; omega)]
        rw [List.append_assoc, List.getElem?_append_right (by omega), List.getElem?_append_left (by omega), hpre] at hj
        unfold Lib.byteCells
        rw [List.getElem?_map, hj]; rfl
      · rw [List.getElem?_append_right (by rw [hl]; omega), hl, List.getElem?_drop]
        rw [List.append_assoc, List.getElem?_append_right (by omega), List.getElem?_append_right (by omega)] at hj
        have := hc j c (by rw [List.append_assoc, List.getElem?_append_right (by omega), List.getElem?_append_right (by omega), ← hold]; exact hj)
        rw [show o + xs.length + (j - o - xs.length) = j by omega]
        simpa using this
end Go.Proofs.YtbjhmmiijebehaaDoor.Own

namespace Go.Proofs.YtbjhmmiijebehaaDoor.Own
open Go.RowKit Go.Lib
set_option linter.unusedVariables false
set_option linter.unusedSimpArgs false

def un (h l : UInt8) : Nat := h.toNat * 256 + l.toNat
theorem un_lt (h l : UInt8) : un h l < 65536 := by
  have := UInt8.toNat_lt h; have := UInt8.toNat_lt l; unfold un; omega
theorem u16_cons (h l : UInt8) (t : List UInt8) (hs : ¬ (55296 ≤ un h l ∧ un h l < 57344)) : u16 (h :: l :: t) = if 32 ≤ un h l ∧ un h l ≤ 126 then none else (u16 t).map (enc8 (un h l) ++ ·) := by
  unfold un at hs ⊢
  match t with
  | [] =>
    conv => lhs; rw [u16]
    rw [if_neg hs]
    split
    · rfl
    · simp [u16]
  | [x] => simp [u16]
  | h2 :: l2 :: t =>
    conv => lhs; rw [u16]
    rw [if_neg hs]
theorem u16_sur1 (h l : UInt8) (hs : 55296 ≤ un h l ∧ un h l < 57344) : u16 [h, l] = none := by
  unfold un at hs
  rw [u16, if_pos hs]
theorem u16_sur2 (h l h2 l2 : UInt8) (t : List UInt8) (hs : 55296 ≤ un h l ∧ un h l < 57344) : u16 (h :: l :: h2 :: l2 :: t) =
    if un h l < 56320 ∧ 56320 ≤ un h2 l2 ∧ un h2 l2 < 57344 then (u16 t).map (enc8 (65536 + (un h l - 55296) * 1024 + (un h2 l2 - 56320)) ++ ·) else none := by
  unfold un at hs ⊢
  rw [u16, if_pos hs]
theorem un_or (h l : UInt8) : bits .or .i32 ((h.toNat : Int) * 256) (l.toNat : Int) = (un h l : Int) := by
  have h1 := UInt8.toNat_lt h
  have h2 := UInt8.toNat_lt l
  have hw : ∀ n : Int, 0 ≤ n → n < 2 ^ 16 → IntKind.i32.wrap n = n := fun n h0 h1 => by unfold IntKind.wrap; simp [IntKind.bits, IntKind.signed]; omega
  rw [bits_join .i32 16 (by decide) hw 8 _ _ (by omega) (by omega) (by omega) (by omega) (by omega) (by omega)]
  unfold un
  omega
theorem enc8_len (r : Nat) (hr : r ≤ 1114111) : (enc8 r).length ≤ 4 ∧ (r < 65536 → (enc8 r).length ≤ 3) := by
  unfold enc8 Lib.encodeRune
  rw [List.length_map]
  refine ⟨(Lib.encodeRuneZ_length _).2, fun h => ?_⟩
  unfold Lib.encodeRuneZ
  split
  · simp
  · split
    · simp
    · split
      · simp
      · rw [if_neg (by omega)]; simp
theorem dec64_len : ∀ (P bs : List UInt8), dec64 P = some bs → 4 * bs.length ≤ 3 * P.length
  | [], bs, h => by cases h; simp
  | [_], bs, h => by cases h
  | [_, _], bs, h => by cases h
  | [_, _, _], bs, h => by cases h
  | a :: b :: c :: d :: t, bs, h => by
    rcases hq : qd (a :: b :: c :: d :: t) with _ | q
    · rw [dec64_none a b c d t hq] at h; cases h
    · rw [dec64_some a b c d t q hq] at h
      rcases ht : dec64 t with _ | r
      · rw [ht] at h; cases h
      · rw [ht] at h
        cases h
        have ih := dec64_len t r ht
        have hl := qd_len a b c d t q hq
        simp
        omega
/-- Behind p bytes of units: the text out. -/
def Uinv (w wr : World) (B R : Nat) (pre bs out : List UInt8) (p : Nat) : Prop :=
  p ≤ bs.length ∧ p % 2 = 0 ∧ u16 bs = (u16 (bs.drop p)).map (out ++ ·) ∧ Below w.heap.size w wr ∧ ∃ x, Row0 5 wr B (pre ++ bs ++ out ++ x) ∧ bs.length + out.length + x.length = R ∧ 3 * (bs.length - p) ≤ 2 * x.length
theorem uinv_draw {w wr : World} {B R p : Nat} {pre bs out : List UInt8} (h : Uinv w wr B R pre bs out p) (m : Nat) : Uinv w (wr.drewN m) B R pre bs out p := by
  obtain ⟨h1, h2, h3, h4, x, h5, h6, h7⟩ := h
  exact ⟨h1, h2, h3, h4.trans ⟨rfl, rfl, rfl, Nat.le_refl _, fun _ _ => rfl⟩, x, h5, h6, h7⟩
theorem uinv_below {w wr W : World} {B R p : Nat} {pre bs out : List UInt8} (h : Uinv w wr B R pre bs out p) (hb : Below wr.heap.size wr W) : Uinv w W B R pre bs out p := by
  obtain ⟨h1, h2, h3, h4, x, h5, h6, h7⟩ := h
  exact ⟨h1, h2, h3, h4.trans (hb.mono h4.size), x, h5.below hb, h6, h7⟩
theorem stepE {w wr : World} {B R o n j p p' r dcap : Nat} {pre bs out : List UInt8} (h : Uinv w wr B R pre bs out p) (hpre : pre.length = o) (hn : bs.length = n) (hj : out.length = j) (hB : w.heap.size ≤ B)
    (hp : p + 2 ≤ p') (hp' : p' ≤ n) (he : p' % 2 = 0) (hr : Chr r) (hl : 2 * (enc8 r).length ≤ 3 * (p' - p)) (hu : u16 (bs.drop p) = (u16 (bs.drop p')).map (enc8 r ++ ·)) :
    Calls Tryd.prog 25 #[.slice (some ⟨B, o + n + j, none⟩) (R - n - j) dcap, .int .i32 (r : Int)] wr fun e w' => ∃ (k : Nat) (out' : List UInt8), e = .returned (.int .i64 (k : Int)) ∧ k ≤ 4 ∧ out'.length = j + k ∧ Uinv w w' B R pre bs out' p' := by
  obtain ⟨h1, h2, h3, h4, x, h5, h6, h7⟩ := h
  have hr2 : r ≤ 1114111 := by unfold Chr at hr; omega
  have hpl : (pre ++ bs ++ out).length = o + n + j := by simp; omega
  refine (encRune_any B (o + n + j) (R - n - j) dcap r (pre ++ bs ++ out) x wr h5 hpl hr (by omega) (by omega)).mono ?_
  rintro e w' ⟨rfl, hb, hrow⟩
  refine ⟨_, out ++ enc8 r, rfl, (enc8_len r hr2).1, by simp; omega, by omega, he, ?_, hb.below h4 hB, x.drop (enc8 r).length, by simpa using hrow, by simp; omega, by simp; omega⟩
  rw [h3, hu]
  cases u16 (bs.drop p') <;> simp
end Go.Proofs.YtbjhmmiijebehaaDoor.Own
