/- strconv.FormatInt at base 16, at 16..127: two small hexadecimal digits. -/
import Derived.Test.YtoeggcckcnlllaaDoorBytes
import Derived.Lib.Walk
import Derived.Lib.ItoaMem
import Derived.Laws.IdiomStrings
import Derived.WalkKit
import Derived.WalkSpells
import Derived.WalkLawsBesides
import Derived.Lib.Hide
import Derived.BigCall
import Derived.BigGuard
import Derived.BigQuiet
import Derived.Deep.QuietTactic
import Derived.KernelRfl
namespace Go.Proofs.YtoeggcckcnlllaaDoor.Own
open Go.RowKit Go.Lib
set_option linter.unusedVariables false
set_option linter.unusedSimpArgs false

def TabBr (w : World) : Prop := w.cell? ⟨8, 15, none⟩ = some (.int .u8 4)
theorem TabBr.below {w w' : World} (h : TabBr w) (hb : Below w.heap.size w w') : TabBr w' := (hb.cell (World.block_lt_of_cell? w _ h)).trans h
theorem pow2_16 (w : World) : Calls Tryd.prog 63 #[.int .i64 16] w fun e w' => e = .returned (.bool true) ∧ Below w.heap.size w w' := by
  go_enter Tryd.func63, Tryd.ntmps63
  go_wp2_with fail
  go_ret
  exact ⟨rfl, Below.refl _ _⟩
theorem tz64_16 (w : World) (h : TabBr w) : Calls Tryd.prog 69 #[.int .u64 16] w fun e w' => e = .returned (.int .i64 4) ∧ Below w.heap.size w w' := by
  have h' : w.cell? ⟨8, 15, none⟩ = some (.int .u8 4) := h
  have e0 : IntKind.u64.wrap (-16) = 18446744073709551600 := by decide +kernel
  have e1 : bits .and .u64 16 18446744073709551600 = 16 := by decide +kernel
  have e2 : IntKind.u64.wrap (16 * 285870213051353865) / 288230376151711744 = 15 := by decide +kernel
  go_enter Tryd.func69, Tryd.ntmps69
  go_wp2_with fail
  go_ret
  exact ⟨rfl, Below.refl _ _⟩
theorem tz_16 (w : World) (h : TabBr w) : Calls Tryd.prog 64 #[.int .u64 16] w fun e w' => e = .returned (.int .i64 4) ∧ Below w.heap.size w w' := by
  have hc := Lib.hid (tz64_16 w h)
  clear h
  go_enter Tryd.func64, Tryd.ntmps64
  go_wp2_with fail
  refine hc.out.mono ?_
  rintro e w1 ⟨rfl, hb⟩
  have hb := Lib.hid hb
  go_wp2_with fail
  go_ret
  exact ⟨rfl, hb.out⟩
def lowH (n : Nat) : UInt8 := if n < 10 then UInt8.ofNat (48 + n) else UInt8.ofNat (87 + n)
theorem lowH_fin : ∀ n : Fin 16, (⟨#[48, 49, 50, 51, 52, 53, 54, 55, 56, 57, 97, 98, 99, 100, 101, 102, 103, 104, 105, 106, 107, 108, 109, 110, 111, 112, 113, 114, 115, 116, 117, 118, 119, 120, 121, 122]⟩ : ByteArray)[n.val]'(Nat.lt_trans n.isLt (by decide)) = lowH n.val := by decide +kernel
theorem lowH_get (n : Nat) (h : n < 16) (hh : n < (⟨#[48, 49, 50, 51, 52, 53, 54, 55, 56, 57, 97, 98, 99, 100, 101, 102, 103, 104, 105, 106, 107, 108, 109, 110, 111, 112, 113, 114, 115, 116, 117, 118, 119, 120, 121, 122]⟩ : ByteArray).size) : (⟨#[48, 49, 50, 51, 52, 53, 54, 55, 56, 57, 97, 98, 99, 100, 101, 102, 103, 104, 105, 106, 107, 108, 109, 110, 111, 112, 113, 114, 115, 116, 117, 118, 119, 120, 121, 122]⟩ : ByteArray)[n]'hh = lowH n := lowH_fin ⟨n, h⟩
theorem and15 : ∀ h : Nat, h < 8 → ∀ l : Nat, l < 16 → bits .and .u64 ((h * 16 + l : Nat) : Int) 15 = (l : Int) := by decide +kernel
/-- The array of digits: its last two places. -/
def Fb (w wr : World) (x y : Int) : Prop := (∃ C : Array Value, wr.heap[w.heap.size]? = some (.cells C 93 (0, 0)) ∧ C[63]? = some (.int .u8 x) ∧ C[64]? = some (.int .u8 y)) ∧ Below w.heap.size w wr
theorem Fb.below {w wr w' : World} {x y : Int} (h : Fb w wr x y) (hb : Below wr.heap.size wr w') : Fb w w' x y := by
  obtain ⟨⟨C, hC, h63, h64⟩, hw⟩ := h
  exact ⟨⟨C, (hb.block _ (Array.getElem?_eq_some_iff.1 hC).1).trans hC, h63, h64⟩, hw.trans (hb.mono hw.size)⟩
theorem Fb.at63 {w wr : World} {x y : Int} (h : Fb w wr x y) : wr.cell? ⟨w.heap.size, 63, none⟩ = some (.int .u8 x) := by
  obtain ⟨⟨C, hC, h63, h64⟩, hw⟩ := h
  simp [World.cell?, hC, h63]
theorem Fb.at64 {w wr : World} {x y : Int} (h : Fb w wr x y) : wr.cell? ⟨w.heap.size, 64, none⟩ = some (.int .u8 y) := by
  obtain ⟨⟨C, hC, h63, h64⟩, hw⟩ := h
  simp [World.cell?, hC, h64]
theorem Fb.free {w wr : World} {x y : Int} (h : Fb w wr x y) (j : Nat) : wr.frozen? ⟨w.heap.size, j, none⟩ = false := by
  obtain ⟨⟨C, hC, h63, h64⟩, hw⟩ := h
  simp [World.frozen?, hC]
theorem Fb.set63 {w wr : World} {x y : Int} (h : Fb w wr x y) (z : Int) : Fb w (wr.setCell ⟨w.heap.size, 63, none⟩ (.int .u8 z)) z y := by
  obtain ⟨⟨C, hC, h63, h64⟩, hw⟩ := h
  refine ⟨⟨C.setIfInBounds 63 (.int .u8 z), ?_, ?_, ?_⟩, hw.setCell (Nat.le_refl _) _⟩
  · simp [World.setCell, Array.getElem?_modify, hC]
  · have := (Array.getElem?_eq_some_iff.1 h63).1
    simp [this]
  · simpa using h64
theorem Fb.set64 {w wr : World} {x y : Int} (h : Fb w wr x y) (z : Int) : Fb w (wr.setCell ⟨w.heap.size, 64, none⟩ (.int .u8 z)) x z := by
  obtain ⟨⟨C, hC, h63, h64⟩, hw⟩ := h
  refine ⟨⟨C.setIfInBounds 64 (.int .u8 z), ?_, ?_, ?_⟩, hw.setCell (Nat.le_refl _) _⟩
  · simp [World.setCell, Array.getElem?_modify, hC]
  · simpa using h63
  · have := (Array.getElem?_eq_some_iff.1 h64).1
    simp [this]
set_option maxRecDepth 100000 in
theorem fbits_16 (h l : Nat) (h1 : 1 ≤ h) (h8 : h < 8) (hl : l < 16) (w : World) (htab : TabBr w) :
    Calls Tryd.prog 53 #[.slice none 0 0, .int .u64 ((h * 16 + l : Nat) : Int), .int .i64 16, .bool false, .bool false] w fun e w' => e = .returned (.tuple #[.slice none 0 0, .string ⟨#[lowH h, lowH l]⟩]) ∧ Below w.heap.size w w' := by
  have hp := Lib.hid (fun W => pow2_16 W)
  have ht := Lib.hid (fun W (hb : Below w.heap.size w W) => tz_16 W (htab.below hb))
  clear htab
  go_enter Tryd.func53, Tryd.ntmps53
  go_wp2_with fail
  refine (hp.out _).mono ?_
  rintro e w1 ⟨rfl, hb1⟩
  have hc1 := Lib.hid (Fb.below (show Fb w (w.alloc (.cells Tryd.zeroCells93 93)) 0 0 from ⟨⟨_, heap_alloc_new _ _, by kernel_rfl, by kernel_rfl⟩, (Below.refl _ _).alloc (Nat.le_refl _) _⟩) hb1)
  clear hb1
  go_wp2_with fail
  refine (ht.out _ hc1.out.2).mono ?_
  rintro e w2 ⟨rfl, hb2⟩
  have hc2 := Lib.hid (hc1.out.below hb2)
  clear hb2 hc1
  go_wp2_with fail
  have ha := Lib.hid (and15 h h8 l hl)
  go_loopw [1, 13] (fun s1 s13 wr => (s1 = .int .u64 ((h : Int) * 16 + (l : Int)) ∧ s13 = .int .i64 65 ∧ Hid (Fb w wr 0 0)) ∨ (s1 = .int .u64 (h : Int) ∧ s13 = .int .i64 64 ∧ Hid (Fb w wr 0 ((lowH l).toNat : Int)))) (fun s1 s13 _ => (RowKit.intOf s13).toNat)
  case atStart => exact .inl ⟨rfl, rfl, hc2⟩
  case round =>
    obtain ⟨wq, hwq⟩ : ∃ wq : World, wq = wr := ⟨_, rfl⟩
    rw [← hwq] at hrel ⊢
    clear hwq hc2
    rcases hrel with ⟨rfl, rfl, hF⟩ | ⟨rfl, rfl, hF⟩
    · have q1 := hF.out.at63
      have q2 := hF.out.at64
      have q3 := hF.out.free 63
      have q4 := hF.out.free 64
      have g1 : (16 : Int) ≤ (h : Int) * 16 + (l : Int) := by omega
      have g2 : bits .and .u64 ((h : Int) * 16 + (l : Int)) 15 = (l : Int) := by have := ha.out; rwa [Int.natCast_add, Int.natCast_mul] at this
      have g3 : (l : Int) < 36 := by omega
      go_wp2_with fail
      rw [lowH_get l hl]
      go_roundw
      case rel => exact .inr ⟨by congr 1; omega, rfl, Lib.hid (hF.out.set64 _)⟩
      case measure => simp [RowKit.intOf]
    · have q1 := hF.out.at63
      have q2 := hF.out.at64
      have q3 := hF.out.free 63
      have q4 := hF.out.free 64
      have g1 : ¬ (16 : Int) ≤ (h : Int) := by omega
      go_wp2_with fail
      rw [lowH_get h (by omega)]
      have hF2 := hF.out.set63 ((lowH h).toNat : Int)
      obtain ⟨W, hW⟩ : ∃ W, wq.setCell ⟨w.heap.size, 63, none⟩ (.int .u8 ((lowH h).toNat : Int)) = W := ⟨_, rfl⟩
      rw [hW] at hF2 ⊢
      have hcv := run_convert_bytes_back (P := Tryd.prog) W 32 9 5 ⟨w.heap.size, 63, none⟩ 2 [lowH h, lowH l] Tryd.underlying32 Tryd.underlying5 Tryd.underlying9 (fun j hj => by
        match j, hj with
        | 0, _ => exact hF2.at63
        | 1, _ => exact hF2.at64)
      have hb := Lib.hid hF2.2
      rw [show (Value.slice (some ⟨w.heap.size, 63, none⟩) 2 2) = .slice (some ⟨w.heap.size, 63, none⟩) ([lowH h, lowH l] : List UInt8).length 2 from rfl, hcv]
      clear hcv hF2
      go_wp2_with fail
      go_ret2
      exact ⟨rfl, hb.out⟩
set_option maxRecDepth 100000 in
theorem fmtI_in (h l : Nat) (h1 : 1 ≤ h) (h8 : h < 8) (hl : l < 16) (w : World) (htab : TabBr w) :
    Calls Tryd.prog 37 #[.int .i64 ((h * 16 + l : Nat) : Int), .int .i64 16] w fun e w' => e = .returned (.string ⟨#[lowH h, lowH l]⟩) ∧ Below w.heap.size w w' := by
  have hc := Lib.hid (fbits_16 h l h1 h8 hl w htab)
  obtain ⟨u, hu⟩ : ∃ u : Nat, u = h * 16 + l := ⟨_, rfl⟩
  have hu1 : ¬ (u : Int) < 0 := by omega
  have hu2 : IntKind.u64.wrap (u : Int) = (u : Int) := by unfold IntKind.wrap; simp [IntKind.bits, IntKind.signed]; omega
  rw [← hu] at hc ⊢
  clear htab hu
  go_enter Tryd.func37, Tryd.ntmps37
  go_wp2_with fail
  refine hc.out.mono ?_
  rintro e w1 ⟨rfl, hb⟩
  have hb := Lib.hid hb
  go_wp2_with fail
  go_ret
  exact ⟨rfl, hb.out⟩
theorem fmtI_any (c : UInt8) (h1 : 16 ≤ c.toNat) (h8 : c.toNat < 128) (w : World) (htab : TabBr w) :
    Calls Tryd.prog 25 #[.int .i64 (c.toNat : Int), .int .i64 16] w fun e w' => e = .returned (.string ⟨#[lowH (c.toNat / 16), lowH (c.toNat % 16)]⟩) ∧ Below w.heap.size w w' := by
  have hc := Lib.hid (fmtI_in (c.toNat / 16) (c.toNat % 16) (by omega) (by omega) (by omega) w htab)
  rw [show c.toNat / 16 * 16 + c.toNat % 16 = c.toNat by omega] at hc
  clear htab
  go_enter Tryd.func25, Tryd.ntmps25
  go_wp2_with fail
  refine hc.out.mono ?_
  rintro e w1 ⟨rfl, hb⟩
  have hb := Lib.hid hb
  go_wp2_with fail
  go_ret
  exact ⟨rfl, hb.out⟩
end Go.Proofs.YtoeggcckcnlllaaDoor.Own
