/- The four variables of spec.Utf7Of's closures, each a block of one cell; and what the closures do, in plain words. No law of the program is proved here. spec.Utf7Of's closure unit, by hand: sixteen bits more, and the letters of as many sixes as there are. spec.Utf7Of's closure shut, by hand: the bits that are left as one letter, and a hyphen. -/
import Derived.Test.YtbjhmmiijebehaaDoorMJ
import Derived.WalkKit
import Derived.Deep.QuietTactic
import Derived.BigQuiet
namespace Go.Proofs.YtbjhmmiijebehaaDoor.Own
open Go.RowKit Go.Lib
set_option linter.unusedVariables false
set_option linter.unusedSimpArgs false

/-- Block B holds one cell. -/
def One (w : World) (B : Nat) (e : TypeId) (v : Value) : Prop := w.heap[B]? = some (.cells #[v] e (0, 0))
theorem One.lt {w : World} {B : Nat} {e : TypeId} {v : Value} (h : One w B e v) : B < w.heap.size := (Array.getElem?_eq_some_iff.1 h).1
theorem One.cell {w : World} {B : Nat} {e : TypeId} {v : Value} (h : One w B e v) : w.cell? ⟨B, 0, none⟩ = some v := by
  unfold One at h; simp [World.cell?, h]
theorem One.free {w : World} {B : Nat} {e : TypeId} {v : Value} (h : One w B e v) : w.frozen? ⟨B, 0, none⟩ = false := by
  unfold One at h; simp [World.frozen?, h]
theorem One.set {w : World} {B : Nat} {e : TypeId} {v : Value} (h : One w B e v) (v' : Value) : One (w.setCell ⟨B, 0, none⟩ v') B e v' := by
  unfold One at h ⊢; simp [World.setCell, Array.getElem?_modify, h]
theorem One.other {w : World} {B : Nat} {e : TypeId} {v : Value} (h : One w B e v) {B' : Nat} (hn : B' ≠ B) (v' : Value) : One (w.setCell ⟨B', 0, none⟩ v') B e v := by
  unfold One at h ⊢; simp [World.setCell, Array.getElem?_modify, h, hn]
theorem One.drew {w : World} {B : Nat} {e : TypeId} {v : Value} (h : One w B e v) : One w.drew B e v := h
theorem One.below {w W : World} {B : Nat} {e : TypeId} {v : Value} (h : One w B e v) (hb : Below w.heap.size w W) : One W B e v := (hb.block B h.lt).trans h

/-- out, bits, many and in, in the blocks b0, b1, b2, b3. -/
structure US (w : World) (b0 b1 b2 b3 : Nat) (out : List UInt8) (bits many : Nat) (inn : Bool) : Prop where
  c0 : One w b0 9 (.string ⟨out.toArray⟩)
  c1 : One w b1 33 (.int .u32 bits)
  c2 : One w b2 3 (.int .i64 many)
  c3 : One w b3 4 (.bool inn)
structure Ap4 (b0 b1 b2 b3 : Nat) : Prop where
  n01 : b0 ≠ b1
  n02 : b0 ≠ b2
  n03 : b0 ≠ b3
  n12 : b1 ≠ b2
  n13 : b1 ≠ b3
  n23 : b2 ≠ b3
theorem US.out {w : World} {b0 b1 b2 b3 : Nat} {out : List UInt8} {bits many : Nat} {inn : Bool} (h : US w b0 b1 b2 b3 out bits many inn) (a : Ap4 b0 b1 b2 b3) (o : List UInt8) : US (w.setCell ⟨b0, 0, none⟩ (.string ⟨o.toArray⟩)) b0 b1 b2 b3 o bits many inn :=
  ⟨h.c0.set _, h.c1.other a.n01 _, h.c2.other a.n02 _, h.c3.other a.n03 _⟩
theorem US.bits {w : World} {b0 b1 b2 b3 : Nat} {out : List UInt8} {bits many : Nat} {inn : Bool} (h : US w b0 b1 b2 b3 out bits many inn) (a : Ap4 b0 b1 b2 b3) (x : Nat) : US (w.setCell ⟨b1, 0, none⟩ (.int .u32 x)) b0 b1 b2 b3 out x many inn :=
  ⟨h.c0.other a.n01.symm _, h.c1.set _, h.c2.other a.n12 _, h.c3.other a.n13 _⟩
theorem US.many {w : World} {b0 b1 b2 b3 : Nat} {out : List UInt8} {bits many : Nat} {inn : Bool} (h : US w b0 b1 b2 b3 out bits many inn) (a : Ap4 b0 b1 b2 b3) (x : Nat) : US (w.setCell ⟨b2, 0, none⟩ (.int .i64 x)) b0 b1 b2 b3 out bits x inn :=
  ⟨h.c0.other a.n02.symm _, h.c1.other a.n12.symm _, h.c2.set _, h.c3.other a.n23 _⟩
theorem US.inn {w : World} {b0 b1 b2 b3 : Nat} {out : List UInt8} {bits many : Nat} {inn : Bool} (h : US w b0 b1 b2 b3 out bits many inn) (a : Ap4 b0 b1 b2 b3) (x : Bool) : US (w.setCell ⟨b3, 0, none⟩ (.bool x)) b0 b1 b2 b3 out bits many x :=
  ⟨h.c0.other a.n03.symm _, h.c1.other a.n13.symm _, h.c2.other a.n23.symm _, h.c3.set _⟩
theorem US.drew {w : World} {b0 b1 b2 b3 : Nat} {out : List UInt8} {bits many : Nat} {inn : Bool} (h : US w b0 b1 b2 b3 out bits many inn) : US w.drew b0 b1 b2 b3 out bits many inn := ⟨h.c0.drew, h.c1.drew, h.c2.drew, h.c3.drew⟩
theorem US.below {w W : World} {b0 b1 b2 b3 : Nat} {out : List UInt8} {bits many : Nat} {inn : Bool} (h : US w b0 b1 b2 b3 out bits many inn) (hb : Below w.heap.size w W) : US W b0 b1 b2 b3 out bits many inn := ⟨h.c0.below hb, h.c1.below hb, h.c2.below hb, h.c3.below hb⟩
/-- Only these four blocks may have changed, and no block is new. -/
structure But4 (b0 b1 b2 b3 : Nat) (w w' : World) : Prop where
  os : w'.os = w.os
  tape : w'.tape = w.tape
  output : w'.output = w.output
  size : w'.heap.size = w.heap.size
  block : ∀ k, k ≠ b0 → k ≠ b1 → k ≠ b2 → k ≠ b3 → w'.heap[k]? = w.heap[k]?
theorem But4.refl (b0 b1 b2 b3 : Nat) (w : World) : But4 b0 b1 b2 b3 w w := ⟨rfl, rfl, rfl, rfl, fun _ _ _ _ _ => rfl⟩
theorem But4.trans {b0 b1 b2 b3 : Nat} {u v w : World} (h : But4 b0 b1 b2 b3 u v) (g : But4 b0 b1 b2 b3 v w) : But4 b0 b1 b2 b3 u w :=
  ⟨g.os.trans h.os, g.tape.trans h.tape, g.output.trans h.output, g.size.trans h.size, fun k k0 k1 k2 k3 => (g.block k k0 k1 k2 k3).trans (h.block k k0 k1 k2 k3)⟩
theorem But4.drew {b0 b1 b2 b3 : Nat} {u v : World} (h : But4 b0 b1 b2 b3 u v) : But4 b0 b1 b2 b3 u v.drew := ⟨h.os, h.tape, h.output, h.size, h.block⟩
theorem But4.put {b0 b1 b2 b3 : Nat} {u v : World} (h : But4 b0 b1 b2 b3 u v) (B : Nat) (hB : B = b0 ∨ B = b1 ∨ B = b2 ∨ B = b3) (x : Value) : But4 b0 b1 b2 b3 u (v.setCell ⟨B, 0, none⟩ x) :=
  ⟨h.os, h.tape, h.output, by rw [← h.size]; simp [World.setCell], fun k k0 k1 k2 k3 => by
    rw [← h.block k k0 k1 k2 k3]
    have : B ≠ k := by rcases hB with rfl | rfl | rfl | rfl <;> exact Ne.symm (by assumption)
    simp [World.setCell, Array.getElem?_modify, this]⟩

/-- The letters of the first m / 6 sixes of V's m bits. -/
def drain (V : Nat) : Nat → List UInt8
  | 0 => []
  | 1 => []
  | 2 => []
  | 3 => []
  | 4 => []
  | 5 => []
  | m + 6 => letter (V / 2 ^ m % 64) :: drain V m
theorem drain_step (V m : Nat) (h : 6 ≤ m) : drain V m = letter (V / 2 ^ (m - 6) % 64) :: drain V (m - 6) := by
  obtain ⟨k, rfl⟩ : ∃ k, m = k + 6 := ⟨m - 6, by omega⟩
  rw [drain, Nat.add_sub_cancel]
theorem drain_less (V m : Nat) (h : m < 6) : drain V m = [] := by
  rcases (by omega : m = 0 ∨ m = 1 ∨ m = 2 ∨ m = 3 ∨ m = 4 ∨ m = 5) with rfl | rfl | rfl | rfl | rfl | rfl <;> rfl
theorem alpha_at (n : Nat) (h : n < 64) : alpha9.extract n (n + 1) = ⟨[letter n].toArray⟩ := by
  have : ∀ n : Fin 64, alpha9.extract n.val (n.val + 1) = ⟨[letter n.val].toArray⟩ := by decide +kernel
  exact this ⟨n, h⟩
end Go.Proofs.YtbjhmmiijebehaaDoor.Own

namespace Go.Proofs.YtbjhmmiijebehaaDoor.Own
open Go.RowKit Go.Lib
set_option linter.unusedVariables false
set_option linter.unusedSimpArgs false

theorem or_u (x u : Nat) (hx : x < 64) (hu : u < 65536) : bits .or .u32 ((x : Int) * 65536) (u : Int) = ((x * 65536 + u : Nat) : Int) := by
  have hw : ∀ n : Int, 0 ≤ n → n < 2 ^ 32 → IntKind.u32.wrap n = n := fun n h0 h1 => by rw [IntKind.wrap_u32']; omega
  rw [bits_join .u32 32 (by decide) hw 16 ((x : Int) * 65536) (u : Int) (by omega) (by omega) (by omega) (by omega) (by omega) (by omega)]
  omega
def manyOf (w : World) (b : Nat) : Nat := match w.cell? ⟨b, 0, none⟩ with | some (.int _ n) => n.toNat | _ => 0
theorem US.manyOf {w : World} {b0 b1 b2 b3 : Nat} {out : List UInt8} {bits many : Nat} {inn : Bool} (h : US w b0 b1 b2 b3 out bits many inn) : Own.manyOf w b2 = many := by
  unfold Own.manyOf; rw [h.c2.cell]; simp
def Ninv (w wr : World) (b0 b1 b2 b3 V k : Nat) (inn : Bool) (tot : List UInt8) : Prop :=
  ∃ o m, US wr b0 b1 b2 b3 o V m inn ∧ o ++ drain V m = tot ∧ m % 6 = k ∧ m < 22 ∧ But4 b0 b1 b2 b3 w wr
theorem drain_len (V : Nat) : ∀ m, (drain V m).length = m / 6
  | 0 => rfl
  | 1 => rfl
  | 2 => rfl
  | 3 => rfl
  | 4 => rfl
  | 5 => rfl
  | m + 6 => by rw [drain, List.length_cons, drain_len V m]; omega
theorem and_u32 (a b : Nat) (ha : a < 4294967296) (hb : b < 4294967296) : bits .and .u32 (a : Int) (b : Int) = ((a &&& b : Nat) : Int) := by
  have hx : a &&& b < 2 ^ 32 := Nat.and_lt_two_pow _ (by omega)
  show IntKind.u32.wrap ((BitVec.ofInt 32 (a : Int) &&& BitVec.ofInt 32 (b : Int)).toNat : Int) = _
  rw [BitVec.toNat_and, BitVec.ofInt_natCast, BitVec.toNat_ofNat, BitVec.ofInt_natCast, BitVec.toNat_ofNat, Nat.mod_eq_of_lt (by omega : a < 2 ^ 32), Nat.mod_eq_of_lt (by omega : b < 2 ^ 32), IntKind.wrap_u32']
  omega
theorem and_shr (V e : Nat) (h : V < 4294967296) : bits .and .u32 ((V : Int) / 2 ^ e) 63 = ((V / 2 ^ e % 64 : Nat) : Int) := by
  have h0 : ((V : Int) / 2 ^ e) = ((V / 2 ^ e : Nat) : Int) := by push_cast; rfl
  have hl : V / 2 ^ e < 4294967296 := Nat.lt_of_le_of_lt (Nat.div_le_self _ _) h
  have h1 := and_u32 (V / 2 ^ e) 63 hl (by omega)
  have h2 : V / 2 ^ e &&& 63 = V / 2 ^ e % 64 := Nat.and_two_pow_sub_one_eq_mod _ 6
  rw [h2] at h1
  rw [h0]
  exact h1
theorem and_low (V j : Nat) (hj : j < 6) (h : V < 4294967296) : bits .and .u32 (V : Int) ((2 ^ j - 1) % 4294967296) = ((V % 2 ^ j : Nat) : Int) := by
  have h0 : (((2 : Int) ^ j - 1) % 4294967296) = ((2 ^ j - 1 : Nat) : Int) := by
    rcases (by omega : j = 0 ∨ j = 1 ∨ j = 2 ∨ j = 3 ∨ j = 4 ∨ j = 5) with rfl | rfl | rfl | rfl | rfl | rfl <;> rfl
  have hl : 2 ^ j - 1 < 4294967296 := by
    rcases (by omega : j = 0 ∨ j = 1 ∨ j = 2 ∨ j = 3 ∨ j = 4 ∨ j = 5) with rfl | rfl | rfl | rfl | rfl | rfl <;> decide
  rw [h0, and_u32 V _ h hl, Nat.and_two_pow_sub_one_eq_mod]
set_option maxHeartbeats 4000000 in
set_option maxRecDepth 100000 in
theorem unit_any (w : World) (b0 b1 b2 b3 : Nat) (hA : Ap4 b0 b1 b2 b3) (out : List UInt8) (x m : Nat) (inn : Bool) (u : Nat) (hx : x < 64) (hm : m < 6) (hu : u < 65536) (hlen : out.length ≤ 100000) (h : US w b0 b1 b2 b3 out x m inn) :
    Calls Tryd.prog 14 #[.int .u32 u, .pointer (some ⟨b1, 0, none⟩), .pointer (some ⟨b2, 0, none⟩), .pointer (some ⟨b0, 0, none⟩)] w fun e w' =>
      e = .returned (.tuple #[]) ∧ But4 b0 b1 b2 b3 w w' ∧ US w' b0 b1 b2 b3 (out ++ drain (x * 65536 + u) (m + 16)) ((x * 65536 + u) % 2 ^ ((m + 16) % 6)) ((m + 16) % 6) inn := by
  have q1 := h.c1.cell
  have f1 := h.c1.free
  have q2 := h.c2.cell
  have f2 := h.c2.free
  have hor := or_u x u hx hu
  have hsh : IntKind.u32.wrap ((x : Int) * 65536) = (x : Int) * 65536 := by rw [IntKind.wrap_u32']; omega
  have hm16 : IntKind.i64.wrap ((m : Int) + 16) = ((m + 16 : Nat) : Int) := by rw [IntKind.wrap_i64]; omega
  have n12 : ¬ b1 = b2 := hA.n12
  have n21 : ¬ b2 = b1 := hA.n12.symm
  have h' := Lib.hid h
  have hA' := Lib.hid hA
  clear h hA
  go_enter Tryd.func14, Tryd.ntmps14
  go_wp2
  go_region
  have hV : (x : Int) * 65536 + (u : Int) = ((x * 65536 + u : Nat) : Int) := by omega
  obtain ⟨M, hMd⟩ : ∃ M, M = m + 16 := ⟨_, rfl⟩
  have hM : (m : Int) + 16 = (M : Int) := by omega
  rw [hV, hM]
  have hM6 : M < 22 := by omega
  have hMd' := Lib.hid hMd
  clear hM hor hsh hm16 hMd
  obtain ⟨V, hVd⟩ : ∃ V, V = x * 65536 + u := ⟨_, rfl⟩
  have hV22 : V < 4194304 := by omega
  rw [← hVd]
  obtain ⟨W, hW⟩ : ∃ W : World, W = ((w.setCell ⟨b1, 0, none⟩ (.int .u32 (V : Int))).setCell ⟨b2, 0, none⟩ (.int .i64 (M : Int))).drew := ⟨_, rfl⟩
  rw [← hW]
  have hU : US W b0 b1 b2 b3 out V M inn := by rw [hW]; exact ((h'.out.bits hA'.out V).many hA'.out M).drew
  have hB : But4 b0 b1 b2 b3 w W := by rw [hW]; exact (((But4.refl _ _ _ _ _).put b1 (by simp) _).put b2 (by simp) _).drew
  obtain ⟨tot, htot⟩ : ∃ tot, tot = out ++ drain V M := ⟨_, rfl⟩
  obtain ⟨k, hk⟩ : ∃ k, k = M % 6 := ⟨_, rfl⟩

  have htl : tot.length ≤ 100004 := by rw [htot, List.length_append, drain_len]; omega
  have hVd' := Lib.hid hVd
  have htot' := Lib.hid htot
  have hk' := Lib.hid hk
  have atS : Ninv w W b0 b1 b2 b3 V k inn tot := ⟨out, M, hU, htot.symm, hk.symm, by omega, hB⟩
  clear hW q1 f1 q2 f2 hVd hV htot hk
  go_wp2
  go_loopw [5] (fun _ wr => Ninv w wr b0 b1 b2 b3 V k inn tot) (fun _ wr => manyOf wr b2)
  case atStart => exact atS
  case round =>
    obtain ⟨wx, rfl⟩ : ∃ wx : World, wx = wr := ⟨_, rfl⟩
    obtain ⟨o, j, hUj, hoj, hjk, hj22, hBj⟩ := hrel
    have q0 := hUj.c0.cell
    have f0 := hUj.c0.free
    have q1 := hUj.c1.cell
    have f1 := hUj.c1.free
    have q2 := hUj.c2.cell
    have f2 := hUj.c2.free
    by_cases h6 : 6 ≤ j
    · have h6' : (6 : Int) ≤ (j : Int) := by omega
      have hw6 : IntKind.i64.wrap ((j : Int) - 6) = ((j - 6 : Nat) : Int) := by rw [IntKind.wrap_i64]; omega
      have hand := and_shr V (j - 6) (by omega)
      obtain ⟨D, hD⟩ : ∃ D, D = V / 2 ^ (j - 6) % 64 := ⟨_, rfl⟩
      have hD64 : D < 64 := by omega
      rw [← hD] at hand
      have hD' := Lib.hid hD
      have hoj' := Lib.hid hoj
      have hjk' := Lib.hid hjk
      clear hD hoj hjk
      have hw1 : IntKind.u32.wrap ((D : Int) + 1) = (D : Int) + 1 := by rw [IntKind.wrap_u32']; omega
      have hal := alpha_at D hD64
      unfold alpha9 at hal
      have hol : o.length ≤ 100004 := by have := congrArg List.length hoj'.out; rw [List.length_append] at this; omega
      obtain ⟨SO, hSO⟩ : ∃ S : ByteArray, S = ⟨o.toArray⟩ := ⟨_, rfl⟩
      obtain ⟨SL, hSL⟩ : ∃ S : ByteArray, S = ⟨[letter D].toArray⟩ := ⟨_, rfl⟩
      have hso : SO.size ≤ 100004 := by rw [hSO]; exact hol
      have hsl : SL.size ≤ 1 := by rw [hSL]; exact Nat.le_refl _
      rw [← hSL] at hal
      rw [← hSO] at q0
      have hSO' := Lib.hid hSO
      have hSL' := Lib.hid hSL
      clear hSO hSL
      have g64 : (D : Int) < 64 := by omega
      go_wp2
      go_region
      have hstr : SO ++ SL = ⟨(o ++ [letter D]).toArray⟩ := by
        rw [hSO'.out, hSL'.out]
        apply ByteArray.ext
        simp
      rw [hstr]
      obtain ⟨W1, hW1⟩ : ∃ W1 : World, W1 = (wx.setCell ⟨b0, 0, none⟩ (.string ⟨(o ++ [letter D]).toArray⟩)).drew := ⟨_, rfl⟩
      rw [← hW1]
      have hU1 : US W1 b0 b1 b2 b3 (o ++ [letter D]) V j inn := by rw [hW1]; exact (hUj.out hA'.out _).drew
      have hB1 : But4 b0 b1 b2 b3 w W1 := by rw [hW1]; exact (hBj.put b0 (by simp) _).drew
      have q2' := hU1.c2.cell
      have f2' := hU1.c2.free
      have hmo : manyOf wx b2 = j := hUj.manyOf
      have hmo' := Lib.hid hmo
      clear hW1 hstr hal hso hsl q0 f0 q1 f1 q2 f2 hmo
      go_wp2
      have hU2 := hU1.many hA'.out (j - 6)
      refine ⟨⟨o ++ [letter D], j - 6, hU2, ?_, by have := hjk'.out; omega, by omega, hB1.put b2 (by simp) _⟩, ?_⟩
      · have := hoj'.out
        rw [drain_step V j h6, ← hD'.out] at this
        rw [List.append_assoc]
        exact this
      · rw [hU2.manyOf, hmo'.out]; omega
    · have h6' : ¬ (6 : Int) ≤ (j : Int) := by omega
      have hj5 : j < 6 := by omega
      have hoj' := Lib.hid hoj
      have hjk' := Lib.hid hjk
      clear hoj hjk
      go_wp2
      go_region
      have hx2 := and_low V j hj5 (by omega)
      rw [hx2]
      go_end0
      refine ⟨rfl, (hBj.put b1 (by simp) _).drew, ?_⟩
      have h1 := hoj'.out
      rw [drain_less V j hj5, List.append_nil] at h1
      have h2 : j = k := by rw [← hjk'.out]; omega
      have hU2 := (hUj.bits hA'.out (V % 2 ^ j)).drew
      rw [← hVd'.out, ← hMd'.out, ← htot'.out, ← hk'.out, ← h1, ← h2]
      exact hU2
end Go.Proofs.YtbjhmmiijebehaaDoor.Own

namespace Go.Proofs.YtbjhmmiijebehaaDoor.Own
open Go.RowKit Go.Lib
set_option linter.unusedVariables false
set_option linter.unusedSimpArgs false

def lastL (x m : Nat) : List UInt8 := if 0 < m then [letter (x * 2 ^ (6 - m) % 64)] else []
def dashL (inn : Bool) : List UInt8 := if inn then [45] else []
theorem shut_tail (w W : World) (b0 b1 b2 b3 : Nat) (hA : Ap4 b0 b1 b2 b3) (out : List UInt8) (x m : Nat) (inn : Bool) (hB : But4 b0 b1 b2 b3 w W) (hU : US W b0 b1 b2 b3 out x m inn) :
    But4 b0 b1 b2 b3 w (((W.setCell ⟨b1, 0, none⟩ (.int .u32 0)).setCell ⟨b2, 0, none⟩ (.int .i64 0)).setCell ⟨b3, 0, none⟩ (.bool false)) ∧
    US (((W.setCell ⟨b1, 0, none⟩ (.int .u32 0)).setCell ⟨b2, 0, none⟩ (.int .i64 0)).setCell ⟨b3, 0, none⟩ (.bool false)) b0 b1 b2 b3 out 0 0 false :=
  ⟨((hB.put b1 (by simp) _).put b2 (by simp) _).put b3 (by simp) _, ((hU.bits hA 0).many hA 0).inn hA false⟩
theorem app_bytes (a b : List UInt8) : (⟨a.toArray⟩ : ByteArray) ++ (⟨b.toArray⟩ : ByteArray) = ⟨(a ++ b).toArray⟩ := by
  apply ByteArray.ext
  simp
set_option maxHeartbeats 4000000 in
set_option maxRecDepth 100000 in
theorem shut_any (w : World) (b0 b1 b2 b3 : Nat) (hA : Ap4 b0 b1 b2 b3) (out : List UInt8) (x m : Nat) (inn : Bool) (hx : x < 64) (hm : m < 6) (hlen : out.length ≤ 200000) (h : US w b0 b1 b2 b3 out x m inn) :
    Calls Tryd.prog 13 #[.pointer (some ⟨b2, 0, none⟩), .pointer (some ⟨b1, 0, none⟩), .pointer (some ⟨b0, 0, none⟩), .pointer (some ⟨b3, 0, none⟩)] w fun e w' =>
      e = .returned (.tuple #[]) ∧ But4 b0 b1 b2 b3 w w' ∧ US w' b0 b1 b2 b3 (out ++ lastL x m ++ dashL inn) 0 0 false := by
  have n12 : ¬ b1 = b2 := hA.n12
  have n21 : ¬ b2 = b1 := hA.n12.symm
  have n01 : ¬ b0 = b1 := hA.n01
  have n10 : ¬ b1 = b0 := hA.n01.symm
  have n02 : ¬ b0 = b2 := hA.n02
  have n20 : ¬ b2 = b0 := hA.n02.symm
  have n03 : ¬ b0 = b3 := hA.n03
  have n30 : ¬ b3 = b0 := hA.n03.symm
  have n13 : ¬ b1 = b3 := hA.n13
  have n31 : ¬ b3 = b1 := hA.n13.symm
  have n23 : ¬ b2 = b3 := hA.n23
  have n32 : ¬ b3 = b2 := hA.n23.symm
  have q0 := h.c0.cell
  have f0 := h.c0.free
  have q1 := h.c1.cell
  have f1 := h.c1.free
  have q2 := h.c2.cell
  have f2 := h.c2.free
  have q3 := h.c3.cell
  have f3 := h.c3.free
  have h' := Lib.hid h
  have hA' := Lib.hid hA
  obtain ⟨SO, hSO⟩ : ∃ S : ByteArray, S = ⟨out.toArray⟩ := ⟨_, rfl⟩
  have hso : SO.size ≤ 200000 := by rw [hSO]; exact hlen
  rw [← hSO] at q0
  have hSO' := Lib.hid hSO
  clear h hA hSO
  by_cases h0 : m = 0
  · subst h0
    cases inn
    · go_enter Tryd.func13, Tryd.ntmps13
      go_wp2
      go_end0
      refine ⟨rfl, ?_⟩
      have := shut_tail w w b0 b1 b2 b3 hA'.out out x 0 false (But4.refl _ _ _ _ _) h'.out
      simpa [lastL, dashL] using this
    · go_enter Tryd.func13, Tryd.ntmps13
      go_wp2
      go_end0
      refine ⟨rfl, ?_⟩
      have := shut_tail w _ b0 b1 b2 b3 hA'.out (out ++ [45]) x 0 true ((But4.refl _ _ _ _ _).put b0 (by simp) _) (h'.out.out hA'.out _)
      rw [hSO'.out, app_bytes out [45]]
      simpa [lastL, dashL] using this
  · have h0' : (0 : Int) < (m : Int) := by omega
    have hw6 : IntKind.i64.wrap (6 - (m : Int)) = ((6 - m : Nat) : Int) := by rw [IntKind.wrap_i64]; omega
    have hxl : x * 2 ^ (6 - m) < 4294967296 := by
      have : 2 ^ (6 - m) ≤ 2 ^ 6 := Nat.pow_le_pow_right (by decide) (by omega)
      calc x * 2 ^ (6 - m) ≤ 64 * 2 ^ 6 := Nat.mul_le_mul (by omega) this
        _ < 4294967296 := by decide
    obtain ⟨Y, hY⟩ : ∃ Y, Y = x * 2 ^ (6 - m) := ⟨_, rfl⟩
    have hYi : (x : Int) * 2 ^ (6 - m) = (Y : Int) := by rw [hY]; push_cast; rfl
    rw [← hY] at hxl
    have hYw : IntKind.u32.wrap (Y : Int) = (Y : Int) := by rw [IntKind.wrap_u32']; omega
    have hYm : (Y : Int) % 4294967296 = (Y : Int) := by omega
    have hand := and_shr Y 0 hxl
    rw [Nat.pow_zero, Nat.div_one, Int.pow_zero, Int.ediv_one] at hand
    obtain ⟨D, hD⟩ : ∃ D, D = Y % 64 := ⟨_, rfl⟩
    have hD64 : D < 64 := by omega
    rw [← hD] at hand
    have hw1 : IntKind.u32.wrap ((D : Int) + 1) = (D : Int) + 1 := by rw [IntKind.wrap_u32']; omega
    have hal := alpha_at D hD64
    unfold alpha9 at hal
    have g64 : (D : Int) < 64 := by omega
    obtain ⟨SL, hSL⟩ : ∃ S : ByteArray, S = ⟨[letter D].toArray⟩ := ⟨_, rfl⟩
    have hsl : SL.size ≤ 1 := by rw [hSL]; exact Nat.le_refl _
    rw [← hSL] at hal
    have hSL' := Lib.hid hSL
    have hDY : Hid (lastL x m = [letter D]) := Lib.hid (by unfold lastL; rw [if_pos (by omega), hD, hY])
    clear hSL hD hY
    go_enter Tryd.func13, Tryd.ntmps13
    go_wp2
    go_region
    obtain ⟨S2, hS2⟩ : ∃ S : ByteArray, S = ⟨(out ++ [letter D]).toArray⟩ := ⟨_, rfl⟩
    have hstr : SO ++ SL = S2 := by rw [hSO'.out, hSL'.out, app_bytes, hS2]
    rw [hstr]
    have hs2 : S2.size ≤ 200001 := by rw [hS2]; show (out ++ [letter D]).toArray.size ≤ _; simp; omega
    obtain ⟨W1, hW1⟩ : ∃ W1 : World, W1 = (w.setCell ⟨b0, 0, none⟩ (.string S2)).drew := ⟨_, rfl⟩
    rw [← hW1]
    have hU1 : US W1 b0 b1 b2 b3 (out ++ [letter D]) x m inn := by rw [hW1, hS2]; exact (h'.out.out hA'.out _).drew
    have hB1 : But4 b0 b1 b2 b3 w W1 := by rw [hW1]; exact ((But4.refl _ _ _ _ _).put b0 (by simp) _).drew
    have hS2' := Lib.hid hS2
    have q0' := hU1.c0.cell
    rw [← hS2] at q0'
    have f0' := hU1.c0.free
    have q1' := hU1.c1.cell
    have f1' := hU1.c1.free
    have q2' := hU1.c2.cell
    have f2' := hU1.c2.free
    have q3' := hU1.c3.cell
    have f3' := hU1.c3.free
    have hU1' := Lib.hid hU1
    clear hW1 hS2 hstr hal hso hsl hU1
    cases inn
    · go_wp2
      go_end0
      refine ⟨rfl, ?_⟩
      have := shut_tail w W1 b0 b1 b2 b3 hA'.out _ x m false hB1 hU1'.out
      rw [hDY.out]
      simpa [dashL] using this
    · go_wp2
      go_end0
      refine ⟨rfl, ?_⟩
      have := shut_tail w _ b0 b1 b2 b3 hA'.out (out ++ [letter D] ++ [45]) x m true (hB1.put b0 (by simp) _) (hU1'.out.out hA'.out _)
      rw [hDY.out, hS2'.out, app_bytes (out ++ [letter D]) [45]]
      exact this
end Go.Proofs.YtbjhmmiijebehaaDoor.Own
