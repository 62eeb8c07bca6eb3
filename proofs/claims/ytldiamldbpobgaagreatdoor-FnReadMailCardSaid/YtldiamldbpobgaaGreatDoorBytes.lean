/- Rows of bytes that '[]byte(s)' lays: what a walk reads and writes in them, and what 'string(b)' makes of them. No law of the program is proved here. -/
import Derived.Test.YtldiamldbpobgaaGreatDoorProg
import Derived.WalkKit
import Derived.Lib.ConvBytes
import Derived.Laws.BytesArg
import Derived.Lib.Hide
namespace Go.Proofs.YtldiamldbpobgaaGreatDoor.Own
open Go.RowKit
set_option linter.unusedVariables false
set_option linter.unusedSimpArgs false

/-- Block B is a row of bytes that a conversion has laid: its first cells are l. -/
def Row8 (e : TypeId) (w : World) (B : Nat) (l : List UInt8) : Prop :=
  ∃ C : Array Value, w.heap[B]? = some (.cells C e (C.size, C.size + 1)) ∧ l.length ≤ C.size ∧ ∀ (j : Nat) (c : UInt8), l[j]? = some c → C[j]? = some (Value.int .u8 (c.toNat : Int))

theorem Row8.cell {e : TypeId} {w : World} {B : Nat} {l : List UInt8} (h : Row8 e w B l) {j : Nat} {c : UInt8} (hj : l[j]? = some c) : w.cell? ⟨B, j, none⟩ = some (.int .u8 (c.toNat : Int)) := by
  obtain ⟨C, hC, hn, hc⟩ := h
  simp [World.cell?, hC, hc j c hj]

theorem Row8.free {e : TypeId} {w : World} {B : Nat} {l : List UInt8} (h : Row8 e w B l) {j : Nat} (hj : j < l.length) : w.frozen? ⟨B, j, none⟩ = false := by
  obtain ⟨C, hC, hn, hc⟩ := h
  simp [World.frozen?, hC]
  omega

theorem Row8.set {e : TypeId} {w : World} {B : Nat} {l : List UInt8} (h : Row8 e w B l) (j : Nat) (v : UInt8) : Row8 e (w.setCell ⟨B, j, none⟩ (.int .u8 (v.toNat : Int))) B (l.set j v) := by
  obtain ⟨C, hC, hn, hc⟩ := h
  refine ⟨C.setIfInBounds j (.int .u8 (v.toNat : Int)), ?_, by simpa using hn, ?_⟩
  · simp only [World.setCell, Array.getElem?_modify]
    simp [hC]
  · intro i c hi
    by_cases hij : j = i
    · subst hij
      have hl : j < l.length := by
        rcases Nat.lt_or_ge j l.length with h | h
        · exact h
        · rw [List.getElem?_eq_none (by simpa using h)] at hi; cases hi
      have hs : j < C.size := by omega
      rw [List.getElem?_set_self hl] at hi
      cases hi
      simp [hs]
    · rw [List.getElem?_set_ne hij] at hi
      rw [Array.getElem?_setIfInBounds_ne hij]
      exact hc i c hi

theorem Row8.drew {e : TypeId} {w : World} {B : Nat} {l : List UInt8} (h : Row8 e w B l) : Row8 e w.drew B l := h

theorem Row8.of_conv (w : World) (e : TypeId) (s : ByteArray) : Row8 e (Lib.bytesWorld w e s) w.heap.size s.data.toList := by
  refine ⟨Lib.bytesCells w e s, Lib.bytesWorld_at_new w e s, ?_, ?_⟩
  · simp [Lib.bytesCells]
  · intro j c hj
    have hj' : j < s.data.size := by
      rcases Nat.lt_or_ge j s.data.size with h | h
      · exact h
      · rw [List.getElem?_eq_none (by simpa using h)] at hj; cases hj
    rw [List.getElem?_eq_getElem (by simpa using hj')] at hj
    cases hj
    have hs : j < s.size := hj'
    simp [Lib.bytesCells, Array.getElem?_append, hs, hj']

theorem below_conv (w : World) (e : TypeId) (s : ByteArray) : Below w.heap.size w (Lib.bytesWorld w e s) :=
  ⟨rfl, rfl, rfl, by rw [Lib.bytesWorld_size]; omega, fun k hk => Lib.bytesWorld_at_old w e s k hk⟩

/-- 'string(b)' of such a row. -/
theorem Row8.string {P : Program} {e : TypeId} {w : World} {B : Nat} {l : List UInt8} (h : Row8 e w B l) (src dst : TypeId) (hs : P.underlying src = some (.slice e)) (he : P.underlying e = some (.int .u8)) (hd : P.underlying dst = some .string) (n cap : Nat) (hn : n = l.length) :
    (convert src dst (.slice (some ⟨B, 0, none⟩) n cap)).run P w = .ok (.string ⟨l.toArray⟩) w := by
  subst hn
  have := run_convert_bytes_arg (P := P) w src e hs he B 0 l.length cap (l.map fun c => (c.toNat : Int)) (by simp) (fun i hi => by
    rw [Nat.zero_add, h.cell (List.getElem?_eq_getElem hi)]
    simp [List.getD_eq_getElem?_getD, List.getElem?_eq_getElem hi]) dst hd
  rw [this]
  have e2 : strOfNums (l.map fun c => (c.toNat : Int)) = ⟨l.toArray⟩ := by
    apply ByteArray.ext
    apply Array.ext'
    rw [strOfNums_data]
    simp [Function.comp_def]
  rw [e2]
end Go.Proofs.YtldiamldbpobgaaGreatDoor.Own
