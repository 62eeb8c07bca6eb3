/- Blocks of one cell, and worlds that differ in one block. No law of the program is proved here. -/
import Derived.Test.YtldiamldbpobgaaGreatDoorProg
import Derived.WalkKit
import Derived.WalkSpells
import Derived.WalkSmall
import Derived.Lib.Hide
import Derived.Lib.OthersKept
import Derived.BigQuiet
import Derived.Deep.QuietTactic
namespace Go.Proofs.YtldiamldbpobgaaGreatDoor.Own
open Go.RowKit Go.Lib
set_option linter.unusedVariables false
set_option linter.unusedSimpArgs false

/-- Block B holds one cell. -/
def One (w : World) (B : Nat) (e : TypeId) (v : Value) : Prop := w.heap[B]? = some (.cells #[v] e (0, 0))
theorem One.lt {w : World} {B : Nat} {e : TypeId} {v : Value} (h : One w B e v) : B < w.heap.size := (Array.getElem?_eq_some_iff.1 h).1
theorem One.cell {w : World} {B : Nat} {e : TypeId} {v : Value} (h : One w B e v) : w.cell? ⟨B, 0, none⟩ = some v := by
  unfold One at h; simp [World.cell?, h]
theorem One.free {w : World} {B : Nat} {e : TypeId} {v : Value} (h : One w B e v) : w.frozen? ⟨B, 0, none⟩ = false := by
  unfold One at h; simp [World.frozen?, h]
theorem One.set {w : World} {B : Nat} {e : TypeId} {v : Value} (h : One w B e v) (v' : Value) : One (w.setCell ⟨B, 0, none⟩ v') B e v' := by
  unfold One at h ⊢; simp [World.setCell, Array.getElem?_modify, h]
theorem One.other {w : World} {B : Nat} {e : TypeId} {v : Value} (h : One w B e v) {B' : Nat} (hn : B' ≠ B) (v' : Value) : One (w.setCell ⟨B', 0, none⟩ v') B e v := by
  unfold One at h ⊢; simp [World.setCell, Array.getElem?_modify, h, hn]
theorem One.drew {w : World} {B : Nat} {e : TypeId} {v : Value} (h : One w B e v) : One w.drew B e v := h
theorem One.below {w W : World} {B k : Nat} {e : TypeId} {v : Value} (h : One w B e v) (hb : Below k w W) (hk : B < k) : One W B e v := (hb.block B hk).trans h
theorem One.new (w : World) (e : TypeId) (v : Value) : One (w.alloc (.cells #[v] e)) w.heap.size e v := by
  have := heap_alloc_new w (.cells #[v] e)
  exact this
/-- Block B alone may have changed; blocks may be new. -/
def But (B : Nat) (w w' : World) : Prop := w'.os = w.os ∧ w'.tape = w.tape ∧ w'.output = w.output ∧ w.heap.size ≤ w'.heap.size ∧ ∀ k, k < w.heap.size → k ≠ B → w'.heap[k]? = w.heap[k]?
theorem But.refl (B : Nat) (w : World) : But B w w := ⟨rfl, rfl, rfl, Nat.le_refl _, fun _ _ _ => rfl⟩
theorem But.trans {B : Nat} {a b c : World} (h : But B a b) (g : But B b c) : But B a c :=
  ⟨g.1.trans h.1, g.2.1.trans h.2.1, g.2.2.1.trans h.2.2.1, Nat.le_trans h.2.2.2.1 g.2.2.2.1, fun k hk hn => (g.2.2.2.2 k (Nat.lt_of_lt_of_le hk h.2.2.2.1) hn).trans (h.2.2.2.2 k hk hn)⟩
theorem But.of_below {B k : Nat} {w w' : World} (h : Below k w w') (hk : w.heap.size ≤ k) : But B w w' := ⟨h.os, h.tape, h.output, h.size, fun j hj _ => h.block j (by omega)⟩
theorem But.setCell (B j : Nat) (w : World) (v : Value) : But B w (w.setCell ⟨B, j, none⟩ v) :=
  ⟨rfl, rfl, rfl, by simp [World.setCell], fun k hk hn => by simp [World.setCell, Array.getElem?_modify, Ne.symm hn]⟩
theorem But.below {B k : Nat} {w0 w w' : World} (h : But B w w') (hb : Below k w0 w) (hB : k ≤ B) (hk : k ≤ w0.heap.size) : Below k w0 w' :=
  hb.trans ⟨h.1, h.2.1, h.2.2.1, h.2.2.2.1, fun j hj => h.2.2.2.2 j (Nat.lt_of_lt_of_le (Nat.lt_of_lt_of_le hj hk) hb.size) (by omega)⟩
theorem But.one {B B' : Nat} {w w' : World} {e : TypeId} {v : Value} (h : But B w w') (ho : One w B' e v) (hn : B' ≠ B) : One w' B' e v := (h.2.2.2.2 B' ho.lt hn).trans ho
theorem app_bytes (a b : List UInt8) : (⟨a.toArray⟩ : ByteArray) ++ (⟨b.toArray⟩ : ByteArray) = ⟨(a ++ b).toArray⟩ := by
  apply ByteArray.ext
  simp
theorem get_cons (c : UInt8) (t : List UInt8) : (⟨(c :: t).toArray⟩ : ByteArray).get! 0 = c := by simp [ByteArray.get!]
theorem tail_cons (c : UInt8) (t : List UInt8) : (⟨(c :: t).toArray⟩ : ByteArray).extract 1 (⟨(c :: t).toArray⟩ : ByteArray).size = ⟨t.toArray⟩ := by
  apply ByteArray.ext
  rw [ByteArray.data_extract]
  apply Array.ext'
  have : (⟨(c :: t).toArray⟩ : ByteArray).size = t.length + 1 := rfl
  rw [this]
  simp [Array.toList_extract, List.extract_eq_take_drop]
end Go.Proofs.YtldiamldbpobgaaGreatDoor.Own
